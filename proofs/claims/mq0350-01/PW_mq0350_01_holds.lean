import PyProof.Rows.All
import Wide.All
import OpenK.AllK
import Wide.FinOn
import Lean
import PySem.Challenge.RW_mq0350_01
open PySem PySem.W PyProof.Rows
set_option Elab.async false
set_option maxRecDepth 100000
set_option maxHeartbeats 8000000
set_option linter.unusedVariables false
set_option linter.unusedSimpArgs false
set_option compiler.extract_closed false
namespace Mine
/-- the head's hook with one more look (where standard input stands): with it the head is taken whole, not in pieces, and is small -/
def osHook (H : Hook) : Hook where
  α := H.α × Nat
  obs := fun s => (H.obs s, s.os.stdinAt)
  val := fun w => (H.val w, 0)
  says := H.says
  of := fun w s e => H.of w s (Prod.mk.inj e).1
  keeps := H.keeps
local macro_rules | `(tactic| o_head ($f $k $a $e $t)) => `(tactic| o_head (osHook ($f $k $a $e $t)))
open_top hd for PySem.Challenge.rw_mq0350_01.row
end Mine
set_option maxHeartbeats 1000000
namespace Mine
theorem fill_all (w : World) : PySem.Challenge.rw_mq0350_01 = PySem.Challenge.rw_mq0350_01 ∧ hd.heap_1 w.params = hd.heap_1 w.params := by
  k_fill
  exact ⟨rfl, rfl⟩
theorem rst_Lin : True := by
  w_top off
  trivial
/-- a small checker for linear facts of naturals: its proofs are far smaller than omega's -/
inductive Ae where
  | v (i : Nat)
  | n (k : Nat)
  | a (e f : Ae)
  | m (k : Nat) (e : Ae)
  | r (e : Ae) (k : Nat)
inductive Lc where
  | o
  | c (m : Nat) (l r : Ae) (t : Lc)
noncomputable def aPick : List Nat → Nat → Nat
  | [], _ => 0
  | x :: _, 0 => x
  | _ :: t, i + 1 => aPick t i
noncomputable def Ae.den (xs : List Nat) : Ae → Nat
  | .v i => aPick xs i
  | .n k => k
  | .a e f => e.den xs + f.den xs
  | .m k e => k * e.den xs
  | .r e k => e.den xs * k
noncomputable def addL : List Nat → List Nat → List Nat
  | [], l => l
  | a :: s, [] => a :: s
  | a :: s, b :: t => (a + b) :: addL s t
noncomputable def mulL (k : Nat) : List Nat → List Nat
  | [] => []
  | a :: s => (k * a) :: mulL k s
noncomputable def oneL : Nat → List Nat
  | 0 => [1]
  | i + 1 => 0 :: oneL i
noncomputable def Ae.lf : Ae → List Nat
  | .v i => 0 :: oneL i
  | .n k => [k]
  | .a e f => addL e.lf f.lf
  | .m k e => mulL k e.lf
  | .r e k => mulL k e.lf
noncomputable def geL : List Nat → List Nat → Bool
  | _, [] => true
  | [], b :: t => Nat.beq b 0 && geL [] t
  | a :: s, b :: t => Nat.ble b a && geL s t
noncomputable def aDot : List Nat → List Nat → Nat
  | c :: cs, x :: xs => c * x + aDot cs xs
  | _, _ => 0
noncomputable def Lc.imp (xs : List Nat) (G : Prop) : Lc → Prop
  | .o => G
  | .c _ l r t => l.den xs ≤ r.den xs → t.imp xs G
noncomputable def Lc.go : List Nat → List Nat → Lc → Bool
  | L, R, .o => geL L (addL R [1])
  | L, R, .c m l r t => t.go (addL L (mulL m l.lf)) (addL R (mulL m r.lf))
theorem dot_nil (xs : List Nat) : aDot [] xs = 0 := by cases xs <;> rfl
theorem dot_add : ∀ (a b xs : List Nat), aDot (addL a b) xs = aDot a xs + aDot b xs
  | [], b, xs => by rw [dot_nil, Nat.zero_add]; rfl
  | a :: s, [], xs => by rw [dot_nil]; rfl
  | a :: s, b :: t, [] => rfl
  | a :: s, b :: t, x :: xs => by
    show (a + b) * x + aDot (addL s t) xs = (a * x + aDot s xs) + (b * x + aDot t xs)
    rw [dot_add s t xs, Nat.add_mul, Nat.add_add_add_comm]
theorem dot_mul (k : Nat) : ∀ (a xs : List Nat), aDot (mulL k a) xs = k * aDot a xs
  | [], xs => by show aDot [] xs = _; rw [dot_nil, Nat.mul_zero]
  | a :: s, [] => rfl
  | a :: s, x :: xs => by
    show (k * a) * x + aDot (mulL k s) xs = k * (a * x + aDot s xs)
    rw [dot_mul k s xs, Nat.mul_add, Nat.mul_assoc]
theorem dot_one : ∀ (i : Nat) (xs : List Nat), aDot (oneL i) xs = aPick xs i
  | 0, [] => rfl
  | 0, x :: xs => by show 1 * x + aDot [] xs = x; rw [dot_nil, Nat.one_mul, Nat.add_zero]
  | i + 1, [] => rfl
  | i + 1, x :: xs => by show 0 * x + aDot (oneL i) xs = aPick xs i; rw [dot_one i xs, Nat.zero_mul, Nat.zero_add]
theorem dot_den (xs : List Nat) : ∀ e : Ae, aDot e.lf (1 :: xs) = e.den xs
  | .v i => by show 0 * 1 + aDot (oneL i) xs = aPick xs i; rw [dot_one i xs, Nat.zero_mul, Nat.zero_add]
  | .n k => by show k * 1 + aDot [] xs = k; rw [dot_nil, Nat.mul_one, Nat.add_zero]
  | .a e f => by show aDot (addL e.lf f.lf) _ = _; rw [dot_add, dot_den xs e, dot_den xs f]; rfl
  | .m k e => by show aDot (mulL k e.lf) _ = _; rw [dot_mul, dot_den xs e]; rfl
  | .r e k => by show aDot (mulL k e.lf) _ = _; rw [dot_mul, dot_den xs e, Nat.mul_comm]; rfl
theorem dot_ge : ∀ (a b xs : List Nat), geL a b = true → aDot b xs ≤ aDot a xs
  | _, [], xs, _ => by rw [dot_nil]; exact Nat.zero_le _
  | [], b :: t, [], _ => Nat.le_refl _
  | [], b :: t, x :: xs, h => by
    obtain ⟨h1, h2⟩ := (Bool.and_eq_true _ _).mp h
    have := dot_ge [] t xs h2
    rw [dot_nil] at this ⊢
    show b * x + aDot t xs ≤ 0
    rw [Nat.eq_of_beq_eq_true h1, Nat.zero_mul, Nat.zero_add]; exact this
  | a :: s, b :: t, [], _ => Nat.le_refl _
  | a :: s, b :: t, x :: xs, h => by
    obtain ⟨h1, h2⟩ := (Bool.and_eq_true _ _).mp h
    exact Nat.add_le_add (Nat.mul_le_mul_right x (Nat.le_of_ble_eq_true h1)) (dot_ge s t xs h2)
theorem go_ok (xs : List Nat) (G : Prop) : ∀ (cs : Lc) (L R : List Nat), cs.go L R = true → (G ∨ aDot L (1 :: xs) ≤ aDot R (1 :: xs)) → cs.imp xs G
  | .o, L, R, h, hl => by
    refine hl.elim id fun hl => absurd (dot_ge _ _ (1 :: xs) h) (Nat.not_le_of_lt ?_)
    rw [dot_add]
    show aDot L (1 :: xs) + 1 ≤ aDot R (1 :: xs) + (1 * 1 + aDot [] xs)
    rw [dot_nil]; exact Nat.succ_le_succ hl
  | .c m l r t, L, R, h, hl => fun hlr => by
    refine go_ok xs G t _ _ h (hl.imp id fun hl => ?_)
    rw [dot_add, dot_add, dot_mul, dot_mul, dot_den, dot_den]
    exact Nat.add_le_add hl (Nat.mul_le_mul_left m hlr)
/-- the goal l ≤ r out of the facts of cs -/
theorem aLin (xs : List Nat) (g : Nat) (l r : Ae) (cs : Lc) (h : cs.go (mulL g (addL r.lf [1])) (mulL g l.lf) = true) : cs.imp xs (l.den xs ≤ r.den xs) := by
  refine go_ok xs _ cs _ _ h ?_
  refine (Nat.lt_or_ge (r.den xs) (l.den xs)).symm.imp id fun hl => ?_
  rw [dot_mul, dot_mul, dot_add, dot_den, dot_den]
  refine Nat.mul_le_mul_left g ?_
  show r.den xs + (1 * 1 + aDot [] xs) ≤ _
  rw [dot_nil]; exact hl
theorem aLinF (xs : List Nat) (cs : Lc) (h : cs.go [] [] = true) : cs.imp xs False :=
  go_ok xs _ cs _ _ h (.inr (Nat.le_refl _))
theorem sb1 {a b : Nat} : a ≤ a - b + b := Nat.sub_le_iff_le_add.mp (Nat.le_refl _)
theorem sb2 {a b : Nat} (h : b ≤ a) : a - b + b ≤ a := Nat.le_of_eq (Nat.sub_add_cancel h)
theorem dv1 {a : Nat} : a / 2 * 2 ≤ a := Nat.div_mul_le_self a 2
theorem dv2 {a : Nat} : a + 1 ≤ a / 2 * 2 + 2 := Nat.lt_div_mul_add (Nat.zero_lt_succ 1)
theorem eqL {a b : Nat} (h : a = b) : a ≤ b := h ▸ Nat.le_refl a
theorem eqG {a b : Nat} (h : a = b) : b ≤ a := h ▸ Nat.le_refl a

theorem rst_OmL : True := by
  w_top off
  trivial
theorem oq0 {x0 x1 : Nat} (h0 : x0 < x1) : x1 + 1 - (x0 + 1) < x1 + 1 - x0 := (aLin [((x1 + 1) - (x0 + 1)), x0, x1, ((x1 + 1) - x0)] 1 (.a (.v 0) (.n 1)) (.v 3) (.c 1 (.a (.v 0) (.a (.v 1) (.n 1))) (.a (.v 2) (.n 1)) (.c 1 (.a (.v 2) (.n 1)) (.a (.v 3) (.v 1)) .o)) rfl (sb2 (aLin [x0, x1] 1 (.a (.v 0) (.n 1)) (.a (.v 1) (.n 1)) (.c 1 (.a (.v 0) (.n 1)) (.v 1) .o) rfl h0)) (sb1 (a := (x1 + 1)) (b := x0)))
theorem oq1 {x0 x1 : Nat} (h0 : x0 ≤ x1) (h1 : ¬x0 < x1) : x0 = x1 := (Nat.le_antisymm (aLin [x0, x1] 1 (.v 0) (.v 1) (.c 1 (.v 0) (.v 1) .o) rfl h0) (aLin [x1, x0] 1 (.v 0) (.v 1) (.c 1 (.v 0) (.v 1) .o) rfl (Nat.le_of_not_lt h1)))
theorem oq2 {x0 x1 : Nat} (h0 : x0 < x1) : 1 ≤ (↑x0 : Int) + 1 := Int.add_le_add_right (Int.natCast_nonneg x0) 1
theorem oq3 {x0 x1 : Nat} (h0 : x0 < 4000) (h1 : x1 ≤ x0) : x1 < 4096 := (aLin [x0, x1] 1 (.a (.v 1) (.n 1)) (.n 4096) (.c 1 (.a (.v 0) (.n 1)) (.n 4000) (.c 1 (.v 1) (.v 0) .o)) rfl h0 h1)
theorem oq4 {x0 x1 : Nat} (h0 : x0 < 4000) (h1 : x1 ≤ x0) : x1 + 1 < 4096 := (aLin [x0, x1] 1 (.a (.a (.v 1) (.n 1)) (.n 1)) (.n 4096) (.c 1 (.a (.v 0) (.n 1)) (.n 4000) (.c 1 (.v 1) (.v 0) .o)) rfl h0 h1)
theorem oq5 {x0 x1 x2 x3 : Nat} (h0 : x0 ≤ x1) (h1 : x2 ≤ x3) (h2 : x3 < x0) : x2 ≤ x1 := (aLin [x0, x1, x2, x3] 1 (.v 2) (.v 1) (.c 1 (.v 0) (.v 1) (.c 1 (.v 2) (.v 3) (.c 1 (.a (.v 3) (.n 1)) (.v 0) .o))) rfl h0 h1 h2)
theorem oq6 {x0 x1 : Nat} (h0 : x0 ≤ x1) : x0 + 1 ≤ x1 + 1 := (aLin [x0, x1] 1 (.a (.v 0) (.n 1)) (.a (.v 1) (.n 1)) (.c 1 (.v 0) (.v 1) .o) rfl h0)
theorem oq7 {x0 x1 : Nat} (h0 : x0 ≤ x1) : x0 ≤ x1 + 1 := (aLin [x0, x1] 1 (.v 0) (.a (.v 1) (.n 1)) (.c 1 (.v 0) (.v 1) .o) rfl h0)
theorem oq8 {x0 x1 : Nat} : x0 + 1 + x1 = x0 + (x1 + 1) := (Nat.le_antisymm (aLin [x0, x1] 1 (.a (.a (.v 0) (.n 1)) (.v 1)) (.a (.v 0) (.a (.v 1) (.n 1))) .o rfl) (aLin [x0, x1] 1 (.a (.v 0) (.a (.v 1) (.n 1))) (.a (.a (.v 0) (.n 1)) (.v 1)) .o rfl))
theorem oq9 {x0 x1 : Nat} : (↑(x0 + 1 + x1) : Int) = (↑(x0 + (x1 + 1)) : Int) := congrArg (fun n : Nat => (n : Int)) (Nat.le_antisymm (aLin [x0, x1] 1 (.a (.a (.v 0) (.n 1)) (.v 1)) (.a (.v 0) (.a (.v 1) (.n 1))) .o rfl) (aLin [x0, x1] 1 (.a (.v 0) (.a (.v 1) (.n 1))) (.a (.a (.v 0) (.n 1)) (.v 1)) .o rfl))
theorem oq10 {x0 x1 : Nat} : x0 + x1 + 1 = x1 + 1 + x0 := (Nat.le_antisymm (aLin [x0, x1] 1 (.a (.a (.v 0) (.v 1)) (.n 1)) (.a (.a (.v 1) (.n 1)) (.v 0)) .o rfl) (aLin [x1, x0] 1 (.a (.a (.v 0) (.n 1)) (.v 1)) (.a (.a (.v 1) (.v 0)) (.n 1)) .o rfl))
theorem oq11 {x0 x1 x2 : Nat} (h0 : x0 + x1 + 1 = x2) : 0 + x0 + x1 + 1 = 0 + x2 := (Nat.le_antisymm (aLin [x0, x1, x2] 1 (.a (.a (.a (.n 0) (.v 0)) (.v 1)) (.n 1)) (.a (.n 0) (.v 2)) (.c 1 (.a (.a (.v 0) (.v 1)) (.n 1)) (.v 2) .o) rfl (eqL h0)) (aLin [x2, x0, x1] 1 (.a (.n 0) (.v 0)) (.a (.a (.a (.n 0) (.v 1)) (.v 2)) (.n 1)) (.c 1 (.v 0) (.a (.a (.v 1) (.v 2)) (.n 1)) .o) rfl (eqG h0)))
theorem oq12 {x0 x1 x2 x3 : Nat} (h0 : x0 + x1 + 1 = x2) : x3 + 1 + x0 + x1 + 1 = x3 + 1 + x2 := (Nat.le_antisymm (aLin [x0, x1, x2, x3] 1 (.a (.a (.a (.a (.v 3) (.n 1)) (.v 0)) (.v 1)) (.n 1)) (.a (.a (.v 3) (.n 1)) (.v 2)) (.c 1 (.a (.a (.v 0) (.v 1)) (.n 1)) (.v 2) .o) rfl (eqL h0)) (aLin [x2, x0, x1, x3] 1 (.a (.a (.v 3) (.n 1)) (.v 0)) (.a (.a (.a (.a (.v 3) (.n 1)) (.v 1)) (.v 2)) (.n 1)) (.c 1 (.v 0) (.a (.a (.v 1) (.v 2)) (.n 1)) .o) rfl (eqG h0)))
theorem oq13 {x0 x1 : Nat} (h0 : x0 ≤ x1 - 1) (h1 : 0 < x1) : x0 + 1 ≤ x1 := (aLin [x0, (x1 - 1), x1] 1 (.a (.v 0) (.n 1)) (.v 2) (.c 1 (.v 0) (.v 1) (.c 1 (.a (.v 1) (.n 1)) (.v 2) .o)) rfl h0 (sb2 (aLin [x1] 1 (.n 1) (.v 0) (.c 1 (.a (.n 0) (.n 1)) (.v 0) .o) rfl h1)))
theorem oq14 {x0 x1 : Nat} (h0 : ¬x0 < x1) (h1 : ¬x0 = x1) : 1 ≤ x0 - x1 := (Or.elim (Nat.lt_or_gt_of_ne h1) (fun w1 => (aLin [x1, x0, (x0 - x1)] 0 (.n 1) (.v 2) (.c 1 (.v 0) (.v 1) (.c 1 (.a (.v 1) (.n 1)) (.v 0) .o)) rfl (Nat.le_of_not_lt h0) w1)) (fun w1 => (aLin [x1, x0, (x0 - x1)] 1 (.n 1) (.v 2) (.c 1 (.a (.v 0) (.n 1)) (.v 1) (.c 1 (.v 1) (.a (.v 2) (.v 0)) .o)) rfl w1 (sb1 (a := x0) (b := x1)))))
theorem oq15 {x0 x1 x2 x3 : Nat} (h0 : x0 + x1 + 1 = x2) : x0 + (x3 + (x1 - 0)) + 1 = x2 + x3 := (Nat.le_antisymm (aLin [x0, x1, x2, (x1 - 0), x3] 1 (.a (.a (.v 0) (.a (.v 4) (.v 3))) (.n 1)) (.a (.v 2) (.v 4)) (.c 1 (.a (.a (.v 0) (.v 1)) (.n 1)) (.v 2) (.c 1 (.v 3) (.v 1) .o)) rfl (eqL h0) (Nat.sub_le x1 0)) (aLin [x2, x0, x1, (x1 - 0), x3] 1 (.a (.v 0) (.v 4)) (.a (.a (.v 1) (.a (.v 4) (.v 3))) (.n 1)) (.c 1 (.v 0) (.a (.a (.v 1) (.v 2)) (.n 1)) (.c 1 (.v 2) (.a (.v 3) (.n 0)) .o)) rfl (eqG h0) (sb1 (a := x1) (b := 0))))
theorem oq16 {x0 x1 : Nat} (h0 : x0 = x1) : x1 ≤ x0 := (aLin [x1, x0] 1 (.v 0) (.v 1) (.c 1 (.v 0) (.v 1) .o) rfl (eqG h0))
theorem oq17 {x0 x1 x2 x3 : Nat} (h0 : x0 < x1) : x2 + (x3 + (x1 - (x0 + 1))) + 1 = x2 + (x3 + (x1 - x0)) := (Nat.le_antisymm (aLin [(x1 - (x0 + 1)), x0, x1, (x1 - x0), x2, x3] 1 (.a (.a (.v 4) (.a (.v 5) (.v 0))) (.n 1)) (.a (.v 4) (.a (.v 5) (.v 3))) (.c 1 (.a (.v 0) (.a (.v 1) (.n 1))) (.v 2) (.c 1 (.v 2) (.a (.v 3) (.v 1)) .o)) rfl (sb2 (aLin [x0, x1] 1 (.a (.v 0) (.n 1)) (.v 1) (.c 1 (.a (.v 0) (.n 1)) (.v 1) .o) rfl h0)) (sb1 (a := x1) (b := x0))) (aLin [(x1 - x0), x0, x1, (x1 - (x0 + 1)), x2, x3] 1 (.a (.v 4) (.a (.v 5) (.v 0))) (.a (.a (.v 4) (.a (.v 5) (.v 3))) (.n 1)) (.c 1 (.a (.v 0) (.v 1)) (.v 2) (.c 1 (.v 2) (.a (.v 3) (.a (.v 1) (.n 1))) .o)) rfl (sb2 (aLin [x0, x1] 1 (.v 0) (.v 1) (.c 1 (.a (.v 0) (.n 1)) (.v 1) .o) rfl h0)) (sb1 (a := x1) (b := (x0 + 1)))))
theorem oq18 {x0 x1 : Nat} (h0 : x0 + 1 < x1) : x0 < x1 := (aLin [x0, x1] 1 (.a (.v 0) (.n 1)) (.v 1) (.c 1 (.a (.a (.v 0) (.n 1)) (.n 1)) (.v 1) .o) rfl h0)
theorem oq19 {x0 x1 : Nat} (h0 : x0 + 1 = x1) : x0 < x1 := (aLin [x0, x1] 1 (.a (.v 0) (.n 1)) (.v 1) (.c 1 (.a (.v 0) (.n 1)) (.v 1) .o) rfl (eqL h0))
theorem oq20 {x0 x1 x2 x3 : Nat} : x0 + x1 ≤ x0 + (x1 + (x2 - x3)) := (aLin [x0, x1, (x2 - x3)] 1 (.a (.v 0) (.v 1)) (.a (.v 0) (.a (.v 1) (.v 2))) .o rfl)
theorem oq21 {x0 x1 : Nat} (h0 : x0 + 1 < x1) : x1 - 1 < x1 := (aLin [(x1 - 1), x1] 1 (.a (.v 0) (.n 1)) (.v 1) (.c 1 (.a (.v 0) (.n 1)) (.v 1) .o) rfl (sb2 (aLin [x0, x1] 1 (.n 1) (.v 1) (.c 1 (.a (.a (.v 0) (.n 1)) (.n 1)) (.v 1) .o) rfl h0)))
theorem oq22 {x0 x1 : Nat} (h0 : x0 + 1 < x1) : x1 - 1 + 1 = x1 := (Nat.le_antisymm (aLin [(x1 - 1), x1] 1 (.a (.v 0) (.n 1)) (.v 1) (.c 1 (.a (.v 0) (.n 1)) (.v 1) .o) rfl (sb2 (aLin [x0, x1] 1 (.n 1) (.v 1) (.c 1 (.a (.a (.v 0) (.n 1)) (.n 1)) (.v 1) .o) rfl h0))) (aLin [x1, (x1 - 1)] 1 (.v 0) (.a (.v 1) (.n 1)) (.c 1 (.v 0) (.a (.v 1) (.n 1)) .o) rfl (sb1 (a := x1) (b := 1))))
theorem oq23 {x0 : Nat} (h0 : x0 ≤ 16384) : x0 ≤ 16777216 := (aLin [x0] 1 (.v 0) (.n 16777216) (.c 1 (.v 0) (.n 16384) .o) rfl h0)
theorem oq24 {x0 x1 : Nat} (h0 : x0 + 3 + 48 < x1) : x0 + 3 + 1 + 16 * 2 < x1 := (aLin [x0, x1] 1 (.a (.a (.a (.a (.v 0) (.n 3)) (.n 1)) (.m 16 (.n 2))) (.n 1)) (.v 1) (.c 1 (.a (.a (.a (.v 0) (.n 3)) (.n 48)) (.n 1)) (.v 1) .o) rfl h0)
theorem oq25 {x0 : Nat} (h0 : x0 ≤ 1000) : x0 ≤ 16777216 := (aLin [x0] 1 (.v 0) (.n 16777216) (.c 1 (.v 0) (.n 1000) .o) rfl h0)
theorem oq26 {x0 x1 : Nat} (h0 : x0 + 16 * 4 < x1) : x0 + 3 + 48 < x1 := (aLin [x0, x1] 1 (.a (.a (.a (.v 0) (.n 3)) (.n 48)) (.n 1)) (.v 1) (.c 1 (.a (.a (.v 0) (.m 16 (.n 4))) (.n 1)) (.v 1) .o) rfl h0)
theorem oq27 {x0 : Nat} (h0 : x0 ≤ 900) : x0 ≤ 1000 := (aLin [x0] 1 (.v 0) (.n 1000) (.c 1 (.v 0) (.n 900) .o) rfl h0)
theorem oq28 {x0 x1 : Nat} (h0 : x0 + 6 < x1) : x0 + 1 + 4 < x1 := (aLin [x0, x1] 1 (.a (.a (.a (.v 0) (.n 1)) (.n 4)) (.n 1)) (.v 1) (.c 1 (.a (.a (.v 0) (.n 6)) (.n 1)) (.v 1) .o) rfl h0)
theorem oq29 {x0 x1 : Nat} (h0 : x0 + 16 * 6 < x1) : x0 + 3 + 16 * 4 < x1 := (aLin [x0, x1] 1 (.a (.a (.a (.v 0) (.n 3)) (.m 16 (.n 4))) (.n 1)) (.v 1) (.c 1 (.a (.a (.v 0) (.m 16 (.n 6))) (.n 1)) (.v 1) .o) rfl h0)
theorem oq30 {x0 x1 : Nat} (h0 : x0 ≤ 900) (h1 : x1 ≤ x0 + 1 + 0) : x1 ≤ 1000 := (aLin [x0, x1] 1 (.v 1) (.n 1000) (.c 1 (.v 0) (.n 900) (.c 1 (.v 1) (.a (.a (.v 0) (.n 1)) (.n 0)) .o)) rfl h0 h1)
theorem oq31 {x0 : Nat} (h0 : x0 ≤ 900) : x0 ≤ 16777216 := (aLin [x0] 1 (.v 0) (.n 16777216) (.c 1 (.v 0) (.n 900) .o) rfl h0)
theorem oq32 {x0 x1 x2 x3 : Nat} (h0 : x0 ≤ x1 + 1 + 0) (h1 : x2 ≤ x0 + 1) (h2 : x3 = x2) : x3 ≤ x1 + 1 + (0 + 1) := (aLin [x0, x1, x2, x3] 1 (.v 3) (.a (.a (.v 1) (.n 1)) (.a (.n 0) (.n 1))) (.c 1 (.v 0) (.a (.a (.v 1) (.n 1)) (.n 0)) (.c 1 (.v 2) (.a (.v 0) (.n 1)) (.c 1 (.v 3) (.v 2) .o))) rfl h0 h1 (eqL h2))
theorem oq33 {x0 x1 : Nat} (h0 : x0 + 3 < x1) : x0 < x1 := (aLin [x0, x1] 1 (.a (.v 0) (.n 1)) (.v 1) (.c 1 (.a (.a (.v 0) (.n 3)) (.n 1)) (.v 1) .o) rfl h0)
theorem oq34 {x0 x1 x2 x3 x4 : Nat} (h0 : x0 ≤ 1000) (h1 : x1 ≤ 900) (h2 : x2 < 8) (h3 : x3 ≤ x0 + 900 * x2 + x4) (h4 : x4 < x1) : x3 ≤ 16777216 := (aLin [x0, x1, x2, x3, x4] 1 (.v 3) (.n 16777216) (.c 1 (.v 0) (.n 1000) (.c 1 (.v 1) (.n 900) (.c 900 (.a (.v 2) (.n 1)) (.n 8) (.c 1 (.v 3) (.a (.a (.v 0) (.m 900 (.v 2))) (.v 4)) (.c 1 (.a (.v 4) (.n 1)) (.v 1) .o))))) rfl h0 h1 h2 h3 h4)
theorem oq35 {x0 x1 x2 x3 : Nat} (h0 : x0 ≤ x1 + 900 * x2 + x3) : x0 + 1 ≤ x1 + 900 * x2 + (x3 + 1) := (aLin [x0, x1, x2, x3] 1 (.a (.v 0) (.n 1)) (.a (.a (.v 1) (.m 900 (.v 2))) (.a (.v 3) (.n 1))) (.c 1 (.v 0) (.a (.a (.v 1) (.m 900 (.v 2))) (.v 3)) .o) rfl h0)
theorem oq36 {x0 x1 x2 x3 : Nat} (h0 : x0 ≤ x1 + 900 * x2 + x3) : x0 ≤ x1 + 900 * x2 + (x3 + 1) := (aLin [x0, x1, x2, x3] 1 (.v 0) (.a (.a (.v 1) (.m 900 (.v 2))) (.a (.v 3) (.n 1))) (.c 1 (.v 0) (.a (.a (.v 1) (.m 900 (.v 2))) (.v 3)) .o) rfl h0)
theorem oq37 {x1 : Nat} {x0 : Int} : x0 + (↑x1 : Int) + 1 = x0 + (↑(x1 + 1) : Int) := Int.add_assoc x0 x1 1
theorem oq38 {x0 x1 x2 x3 : Nat} (h0 : x0 ≤ 900) (h1 : x1 ≤ x2 + 900 * x3 + x0) : x1 ≤ x2 + 900 * (x3 + 1) := (aLin [x0, x1, x2, x3] 1 (.v 1) (.a (.v 2) (.m 900 (.a (.v 3) (.n 1)))) (.c 1 (.v 0) (.n 900) (.c 1 (.v 1) (.a (.a (.v 2) (.m 900 (.v 3))) (.v 0)) .o)) rfl h0 h1)
theorem oq39 {x0 x1 : Nat} (h0 : x0 < x1 + 1) (h1 : ¬x0 = x1) : x0 < x1 := (Or.elim (Nat.lt_or_gt_of_ne h1) (fun w1 => (aLin [x0, x1] 1 (.a (.v 0) (.n 1)) (.v 1) (.c 1 (.a (.v 0) (.n 1)) (.v 1) .o) rfl w1)) (fun w1 => (aLin [x0, x1] 0 (.a (.v 0) (.n 1)) (.v 1) (.c 1 (.a (.v 0) (.n 1)) (.a (.v 1) (.n 1)) (.c 1 (.a (.v 1) (.n 1)) (.v 0) .o)) rfl h0 w1)))
theorem oq40 {x0 x1 : Nat} (h0 : x0 ≤ 900) (h1 : x1 ≤ x0) : x1 ≤ 16777216 := (aLin [x0, x1] 1 (.v 1) (.n 16777216) (.c 1 (.v 0) (.n 900) (.c 1 (.v 1) (.v 0) .o)) rfl h0 h1)
theorem oq41 {x0 x1 x2 : Nat} (h0 : x0 = x1) (h1 : x2 + 1 = x0) : x2 ≤ x1 := (aLin [x0, x1, x2] 1 (.v 2) (.v 1) (.c 1 (.v 0) (.v 1) (.c 1 (.a (.v 2) (.n 1)) (.v 0) .o)) rfl (eqL h0) (eqL h1))
theorem oq42 {x0 x1 : Nat} (h0 : x0 ≤ 900) (h1 : x1 ≤ x0) : x1 ≤ 16777215 := (aLin [x0, x1] 1 (.v 1) (.n 16777215) (.c 1 (.v 0) (.n 900) (.c 1 (.v 1) (.v 0) .o)) rfl h0 h1)
theorem oq43 {x0 x1 : Nat} (h0 : x0 ≤ 900) (h1 : x1 + 1 ≤ x0) : x1 < 4611686018427387904 := (aLin [x0, x1] 1 (.a (.v 1) (.n 1)) (.n 4611686018427387904) (.c 1 (.v 0) (.n 900) (.c 1 (.a (.v 1) (.n 1)) (.v 0) .o)) rfl h0 h1)
theorem oq44 {x0 x1 x2 : Nat} (h0 : x0 ≤ x1) (h1 : x2 + 1 = x0) : x2 < x1 := (aLin [x0, x1, x2] 1 (.a (.v 2) (.n 1)) (.v 1) (.c 1 (.v 0) (.v 1) (.c 1 (.a (.v 2) (.n 1)) (.v 0) .o)) rfl h0 (eqL h1))
theorem oq45 {x0 x1 x2 : Nat} (h0 : x0 ≤ x1) (h1 : x2 = x0) : x2 ≤ x1 := (aLin [x0, x1, x2] 1 (.v 2) (.v 1) (.c 1 (.v 0) (.v 1) (.c 1 (.v 2) (.v 0) .o)) rfl h0 (eqL h1))
theorem oq46 {x0 x1 : Nat} (h0 : x0 ≤ 900) (h1 : x1 + 1 ≤ x0) : x1 < 16777216 := (aLin [x0, x1] 1 (.a (.v 1) (.n 1)) (.n 16777216) (.c 1 (.v 0) (.n 900) (.c 1 (.a (.v 1) (.n 1)) (.v 0) .o)) rfl h0 h1)
theorem oq47 {x0 x1 : Nat} (h0 : x0 ≤ 900) (h1 : x1 + 1 ≤ x0) : x1 ≤ 16777215 := (aLin [x0, x1] 1 (.v 1) (.n 16777215) (.c 1 (.v 0) (.n 900) (.c 1 (.a (.v 1) (.n 1)) (.v 0) .o)) rfl h0 h1)
theorem oq48 {x0 : Nat} : 0 + (x0 + 1) = x0 + 1 := (Nat.le_antisymm (aLin [x0] 1 (.a (.n 0) (.a (.v 0) (.n 1))) (.a (.v 0) (.n 1)) .o rfl) (aLin [x0] 1 (.a (.v 0) (.n 1)) (.a (.n 0) (.a (.v 0) (.n 1))) .o rfl))
theorem oq49 {x0 x1 : Nat} (h0 : x0 = x1) : (↑x0 : Int) = (↑x1 : Int) := h0 ▸ rfl
theorem oq50 {x0 x1 x2 : Nat} (h0 : x0 = x1) (h1 : x2 + 0 = x1 + 1) : ¬(↑x2 : Int) ≤ (↑x0 : Int) := fun h => (aLinF [x0, x1, x2] (.c 1 (.v 0) (.v 1) (.c 1 (.a (.v 1) (.n 1)) (.a (.v 2) (.n 0)) (.c 1 (.v 2) (.v 0) .o))) rfl (eqL h0) (eqG h1) (Int.ofNat_le.mp h))
theorem oq51 {x0 x1 x2 x3 : Nat} (h0 : x0 = x1) (h1 : x2 + (x3 + 1) = x1 + 1) : (↑x2 : Int) ≤ (↑x0 : Int) := Int.ofNat_le.mpr (aLin [x1, x0, x2, x3] 1 (.v 2) (.v 1) (.c 1 (.v 0) (.v 1) (.c 1 (.a (.v 2) (.a (.v 3) (.n 1))) (.a (.v 0) (.n 1)) .o)) rfl (eqG h0) (eqL h1))
theorem oq52 {x0 x1 x2 x3 : Nat} (h0 : x0 = x1) (h1 : x2 + (x3 + 1) = x1 + 1) : x2 + 1 + x3 = x1 + 1 := (Nat.le_antisymm (aLin [x2, x3, x1] 1 (.a (.a (.v 0) (.n 1)) (.v 1)) (.a (.v 2) (.n 1)) (.c 1 (.a (.v 0) (.a (.v 1) (.n 1))) (.a (.v 2) (.n 1)) .o) rfl (eqL h1)) (aLin [x1, x2, x3] 1 (.a (.v 0) (.n 1)) (.a (.a (.v 1) (.n 1)) (.v 2)) (.c 1 (.a (.v 0) (.n 1)) (.a (.v 1) (.a (.v 2) (.n 1))) .o) rfl (eqG h1)))
theorem oq53 {x0 x1 x2 x3 : Nat} (h0 : x0 + x1 = x2) (h1 : x1 = x3 + 1) : x0 + 1 + x3 = x2 := (Nat.le_antisymm (aLin [x0, x1, x2, x3] 1 (.a (.a (.v 0) (.n 1)) (.v 3)) (.v 2) (.c 1 (.a (.v 0) (.v 1)) (.v 2) (.c 1 (.a (.v 3) (.n 1)) (.v 1) .o)) rfl (eqL h0) (eqG h1)) (aLin [x2, x0, x1, x3] 1 (.v 0) (.a (.a (.v 1) (.n 1)) (.v 3)) (.c 1 (.v 0) (.a (.v 1) (.v 2)) (.c 1 (.v 2) (.a (.v 3) (.n 1)) .o)) rfl (eqG h0) (eqL h1)))
theorem oq54 {x0 x1 x2 x3 : Nat} (h0 : x0 ≤ 900) (h1 : x1 < x0) (h2 : x2 ≤ 2 * x1 + x3) (h3 : x3 < 2) : x2 ≤ 16777216 := (aLin [x0, x1, x2, x3] 1 (.v 2) (.n 16777216) (.c 2 (.v 0) (.n 900) (.c 2 (.a (.v 1) (.n 1)) (.v 0) (.c 1 (.v 2) (.a (.m 2 (.v 1)) (.v 3)) (.c 1 (.a (.v 3) (.n 1)) (.n 2) .o)))) rfl h0 h1 h2 h3)
theorem oq55 {x0 x1 x2 : Nat} (h0 : x0 ≤ 2 * x1 + x2) : x0 ≤ 2 * x1 + (x2 + 1) := (aLin [x0, x1, x2] 1 (.v 0) (.a (.m 2 (.v 1)) (.a (.v 2) (.n 1))) (.c 1 (.v 0) (.a (.m 2 (.v 1)) (.v 2)) .o) rfl h0)
theorem oq56 {x0 x1 x2 x3 : Nat} (h0 : x0 ≤ 2 * x1 + x2) (h1 : x3 ≤ x0 + 1) : x3 ≤ 2 * x1 + (x2 + 1) := (aLin [x0, x1, x2, x3] 1 (.v 3) (.a (.m 2 (.v 1)) (.a (.v 2) (.n 1))) (.c 1 (.v 0) (.a (.m 2 (.v 1)) (.v 2)) (.c 1 (.v 3) (.a (.v 0) (.n 1)) .o)) rfl h0 h1)
theorem oq57 {x0 x1 x2 : Nat} (h0 : x0 + (x1 + 1) = x2 + 2) : x1 ≤ x2 + 1 := (aLin [x0, x1, x2] 1 (.v 1) (.a (.v 2) (.n 1)) (.c 1 (.a (.v 0) (.a (.v 1) (.n 1))) (.a (.v 2) (.n 2)) .o) rfl (eqL h0))
theorem oq58 {x0 x1 x2 x3 x4 : Nat} (h0 : x0 ≤ 900) (h1 : x1 + (x2 + 1) = x0 + 2) (h2 : x3 = x2) (h3 : x2 ≤ x0 + 1) (h4 : x3 < x4) : x3 ≤ 16777215 := (aLin [x0, x3, x2] 1 (.v 1) (.n 16777215) (.c 1 (.v 0) (.n 900) (.c 1 (.v 1) (.v 2) (.c 1 (.v 2) (.a (.v 0) (.n 1)) .o))) rfl h0 (eqL h2) h3)
theorem oq59 {x0 x1 x2 x3 x4 : Nat} (h0 : x0 ≤ 900) (h1 : x1 + (x2 + 1) = x0 + 2) (h2 : x3 = x2) (h3 : x2 ≤ x0 + 1) (h4 : x3 < x4) : 1 + (x3 + 1) ≤ 16777216 := (aLin [x0, x3, x2] 1 (.a (.n 1) (.a (.v 1) (.n 1))) (.n 16777216) (.c 1 (.v 0) (.n 900) (.c 1 (.v 1) (.v 2) (.c 1 (.v 2) (.a (.v 0) (.n 1)) .o))) rfl h0 (eqL h2) h3)
theorem oq60 {x0 x1 : Nat} (h0 : 0 + (x0 + 1) = x1 + 2) (h1 : x0 + 1 ≤ x1) : False := (aLinF [x1, x0] (.c 1 (.a (.v 0) (.n 2)) (.a (.n 0) (.a (.v 1) (.n 1))) (.c 1 (.a (.v 1) (.n 1)) (.v 0) .o)) rfl (eqG h0) h1)
theorem oq61 {x0 x1 x2 : Nat} (h0 : x0 + 1 + (x1 + 1) = x2 + 2) : x0 + (x1 + 1 + 1) = x2 + 2 := (Nat.le_antisymm (aLin [x0, x1, x2] 1 (.a (.v 0) (.a (.a (.v 1) (.n 1)) (.n 1))) (.a (.v 2) (.n 2)) (.c 1 (.a (.a (.v 0) (.n 1)) (.a (.v 1) (.n 1))) (.a (.v 2) (.n 2)) .o) rfl (eqL h0)) (aLin [x2, x0, x1] 1 (.a (.v 0) (.n 2)) (.a (.v 1) (.a (.a (.v 2) (.n 1)) (.n 1))) (.c 1 (.a (.v 0) (.n 2)) (.a (.a (.v 1) (.n 1)) (.a (.v 2) (.n 1))) .o) rfl (eqG h0)))
theorem oq62 {x0 : Nat} (h0 : x0 ≤ 8) : x0 + (x0 + 1) * 2 ≤ 16777216 := (aLin [x0] 1 (.a (.v 0) (.r (.a (.v 0) (.n 1)) 2)) (.n 16777216) (.c 3 (.v 0) (.n 8) .o) rfl h0)
theorem oq63 {x0 : Nat} (h0 : x0 ≤ 100) : x0 + (x0 + 1) * 2 ≤ 16777216 := (aLin [x0] 1 (.a (.v 0) (.r (.a (.v 0) (.n 1)) 2)) (.n 16777216) (.c 3 (.v 0) (.n 100) .o) rfl h0)
theorem oq64 {x0 x1 : Nat} (h0 : x0 ≤ 100) (h1 : x1 = 1) : x1 + x0 ≤ 16777216 := (aLin [x0, x1] 1 (.a (.v 1) (.v 0)) (.n 16777216) (.c 1 (.v 0) (.n 100) (.c 1 (.v 1) (.n 1) .o)) rfl h0 (eqL h1))
theorem oq65 {x0 x1 : Nat} (h0 : x0 ≤ 100) (h1 : x1 = 1) : x0 + x1 ≤ 16777216 := (aLin [x0, x1] 1 (.a (.v 0) (.v 1)) (.n 16777216) (.c 1 (.v 0) (.n 100) (.c 1 (.v 1) (.n 1) .o)) rfl h0 (eqL h1))
theorem oq66 {x0 x1 : Nat} (h0 : x0 = 1) (h1 : x1 = 1) : x0 + x1 ≤ 16777216 := (aLin [x0, x1] 1 (.a (.v 0) (.v 1)) (.n 16777216) (.c 1 (.v 0) (.n 1) (.c 1 (.v 1) (.n 1) .o)) rfl (eqL h0) (eqL h1))
theorem oq67 {x0 : Nat} (h0 : x0 ≤ 8) : x0 ≤ 16777216 := (aLin [x0] 1 (.v 0) (.n 16777216) (.c 1 (.v 0) (.n 8) .o) rfl h0)
theorem oq68 {x0 x1 : Nat} (h0 : x0 + x1 ≤ 100) : x0 + x1 ≤ 16777216 := (aLin [x0, x1] 1 (.a (.v 0) (.v 1)) (.n 16777216) (.c 1 (.a (.v 0) (.v 1)) (.n 100) .o) rfl h0)
theorem oq69 {x0 x1 x2 x3 : Nat} (h0 : x0 ≤ 900) (h1 : x1 ≤ x2) (h2 : x2 < x0) (h3 : x3 = x1) : x3 ≤ 16777216 := (aLin [x0, x1, x2, x3] 1 (.v 3) (.n 16777216) (.c 1 (.v 0) (.n 900) (.c 1 (.v 1) (.v 2) (.c 1 (.a (.v 2) (.n 1)) (.v 0) (.c 1 (.v 3) (.v 1) .o)))) rfl h0 h1 h2 (eqL h3))
theorem oq70 {x0 : Nat} (h0 : x0 ≤ 50) : x0 + 2 ≤ 16777216 := (aLin [x0] 1 (.a (.v 0) (.n 2)) (.n 16777216) (.c 1 (.v 0) (.n 50) .o) rfl h0)
theorem oq71 {x0 : Nat} (h0 : x0 ≤ 20) : x0 ≤ 16777216 := (aLin [x0] 1 (.v 0) (.n 16777216) (.c 1 (.v 0) (.n 20) .o) rfl h0)
theorem oq72 {x0 x1 x2 x3 : Nat} (h0 : x0 ≤ x1) (h1 : x2 = x0) (h2 : x3 ≤ x0 + 1) : x3 ≤ x1 + 1 := (aLin [x0, x1, x3] 1 (.v 2) (.a (.v 1) (.n 1)) (.c 1 (.v 0) (.v 1) (.c 1 (.v 2) (.a (.v 0) (.n 1)) .o)) rfl h0 h2)
theorem oq73 {x0 x1 x2 : Nat} (h0 : x0 ≤ 2000) (h1 : x1 < x0) (h2 : x2 ≤ x1) : x2 + 1 ≤ 16777216 := (aLin [x0, x1, x2] 1 (.a (.v 2) (.n 1)) (.n 16777216) (.c 1 (.v 0) (.n 2000) (.c 1 (.a (.v 1) (.n 1)) (.v 0) (.c 1 (.v 2) (.v 1) .o))) rfl h0 h1 h2)
theorem oq74 {x0 x1 x2 : Nat} (h0 : x0 ≤ 2000) (h1 : x1 < x0) (h2 : x2 ≤ x1) : x2 ≤ 16777216 := (aLin [x0, x1, x2] 1 (.v 2) (.n 16777216) (.c 1 (.v 0) (.n 2000) (.c 1 (.a (.v 1) (.n 1)) (.v 0) (.c 1 (.v 2) (.v 1) .o))) rfl h0 h1 h2)
theorem oq75 {x0 x1 x2 : Nat} (h0 : x0 ≤ 2000) (h1 : x1 ≤ x2) (h2 : x2 = x0) : x1 ≤ 16777216 := (aLin [x0, x1, x2] 1 (.v 1) (.n 16777216) (.c 1 (.v 0) (.n 2000) (.c 1 (.v 1) (.v 2) (.c 1 (.v 2) (.v 0) .o))) rfl h0 h1 (eqL h2))
theorem oq76 {x0 x1 x2 : Nat} (h0 : x0 ≤ 2000) (h1 : x1 = x0) (h2 : x2 ≤ x1) : x2 ≤ 2000 := (aLin [x0, x1, x2] 1 (.v 2) (.n 2000) (.c 1 (.v 0) (.n 2000) (.c 1 (.v 1) (.v 0) (.c 1 (.v 2) (.v 1) .o))) rfl h0 (eqL h1) h2)
theorem oq77 {x0 x1 x2 : Nat} (h0 : x0 ≤ 2000) (h1 : x1 ≤ x2) (h2 : x2 = x0) (h3 : x1 ≤ 16777216) : x1 ≤ 2000 := (aLin [x0, x1, x2] 1 (.v 1) (.n 2000) (.c 1 (.v 0) (.n 2000) (.c 1 (.v 1) (.v 2) (.c 1 (.v 2) (.v 0) .o))) rfl h0 h1 (eqL h2))
theorem oq78 {x0 x1 x2 : Nat} (h0 : x0 ≤ 2000) (h1 : x1 = x0) (h2 : x2 ≤ x1) : x2 ≤ 3000 := (aLin [x0, x1, x2] 1 (.v 2) (.n 3000) (.c 1 (.v 0) (.n 2000) (.c 1 (.v 1) (.v 0) (.c 1 (.v 2) (.v 1) .o))) rfl h0 (eqL h1) h2)
theorem oq79 {x0 x1 x2 : Nat} (h0 : x0 ≤ 2000) (h1 : x1 = x0) (h2 : x2 ≤ x1) : x2 ≤ 2999 := (aLin [x0, x1, x2] 1 (.v 2) (.n 2999) (.c 1 (.v 0) (.n 2000) (.c 1 (.v 1) (.v 0) (.c 1 (.v 2) (.v 1) .o))) rfl h0 (eqL h1) h2)
theorem oq80 {x0 : Nat} (h0 : x0 ≠ 0) : (↑x0 : Int) ≠ 0 := fun h => h0 (Int.ofNat.inj h)
theorem oq81 {x0 : Nat} (h0 : x0 ≤ 3000) : x0 ≤ 16777216 := (aLin [x0] 1 (.v 0) (.n 16777216) (.c 1 (.v 0) (.n 3000) .o) rfl h0)
theorem oq82 {x0 : Nat} (h0 : x0 ≤ 2000) : x0 ≤ 16777216 := (aLin [x0] 1 (.v 0) (.n 16777216) (.c 1 (.v 0) (.n 2000) .o) rfl h0)
theorem oq83 : 0 < 6 := (aLin [] 1 (.a (.n 0) (.n 1)) (.n 6) .o rfl)
theorem oq84 : 0 < 7 := (aLin [] 1 (.a (.n 0) (.n 1)) (.n 7) .o rfl)
theorem oq85 {x0 : Int} (h0 : 0 ≤ x0) (h1 : x0 < 6) : x0 < 7 := Int.lt_trans h1 (by decide)
theorem oq86 : 0 < 3 := (aLin [] 1 (.a (.n 0) (.n 1)) (.n 3) .o rfl)
theorem oq87 {x0 x1 x2 : Nat} (h0 : x0 ≤ 900) (h1 : x1 ≤ x2) (h2 : x2 < x0) : x1 ≤ 16777216 := (aLin [x0, x1, x2] 1 (.v 1) (.n 16777216) (.c 1 (.v 0) (.n 900) (.c 1 (.v 1) (.v 2) (.c 1 (.a (.v 2) (.n 1)) (.v 0) .o))) rfl h0 h1 h2)
theorem oq88 {x0 x1 x2 : Nat} (h0 : x0 ≤ x1) (h1 : x2 ≤ x0 + 1) : x2 ≤ x1 + 1 := (aLin [x0, x1, x2] 1 (.v 2) (.a (.v 1) (.n 1)) (.c 1 (.v 0) (.v 1) (.c 1 (.v 2) (.a (.v 0) (.n 1)) .o)) rfl h0 h1)
theorem oq89 {x0 x1 : Nat} (h0 : x0 ≤ 900) (h1 : x1 ≤ x0) : x1 ≤ 900 := (aLin [x0, x1] 1 (.v 1) (.n 900) (.c 1 (.v 0) (.n 900) (.c 1 (.v 1) (.v 0) .o)) rfl h0 h1)
theorem oq90 {x0 x1 : Nat} (h0 : x0 ≤ 900) (h1 : x1 = x0) : x1 ≤ 16777216 := (aLin [x0, x1] 1 (.v 1) (.n 16777216) (.c 1 (.v 0) (.n 900) (.c 1 (.v 1) (.v 0) .o)) rfl h0 (eqL h1))
theorem oq91 {x0 x1 : Nat} (h0 : x0 ≤ 900) (h1 : x1 + 1 = x0) : x1 ≤ 900 := (aLin [x0, x1] 1 (.v 1) (.n 900) (.c 1 (.v 0) (.n 900) (.c 1 (.a (.v 1) (.n 1)) (.v 0) .o)) rfl h0 (eqL h1))
theorem oq92 {x0 x1 x2 : Nat} (h0 : x0 < x1 + 1) (h1 : ¬x0 < x1) (h2 : x2 = x0) : x2 < x1 + 1 := (aLin [x0, x1, x2] 1 (.a (.v 2) (.n 1)) (.a (.v 1) (.n 1)) (.c 1 (.a (.v 0) (.n 1)) (.a (.v 1) (.n 1)) (.c 1 (.v 2) (.v 0) .o)) rfl h0 (eqL h2))
theorem oq93 {x0 x1 x2 x3 : Nat} (h0 : x0 ≤ x1) (h1 : x2 ≤ x3 ∧ x3 < x0) : x2 + x0 - 1 - x3 < x1 := (aLin [x0, x1, x2, x3, ((x2 + x0) - 1), (((x2 + x0) - 1) - x3)] 1 (.a (.v 5) (.n 1)) (.v 1) (.c 1 (.v 0) (.v 1) (.c 1 (.v 2) (.v 3) (.c 1 (.a (.v 4) (.n 1)) (.a (.v 2) (.v 0)) (.c 1 (.a (.v 5) (.v 3)) (.v 4) .o)))) rfl h0 h1.1 (sb2 (aLin [x3, x0, x2] 1 (.n 1) (.a (.v 2) (.v 1)) (.c 1 (.a (.v 0) (.n 1)) (.v 1) .o) rfl h1.2)) (sb2 (aLin [x3, x0, x2, ((x2 + x0) - 1)] 1 (.v 0) (.v 3) (.c 1 (.a (.v 0) (.n 1)) (.v 1) (.c 1 (.a (.v 2) (.v 1)) (.a (.v 3) (.n 1)) .o)) rfl h1.2 (sb1 (a := (x2 + x0)) (b := 1)))))
theorem oq94 {x0 x1 x2 x3 : Nat} (h0 : x0 < x1) (h1 : x0 - x2 < x3 ∧ x3 ≤ x0) : x3 - 1 < x1 := (aLin [x0, x1, x3, (x3 - 1)] 1 (.a (.v 3) (.n 1)) (.v 1) (.c 1 (.a (.v 0) (.n 1)) (.v 1) (.c 1 (.v 2) (.v 0) (.c 1 (.v 3) (.v 2) .o))) rfl h0 h1.2 (Nat.sub_le x3 1))
theorem oq95 {x0 x1 : Nat} (h0 : x0 < x1) (h1 : ¬x0 = x1 - 1) : x0 < x1 - 1 := (Or.elim (Nat.lt_or_gt_of_ne h1) (fun w1 => (aLin [x0, (x1 - 1)] 1 (.a (.v 0) (.n 1)) (.v 1) (.c 1 (.a (.v 0) (.n 1)) (.v 1) .o) rfl w1)) (fun w1 => (aLin [x0, x1, (x1 - 1)] 0 (.a (.v 0) (.n 1)) (.v 2) (.c 1 (.a (.v 0) (.n 1)) (.v 1) (.c 1 (.a (.v 2) (.n 1)) (.v 0) (.c 1 (.v 1) (.a (.v 2) (.n 1)) .o))) rfl h0 w1 (sb1 (a := x1) (b := 1)))))
theorem oq96 {x0 x1 : Nat} (h0 : x0 < x1) : x1 - 1 < x1 := (aLin [(x1 - 1), x1] 1 (.a (.v 0) (.n 1)) (.v 1) (.c 1 (.a (.v 0) (.n 1)) (.v 1) .o) rfl (sb2 (aLin [x0, x1] 1 (.n 1) (.v 1) (.c 1 (.a (.v 0) (.n 1)) (.v 1) .o) rfl h0)))
theorem oq97 {x0 x1 x2 : Int} (h0 : x0 < x1) (h1 : x1 < x2) : x0 < x2 := Int.lt_trans h0 h1
theorem oq98 {x0 x1 x2 : Int} (h0 : x0 < x1) (h1 : x1 = x2) : x0 < x2 := h1 ▸ h0
theorem oq99 {x0 x1 x2 x3 x4 : Nat} (h0 : x0 ≤ x1) (h1 : x1 < x2) (h2 : x2 < x0 + 1) : x3 < x4 := (aLin [x0, x1, x2, x3, x4] 0 (.a (.v 3) (.n 1)) (.v 4) (.c 1 (.v 0) (.v 1) (.c 1 (.a (.v 1) (.n 1)) (.v 2) (.c 1 (.a (.v 2) (.n 1)) (.a (.v 0) (.n 1)) .o))) rfl h0 h1 h2)
theorem oq100 {x0 x1 x2 : Nat} (h0 : x0 < x1) (h1 : x1 < x2) : x1 ≤ x2 - 1 := (aLin [x1, x2, (x2 - 1)] 1 (.v 0) (.v 2) (.c 1 (.a (.v 0) (.n 1)) (.v 1) (.c 1 (.v 1) (.a (.v 2) (.n 1)) .o)) rfl h1 (sb1 (a := x2) (b := 1)))
theorem oq101 {x0 x1 x2 : Nat} (h0 : x0 < x1) (h1 : x1 < x2) : x2 - 1 < x2 := (aLin [(x2 - 1), x2] 1 (.a (.v 0) (.n 1)) (.v 1) (.c 1 (.a (.v 0) (.n 1)) (.v 1) .o) rfl (sb2 (aLin [x1, x2] 1 (.n 1) (.v 1) (.c 1 (.a (.v 0) (.n 1)) (.v 1) .o) rfl h1)))
theorem oq102 {x0 x1 x2 : Int} (h0 : x0 = x1) (h1 : x1 < x2) : x0 < x2 := h0 ▸ h1
theorem oq103 {x0 x1 : Nat} (h0 : x0 < x1) : x0 ≤ x1 - 1 := (aLin [x0, x1, (x1 - 1)] 1 (.v 0) (.v 2) (.c 1 (.a (.v 0) (.n 1)) (.v 1) (.c 1 (.v 1) (.a (.v 2) (.n 1)) .o)) rfl h0 (sb1 (a := x1) (b := 1)))
theorem oq104 {x0 x1 x2 : Int} (h0 : x0 = x1) (h1 : x1 = x2) : x0 = x2 := h0.trans h1
theorem oq105 {x0 x1 x2 : Nat} (h0 : x0 = x1) (h1 : x2 < x1) : x2 < x0 := (aLin [x1, x0, x2] 1 (.a (.v 2) (.n 1)) (.v 1) (.c 1 (.v 0) (.v 1) (.c 1 (.a (.v 2) (.n 1)) (.v 0) .o)) rfl (eqG h0) h1)
theorem oq106 {x0 x1 x2 : Nat} (h0 : x0 < x1) : ¬(x1 ≤ x0 ∧ x0 < x2) := (fun w1 => (aLinF [x0, x1] (.c 1 (.a (.v 0) (.n 1)) (.v 1) (.c 1 (.v 1) (.v 0) .o)) rfl h0 w1.1))
theorem oq107 {x0 x1 x2 x3 : Nat} (h0 : x0 < x1) (h1 : x1 < x2) : ¬(x2 ≤ x0 ∧ x0 < x3) := (fun w1 => (aLinF [x0, x1, x2] (.c 1 (.a (.v 0) (.n 1)) (.v 1) (.c 1 (.a (.v 1) (.n 1)) (.v 2) (.c 1 (.v 2) (.v 0) .o))) rfl h0 h1 w1.1))
theorem oq108 {x0 x1 x2 : Nat} (h0 : x0 < x1) (h1 : ¬x0 < x2) : x2 ≤ x0 ∧ x0 < x1 := ⟨(aLin [x2, x0] 1 (.v 0) (.v 1) (.c 1 (.v 0) (.v 1) .o) rfl (Nat.le_of_not_lt h1)), (aLin [x0, x1] 1 (.a (.v 0) (.n 1)) (.v 1) (.c 1 (.a (.v 0) (.n 1)) (.v 1) .o) rfl h0)⟩
theorem oq109 {x0 x1 x2 x3 : Nat} (h0 : x0 < x1) (h1 : x2 < x3) : x3 ≤ x3 + x1 - 1 - x0 := (aLin [x0, x1, x3, ((x3 + x1) - 1), (((x3 + x1) - 1) - x0)] 1 (.v 2) (.v 4) (.c 1 (.a (.v 0) (.n 1)) (.v 1) (.c 1 (.a (.v 2) (.v 1)) (.a (.v 3) (.n 1)) (.c 1 (.v 3) (.a (.v 4) (.v 0)) .o))) rfl h0 (sb1 (a := (x3 + x1)) (b := 1)) (sb1 (a := ((x3 + x1) - 1)) (b := x0)))
theorem oq110 {x0 x1 x2 : Nat} (h0 : x0 < x1) (h1 : ¬x0 < x2) : x2 + x1 - 1 - x0 < x1 := (aLin [x2, x0, ((x2 + x1) - 1), x1, (((x2 + x1) - 1) - x0)] 1 (.a (.v 4) (.n 1)) (.v 3) (.c 1 (.v 0) (.v 1) (.c 1 (.a (.v 2) (.n 1)) (.a (.v 0) (.v 3)) (.c 1 (.a (.v 4) (.v 1)) (.v 2) .o))) rfl (Nat.le_of_not_lt h1) (sb2 (aLin [x0, x1, x2] 1 (.n 1) (.a (.v 2) (.v 1)) (.c 1 (.a (.v 0) (.n 1)) (.v 1) .o) rfl h0)) (sb2 (aLin [x0, x1, x2, ((x2 + x1) - 1)] 1 (.v 0) (.v 3) (.c 1 (.a (.v 0) (.n 1)) (.v 1) (.c 1 (.a (.v 2) (.v 1)) (.a (.v 3) (.n 1)) .o)) rfl h0 (sb1 (a := (x2 + x1)) (b := 1)))))
theorem oq111 {x0 x1 x2 x3 : Nat} (h0 : x0 < x1) (h1 : x1 < x2) (h2 : ¬x0 < x3) : x3 ≤ x0 ∧ x0 < x2 := ⟨(aLin [x3, x0] 1 (.v 0) (.v 1) (.c 1 (.v 0) (.v 1) .o) rfl (Nat.le_of_not_lt h2)), (aLin [x0, x1, x2] 1 (.a (.v 0) (.n 1)) (.v 2) (.c 1 (.a (.v 0) (.n 1)) (.v 1) (.c 1 (.a (.v 1) (.n 1)) (.v 2) .o)) rfl h0 h1)⟩
theorem oq112 {x0 x1 x2 : Nat} (h0 : x0 < x1) : x2 ≤ x2 + x1 - 1 - x0 := (aLin [x0, x1, x2, ((x2 + x1) - 1), (((x2 + x1) - 1) - x0)] 1 (.v 2) (.v 4) (.c 1 (.a (.v 0) (.n 1)) (.v 1) (.c 1 (.a (.v 2) (.v 1)) (.a (.v 3) (.n 1)) (.c 1 (.v 3) (.a (.v 4) (.v 0)) .o))) rfl h0 (sb1 (a := (x2 + x1)) (b := 1)) (sb1 (a := ((x2 + x1) - 1)) (b := x0)))
theorem oq113 {x0 x1 x2 x3 : Nat} (h0 : x0 < x1) (h1 : x1 < x2) : x3 + x2 - 1 - x1 < x3 + x2 - 1 - x0 := (aLin [x0, x1, (((x3 + x2) - 1) - x1), ((x3 + x2) - 1), (((x3 + x2) - 1) - x0)] 1 (.a (.v 2) (.n 1)) (.v 4) (.c 1 (.a (.v 0) (.n 1)) (.v 1) (.c 1 (.a (.v 2) (.v 1)) (.v 3) (.c 1 (.v 3) (.a (.v 4) (.v 0)) .o))) rfl h0 (sb2 (aLin [x1, x2, x3, ((x3 + x2) - 1)] 1 (.v 0) (.v 3) (.c 1 (.a (.v 0) (.n 1)) (.v 1) (.c 1 (.a (.v 2) (.v 1)) (.a (.v 3) (.n 1)) .o)) rfl h1 (sb1 (a := (x3 + x2)) (b := 1)))) (sb1 (a := ((x3 + x2) - 1)) (b := x0)))
theorem oq114 {x0 x1 x2 x3 : Nat} (h0 : x0 < x1) (h1 : x1 < x2) (h2 : ¬x0 < x3) : x3 + x2 - 1 - x0 < x2 := (aLin [x3, x0, ((x3 + x2) - 1), x2, (((x3 + x2) - 1) - x0)] 1 (.a (.v 4) (.n 1)) (.v 3) (.c 1 (.v 0) (.v 1) (.c 1 (.a (.v 2) (.n 1)) (.a (.v 0) (.v 3)) (.c 1 (.a (.v 4) (.v 1)) (.v 2) .o))) rfl (Nat.le_of_not_lt h2) (sb2 (aLin [x1, x2, x3] 1 (.n 1) (.a (.v 2) (.v 1)) (.c 1 (.a (.v 0) (.n 1)) (.v 1) .o) rfl h1)) (sb2 (aLin [x0, x1, x2, x3, ((x3 + x2) - 1)] 1 (.v 0) (.v 4) (.c 1 (.a (.v 0) (.n 1)) (.v 1) (.c 1 (.a (.v 1) (.n 1)) (.v 2) (.c 1 (.a (.v 3) (.v 2)) (.a (.v 4) (.n 1)) .o))) rfl h0 h1 (sb1 (a := (x3 + x2)) (b := 1)))))
theorem oq115 {x0 x1 x2 x3 : Nat} (h0 : x0 < x1) (h1 : x1 < x2) : x3 ≤ x3 + x2 - 1 - x0 := (aLin [x0, x1, x2, x3, ((x3 + x2) - 1), (((x3 + x2) - 1) - x0)] 1 (.v 3) (.v 5) (.c 1 (.a (.v 0) (.n 1)) (.v 1) (.c 1 (.a (.v 1) (.n 1)) (.v 2) (.c 1 (.a (.v 3) (.v 2)) (.a (.v 4) (.n 1)) (.c 1 (.v 4) (.a (.v 5) (.v 0)) .o)))) rfl h0 h1 (sb1 (a := (x3 + x2)) (b := 1)) (sb1 (a := ((x3 + x2) - 1)) (b := x0)))
theorem oq116 {x0 x1 x2 : Nat} (h0 : x0 ≤ x1) : ¬(x2 ≤ x1 ∧ x1 < x0) := (fun w1 => (aLinF [x0, x1] (.c 1 (.v 0) (.v 1) (.c 1 (.a (.v 1) (.n 1)) (.v 0) .o)) rfl h0 w1.2))
theorem oq117 {x0 x1 x2 : Nat} (h0 : x0 < x1) (h1 : x2 ≤ x0 ∧ x0 < x1) : x2 + x1 - 1 - x0 < x1 := (aLin [x2, x0, ((x2 + x1) - 1), x1, (((x2 + x1) - 1) - x0)] 1 (.a (.v 4) (.n 1)) (.v 3) (.c 1 (.v 0) (.v 1) (.c 1 (.a (.v 2) (.n 1)) (.a (.v 0) (.v 3)) (.c 1 (.a (.v 4) (.v 1)) (.v 2) .o))) rfl h1.1 (sb2 (aLin [x0, x1, x2] 1 (.n 1) (.a (.v 2) (.v 1)) (.c 1 (.a (.v 0) (.n 1)) (.v 1) .o) rfl h0)) (sb2 (aLin [x0, x1, x2, ((x2 + x1) - 1)] 1 (.v 0) (.v 3) (.c 1 (.a (.v 0) (.n 1)) (.v 1) (.c 1 (.a (.v 2) (.v 1)) (.a (.v 3) (.n 1)) .o)) rfl h0 (sb1 (a := (x2 + x1)) (b := 1)))))
theorem oq118 {x0 x1 : Nat} (h0 : x0 < x1) : x0 ≤ x1 - 1 ∧ x1 - 1 < x1 := ⟨(aLin [x0, x1, (x1 - 1)] 1 (.v 0) (.v 2) (.c 1 (.a (.v 0) (.n 1)) (.v 1) (.c 1 (.v 1) (.a (.v 2) (.n 1)) .o)) rfl h0 (sb1 (a := x1) (b := 1))), (aLin [(x1 - 1), x1] 1 (.a (.v 0) (.n 1)) (.v 1) (.c 1 (.a (.v 0) (.n 1)) (.v 1) .o) rfl (sb2 (aLin [x0, x1] 1 (.n 1) (.v 1) (.c 1 (.a (.v 0) (.n 1)) (.v 1) .o) rfl h0)))⟩
theorem oq119 {x0 x1 : Nat} (h0 : x0 < x1) : x0 ≤ x0 + x1 - 1 - (x1 - 1) := (aLin [x0, x1, ((x0 + x1) - 1), (x1 - 1), (((x0 + x1) - 1) - (x1 - 1))] 1 (.v 0) (.v 4) (.c 1 (.a (.v 0) (.v 1)) (.a (.v 2) (.n 1)) (.c 1 (.a (.v 3) (.n 1)) (.v 1) (.c 1 (.v 2) (.a (.v 4) (.v 3)) .o))) rfl (sb1 (a := (x0 + x1)) (b := 1)) (sb2 (aLin [x0, x1] 1 (.n 1) (.v 1) (.c 1 (.a (.v 0) (.n 1)) (.v 1) .o) rfl h0)) (sb1 (a := ((x0 + x1) - 1)) (b := (x1 - 1))))
theorem oq120 {x0 x1 : Nat} (h0 : x0 < x1) : x0 + x1 - 1 - (x1 - 1) < x1 := (aLin [x0, x1, ((x0 + x1) - 1), (x1 - 1), (((x0 + x1) - 1) - (x1 - 1))] 1 (.a (.v 4) (.n 1)) (.v 1) (.c 1 (.a (.v 0) (.n 1)) (.v 1) (.c 1 (.a (.v 2) (.n 1)) (.a (.v 0) (.v 1)) (.c 2 (.v 1) (.a (.v 3) (.n 1)) (.c 1 (.a (.v 3) (.n 1)) (.v 1) (.c 1 (.a (.v 4) (.v 3)) (.v 2) .o))))) rfl h0 (sb2 (aLin [x0, x1] 1 (.n 1) (.a (.v 0) (.v 1)) (.c 1 (.a (.v 0) (.n 1)) (.v 1) .o) rfl h0)) (sb1 (a := x1) (b := 1)) (sb2 (aLin [x0, x1] 1 (.n 1) (.v 1) (.c 1 (.a (.v 0) (.n 1)) (.v 1) .o) rfl h0)) (sb2 (aLin [x0, x1, ((x0 + x1) - 1), (x1 - 1)] 1 (.v 3) (.v 2) (.c 1 (.a (.v 0) (.v 1)) (.a (.v 2) (.n 1)) (.c 1 (.a (.v 3) (.n 1)) (.v 1) .o)) rfl (sb1 (a := (x0 + x1)) (b := 1)) (sb2 (aLin [x0, x1] 1 (.n 1) (.v 1) (.c 1 (.a (.v 0) (.n 1)) (.v 1) .o) rfl h0)))))
theorem oq121 {x0 x1 : Nat} (h0 : 0 < x0) (h1 : x1 < x0) (h2 : ¬x1 < x0 - 1) : x1 = x0 - 1 := (Nat.le_antisymm (aLin [x1, x0, (x0 - 1)] 1 (.v 0) (.v 2) (.c 1 (.a (.v 0) (.n 1)) (.v 1) (.c 1 (.v 1) (.a (.v 2) (.n 1)) .o)) rfl h1 (sb1 (a := x0) (b := 1))) (aLin [(x0 - 1), x1] 1 (.v 0) (.v 1) (.c 1 (.v 0) (.v 1) .o) rfl (Nat.le_of_not_lt h2)))
theorem oq122 {x0 x1 : Nat} (h0 : x0 ≤ x1) : max x0 x1 = x1 := (Nat.le_antisymm (aLin [(max x0 x1), x1] 1 (.v 0) (.v 1) (.c 1 (.v 0) (.v 1) .o) rfl (eqL (Nat.max_eq_right (aLin [x0, x1] 1 (.v 0) (.v 1) (.c 1 (.v 0) (.v 1) .o) rfl h0)))) (aLin [x1, (max x0 x1)] 1 (.v 0) (.v 1) (.c 1 (.v 0) (.v 1) .o) rfl (Nat.le_max_right x0 x1)))
theorem oq123 {x0 x1 x2 x3 : Nat} (h0 : x0 ≤ x1) (h1 : 1 ≤ x2) (h2 : x2 ≤ x3) (h3 : x3 < x0) : x3 - 1 < x1 := (aLin [x0, x1, x3, (x3 - 1)] 1 (.a (.v 3) (.n 1)) (.v 1) (.c 1 (.v 0) (.v 1) (.c 1 (.a (.v 2) (.n 1)) (.v 0) (.c 1 (.v 3) (.v 2) .o))) rfl h0 h3 (Nat.sub_le x3 1))
theorem oq124 {x0 x1 x2 x3 : Nat} (h0 : x0 < x1) (h1 : x2 = x1) (h2 : x3 < x1) (h3 : ¬x0 = x1 - 1) : x0 < x1 - 1 := (Or.elim (Nat.lt_or_gt_of_ne h3) (fun w1 => (aLin [x0, (x1 - 1)] 1 (.a (.v 0) (.n 1)) (.v 1) (.c 1 (.a (.v 0) (.n 1)) (.v 1) .o) rfl w1)) (fun w1 => (aLin [x0, x1, (x1 - 1)] 0 (.a (.v 0) (.n 1)) (.v 2) (.c 1 (.a (.v 0) (.n 1)) (.v 1) (.c 1 (.a (.v 2) (.n 1)) (.v 0) (.c 1 (.v 1) (.a (.v 2) (.n 1)) .o))) rfl h0 w1 (sb1 (a := x1) (b := 1)))))
theorem oq125 {x0 x1 x2 : Nat} (h0 : x0 = x1) (h1 : x2 < x1) : x1 - 1 < x1 := (aLin [(x1 - 1), x1] 1 (.a (.v 0) (.n 1)) (.v 1) (.c 1 (.a (.v 0) (.n 1)) (.v 1) .o) rfl (sb2 (aLin [x2, x1] 1 (.n 1) (.v 1) (.c 1 (.a (.v 0) (.n 1)) (.v 1) .o) rfl h1)))
theorem oq126 {x0 x1 : Int} (h0 : x0 < x1) : x0 ≤ x1 := Int.le_of_lt h0
theorem oq127 {x0 x1 : Int} (h0 : x0 = x1) : x0 ≤ x1 := Int.le_of_eq h0
theorem oq128 {x2 x3 x4 : Nat} {x0 x1 x5 : Int} (h0 : ¬x0 < x1) (h1 : x2 = x3) (h2 : x4 < x3) (h3 : x5 ≤ x1) : x5 < x0 ∨ x5 = x0 ∧ x4 < x2 := (Int.lt_or_eq_of_le (Int.le_trans h3 (Int.not_lt.mp h0))).imp id fun e => ⟨e, h1 ▸ h2⟩
theorem oq129 {x0 x1 x2 : Nat} (h0 : x0 < x1) (h1 : x1 < x2) : 0 ≤ x0 ∧ x0 < x2 := ⟨(aLin [x0] 1 (.n 0) (.v 0) .o rfl), (aLin [x0, x1, x2] 1 (.a (.v 0) (.n 1)) (.v 2) (.c 1 (.a (.v 0) (.n 1)) (.v 1) (.c 1 (.a (.v 1) (.n 1)) (.v 2) .o)) rfl h0 h1)⟩
theorem oq130 {x0 x1 : Nat} (h0 : x0 < x1) : 0 ≤ x0 ∧ x0 < x1 := ⟨(aLin [x0] 1 (.n 0) (.v 0) .o rfl), (aLin [x0, x1] 1 (.a (.v 0) (.n 1)) (.v 1) (.c 1 (.a (.v 0) (.n 1)) (.v 1) .o) rfl h0)⟩
theorem oq131 {x0 x1 x2 : Nat} (h0 : x0 < x1) (h1 : x1 < x2) : 0 + x2 - 1 - x1 < 0 + x2 - 1 - x0 := (aLin [x0, x1, (((0 + x2) - 1) - x1), ((0 + x2) - 1), (((0 + x2) - 1) - x0)] 1 (.a (.v 2) (.n 1)) (.v 4) (.c 1 (.a (.v 0) (.n 1)) (.v 1) (.c 1 (.a (.v 2) (.v 1)) (.v 3) (.c 1 (.v 3) (.a (.v 4) (.v 0)) .o))) rfl h0 (sb2 (aLin [x1, x2, ((0 + x2) - 1)] 1 (.v 0) (.v 2) (.c 1 (.a (.v 0) (.n 1)) (.v 1) (.c 1 (.a (.n 0) (.v 1)) (.a (.v 2) (.n 1)) .o)) rfl h1 (sb1 (a := (0 + x2)) (b := 1)))) (sb1 (a := ((0 + x2) - 1)) (b := x0)))
theorem oq132 {x0 x1 x2 : Nat} (h0 : x0 < x1) (h1 : x1 < x2) : 0 + x2 - 1 - x0 < x2 := (aLin [((0 + x2) - 1), x2, (((0 + x2) - 1) - x0)] 1 (.a (.v 2) (.n 1)) (.v 1) (.c 1 (.a (.v 0) (.n 1)) (.a (.n 0) (.v 1)) (.c 1 (.v 2) (.v 0) .o)) rfl (sb2 (aLin [x1, x2] 1 (.n 1) (.a (.n 0) (.v 1)) (.c 1 (.a (.v 0) (.n 1)) (.v 1) .o) rfl h1)) (Nat.sub_le ((0 + x2) - 1) x0))
theorem oq133 {x0 x1 : Nat} (h0 : x0 ≤ x1) : ¬(0 ≤ x1 ∧ x1 < x0) := (fun w1 => (aLinF [x0, x1] (.c 1 (.v 0) (.v 1) (.c 1 (.a (.v 1) (.n 1)) (.v 0) .o)) rfl h0 w1.2))
theorem oq134 {x0 x1 : Nat} (h0 : x0 < x1) : 0 + x1 - 1 - x0 < x1 := (aLin [((0 + x1) - 1), x1, (((0 + x1) - 1) - x0)] 1 (.a (.v 2) (.n 1)) (.v 1) (.c 1 (.a (.v 0) (.n 1)) (.a (.n 0) (.v 1)) (.c 1 (.v 2) (.v 0) .o)) rfl (sb2 (aLin [x0, x1] 1 (.n 1) (.a (.n 0) (.v 1)) (.c 1 (.a (.v 0) (.n 1)) (.v 1) .o) rfl h0)) (Nat.sub_le ((0 + x1) - 1) x0))
theorem oq135 {x0 x1 x2 x3 : Nat} (h0 : x0 ≤ x1) (h1 : x2 < x0) (h2 : x3 + 1 ≤ x2) : x2 - 1 < x1 := (aLin [x0, x1, x2, (x2 - 1)] 1 (.a (.v 3) (.n 1)) (.v 1) (.c 1 (.v 0) (.v 1) (.c 1 (.a (.v 2) (.n 1)) (.v 0) (.c 1 (.v 3) (.v 2) .o))) rfl h0 h1 (Nat.sub_le x2 1))
theorem oq136 {x0 : Nat} : x0 + 1 - (0 + 1) = x0 := (Nat.le_antisymm (aLin [((x0 + 1) - (0 + 1)), x0] 1 (.v 0) (.v 1) (.c 1 (.a (.v 0) (.a (.n 0) (.n 1))) (.a (.v 1) (.n 1)) .o) rfl (sb2 (aLin [x0] 1 (.a (.n 0) (.n 1)) (.a (.v 0) (.n 1)) .o rfl))) (aLin [x0, ((x0 + 1) - (0 + 1))] 1 (.v 0) (.v 1) (.c 1 (.a (.v 0) (.n 1)) (.a (.v 1) (.a (.n 0) (.n 1))) .o) rfl (sb1 (a := (x0 + 1)) (b := (0 + 1)))))
theorem oq137 {x0 : Nat} (h0 : 0 + 1 ≤ x0) : x0 + 1 - (0 + 1) = x0 := (Nat.le_antisymm (aLin [((x0 + 1) - (0 + 1)), x0] 1 (.v 0) (.v 1) (.c 1 (.a (.v 0) (.a (.n 0) (.n 1))) (.a (.v 1) (.n 1)) .o) rfl (sb2 (aLin [x0] 1 (.a (.n 0) (.n 1)) (.a (.v 0) (.n 1)) .o rfl))) (aLin [x0, ((x0 + 1) - (0 + 1))] 1 (.v 0) (.v 1) (.c 1 (.a (.v 0) (.n 1)) (.a (.v 1) (.a (.n 0) (.n 1))) .o) rfl (sb1 (a := (x0 + 1)) (b := (0 + 1)))))
theorem oq138 {x0 x1 : Int} (h0 : ¬x0 < x1) (h1 : ¬x1 < x0) : x0 = x1 := Int.le_antisymm (Int.not_lt.mp h1) (Int.not_lt.mp h0)
theorem oq139 {x0 x1 : Nat} (h0 : x0 + 1 ≤ x1) : x1 + 1 - (x0 + 1 + 1) = x1 - (x0 + 1) := (Nat.le_antisymm (aLin [((x1 + 1) - ((x0 + 1) + 1)), x0, x1, (x1 - (x0 + 1))] 1 (.v 0) (.v 3) (.c 1 (.a (.v 0) (.a (.a (.v 1) (.n 1)) (.n 1))) (.a (.v 2) (.n 1)) (.c 1 (.v 2) (.a (.v 3) (.a (.v 1) (.n 1))) .o)) rfl (sb2 (aLin [x0, x1] 1 (.a (.a (.v 0) (.n 1)) (.n 1)) (.a (.v 1) (.n 1)) (.c 1 (.a (.v 0) (.n 1)) (.v 1) .o) rfl h0)) (sb1 (a := x1) (b := (x0 + 1)))) (aLin [(x1 - (x0 + 1)), x0, x1, ((x1 + 1) - ((x0 + 1) + 1))] 1 (.v 0) (.v 3) (.c 1 (.a (.v 0) (.a (.v 1) (.n 1))) (.v 2) (.c 1 (.a (.v 2) (.n 1)) (.a (.v 3) (.a (.a (.v 1) (.n 1)) (.n 1))) .o)) rfl (sb2 (aLin [x0, x1] 1 (.a (.v 0) (.n 1)) (.v 1) (.c 1 (.a (.v 0) (.n 1)) (.v 1) .o) rfl h0)) (sb1 (a := (x1 + 1)) (b := ((x0 + 1) + 1)))))
theorem oq140 {x0 x1 x4 x5 : Nat} {x2 x3 : Int} (h0 : x0 < x1) (h1 : x1 < 1) : x2 < x3 ∨ x2 = x3 ∧ x4 < x5 := (Nat.not_lt_zero _ (Nat.lt_of_lt_of_le h0 (Nat.le_of_lt_succ h1))).elim
theorem oq141 {x0 x1 x2 : Nat} (h0 : x0 ≤ x1) (h1 : x2 ≤ x0) (h2 : x2 > 1) : x2 - 1 < x1 := (aLin [x0, x1, x2, (x2 - 1)] 1 (.a (.v 3) (.n 1)) (.v 1) (.c 1 (.v 0) (.v 1) (.c 1 (.v 2) (.v 0) (.c 1 (.a (.v 3) (.n 1)) (.v 2) .o))) rfl h0 h1 (sb2 (aLin [x2] 1 (.n 1) (.v 0) (.c 1 (.a (.n 1) (.n 1)) (.v 0) .o) rfl h2)))
theorem oq142 {x0 x1 : Nat} (h0 : x0 > 1) (h1 : x1 < x0) (h2 : ¬x1 = x0 - 1) : x1 < x0 - 1 := (Or.elim (Nat.lt_or_gt_of_ne h2) (fun w1 => (aLin [x1, (x0 - 1)] 1 (.a (.v 0) (.n 1)) (.v 1) (.c 1 (.a (.v 0) (.n 1)) (.v 1) .o) rfl w1)) (fun w1 => (aLin [x1, x0, (x0 - 1)] 0 (.a (.v 0) (.n 1)) (.v 2) (.c 1 (.a (.v 0) (.n 1)) (.v 1) (.c 1 (.a (.v 2) (.n 1)) (.v 0) (.c 1 (.v 1) (.a (.v 2) (.n 1)) .o))) rfl h1 w1 (sb1 (a := x0) (b := 1)))))
theorem oq143 {x0 : Nat} (h0 : x0 > 1) : x0 - 1 < x0 := (aLin [(x0 - 1), x0] 1 (.a (.v 0) (.n 1)) (.v 1) (.c 1 (.a (.v 0) (.n 1)) (.v 1) .o) rfl (sb2 (aLin [x0] 1 (.n 1) (.v 0) (.c 1 (.a (.n 1) (.n 1)) (.v 0) .o) rfl h0)))
theorem oq144 {x0 x1 x2 : Int} (h0 : ¬x0 < x1) (h1 : x2 ≤ x1) (h2 : x0 < x2) : x2 = x0 := (h0 (Int.lt_of_lt_of_le h2 h1)).elim
theorem oq145 {x0 x1 : Int} (h0 : x0 = x1) : x1 = x0 := h0.symm
theorem oq146 {x0 x1 x2 : Nat} {x3 x4 : Int} (h0 : x0 < 0) : 0 ≤ x1 → x1 < x2 → x3 < x4 := (Nat.not_lt_zero _ h0).elim
theorem oq147 {x1 x2 : Nat} {x0 : Int} (h0 : x0 < x0) : x1 < x2 := (Int.lt_irrefl _ h0).elim
theorem oq148 {x0 : Nat} (h0 : 1 ≤ x0) (h1 : ¬x0 > 1) : x0 = 1 := (Nat.le_antisymm (aLin [x0] 1 (.v 0) (.n 1) (.c 1 (.v 0) (.n 1) .o) rfl (Nat.le_of_not_lt h1)) (aLin [x0] 1 (.n 1) (.v 0) (.c 1 (.n 1) (.v 0) .o) rfl h0))
theorem oq149 {x0 x1 : Nat} (h0 : x0 ≤ x1) (h1 : 1 ≤ x0) : min (max x0 1) x1 = x0 := (Nat.le_antisymm (aLin [(max x0 1), x0, (min (max x0 1) x1)] 1 (.v 2) (.v 1) (.c 1 (.v 0) (.v 1) (.c 1 (.v 2) (.v 0) .o)) rfl (eqL (Nat.max_eq_left (aLin [x0] 1 (.n 1) (.v 0) (.c 1 (.n 1) (.v 0) .o) rfl h1))) (Nat.min_le_left (max x0 1) x1)) (aLin [x0, (max x0 1), (min (max x0 1) x1)] 1 (.v 0) (.v 2) (.c 1 (.v 0) (.v 1) (.c 1 (.v 1) (.v 2) .o)) rfl (Nat.le_max_left x0 1) (eqG (Nat.min_eq_left (aLin [x0, x1, (max x0 1)] 1 (.v 2) (.v 1) (.c 1 (.v 0) (.v 1) (.c 1 (.v 2) (.v 0) .o)) rfl h0 (eqL (Nat.max_eq_left (aLin [x0] 1 (.n 1) (.v 0) (.c 1 (.n 1) (.v 0) .o) rfl h1))))))))
theorem oq150 {x0 x1 : Nat} : min (max (max x0 1) x1) x1 = x1 := (Nat.le_antisymm (aLin [(min (max (max x0 1) x1) x1), x1] 1 (.v 0) (.v 1) (.c 1 (.v 0) (.v 1) .o) rfl (Nat.min_le_right (max (max x0 1) x1) x1)) (aLin [x1, (min (max (max x0 1) x1) x1)] 1 (.v 0) (.v 1) (.c 1 (.v 0) (.v 1) .o) rfl (eqG (Nat.min_eq_right (aLin [x1, (max (max x0 1) x1)] 1 (.v 0) (.v 1) (.c 1 (.v 0) (.v 1) .o) rfl (Nat.le_max_right (max x0 1) x1))))))
theorem oq151 {x0 x1 : Nat} (h0 : x0 < x1) : min x0 x1 = x0 := (Nat.le_antisymm (aLin [(min x0 x1), x0] 1 (.v 0) (.v 1) (.c 1 (.v 0) (.v 1) .o) rfl (Nat.min_le_left x0 x1)) (aLin [x0, (min x0 x1)] 1 (.v 0) (.v 1) (.c 1 (.v 0) (.v 1) .o) rfl (eqG (Nat.min_eq_left (aLin [x0, x1] 1 (.v 0) (.v 1) (.c 1 (.a (.v 0) (.n 1)) (.v 1) .o) rfl h0)))))
theorem oq152 {x0 : Nat} {x1 x2 : Int} (h0 : x0 < 0) : x1 ≤ x2 := (Nat.not_lt_zero _ h0).elim
theorem oq153 {x0 x1 : Nat} {x2 x3 : Int} (h0 : x0 ≤ x1) (h1 : x1 < x0) : x2 < x3 := (Nat.not_lt_of_le h0 h1).elim
theorem oq154 {x0 x1 x2 : Nat} (h0 : x0 ≤ x1) (h1 : x1 - x0 ≤ x2 - max 0 x2) : x0 = x1 := (Nat.le_antisymm (aLin [x0, x1] 1 (.v 0) (.v 1) (.c 1 (.v 0) (.v 1) .o) rfl h0) (aLin [(x1 - x0), (x2 - (max 0 x2)), x1, x0, x2, (max 0 x2)] 1 (.v 2) (.v 3) (.c 1 (.v 0) (.v 1) (.c 1 (.v 2) (.a (.v 0) (.v 3)) (.c 1 (.v 4) (.v 5) (.c 1 (.a (.v 1) (.v 5)) (.v 4) .o)))) rfl h1 (sb1 (a := x1) (b := x0)) (Nat.le_max_right 0 x2) (sb2 (aLin [(max 0 x2), x2] 1 (.v 0) (.v 1) (.c 1 (.v 0) (.v 1) .o) rfl (eqL (Nat.max_eq_right (aLin [x2] 1 (.n 0) (.v 0) .o rfl)))))))
theorem oq155 {x0 x1 x2 x3 : Nat} (h0 : x0 < x1) (h1 : x2 ≤ x0) (h2 : ¬x3 ≥ x2) : (x3 + x2) / 2 < x1 := (aLin [x0, x1, x2, x3, ((x3 + x2) / 2)] 2 (.a (.v 4) (.n 1)) (.v 1) (.c 2 (.a (.v 0) (.n 1)) (.v 1) (.c 2 (.v 2) (.v 0) (.c 1 (.a (.v 3) (.n 1)) (.v 2) (.c 1 (.r (.v 4) 2) (.a (.v 3) (.v 2)) .o)))) rfl h0 h1 (Nat.lt_of_not_le h2) (dv1 (a := (x3 + x2))))
theorem oq156 {x0 x1 : Nat} (h0 : ¬x0 ≥ x1) : x0 ≤ (x0 + x1) / 2 := (aLin [x0, x1, ((x0 + x1) / 2)] 2 (.v 0) (.v 2) (.c 1 (.a (.v 0) (.n 1)) (.v 1) (.c 1 (.a (.a (.v 0) (.v 1)) (.n 1)) (.a (.r (.v 2) 2) (.n 2)) .o)) rfl (Nat.lt_of_not_le h0) (dv2 (a := (x0 + x1))))
theorem oq157 {x0 x1 x2 : Nat} (h0 : x0 ≤ x1) (h1 : ¬x2 ≥ x0) : (x2 + x0) / 2 ≤ x1 := (aLin [x0, x1, x2, ((x2 + x0) / 2)] 2 (.v 3) (.v 1) (.c 2 (.v 0) (.v 1) (.c 1 (.a (.v 2) (.n 1)) (.v 0) (.c 1 (.r (.v 3) 2) (.a (.v 2) (.v 0)) .o))) rfl h0 (Nat.lt_of_not_le h1) (dv1 (a := (x2 + x0))))
theorem oq158 {x0 x1 x2 x3 : Nat} (h0 : x0 < x1) (h1 : x2 - x3 ≤ x1 - x0) (h2 : ¬x3 ≥ x2) : (x3 + x2) / 2 - x3 ≤ x1 - (x0 + 1) := (aLin [(x2 - x3), (x1 - x0), x2, x3, x0, x1, ((x3 + x2) / 2), (((x3 + x2) / 2) - x3), (x1 - (x0 + 1))] 2 (.v 7) (.v 8) (.c 1 (.v 0) (.v 1) (.c 1 (.v 2) (.a (.v 0) (.v 3)) (.c 1 (.a (.v 1) (.v 4)) (.v 5) (.c 1 (.r (.v 6) 2) (.a (.v 3) (.v 2)) (.c 2 (.a (.v 7) (.v 3)) (.v 6) (.c 1 (.v 5) (.a (.v 8) (.a (.v 4) (.n 1))) .o)))))) rfl h1 (sb1 (a := x2) (b := x3)) (sb2 (aLin [x0, x1] 1 (.v 0) (.v 1) (.c 1 (.a (.v 0) (.n 1)) (.v 1) .o) rfl h0)) (dv1 (a := (x3 + x2))) (sb2 (aLin [(x2 - x3), x3, x2, ((x3 + x2) / 2)] 2 (.v 1) (.v 3) (.c 1 (.a (.v 0) (.v 1)) (.v 2) (.c 1 (.a (.a (.v 1) (.v 2)) (.n 1)) (.a (.r (.v 3) 2) (.n 2)) .o)) rfl (sb2 (aLin [x3, x2] 1 (.v 0) (.v 1) (.c 1 (.a (.v 0) (.n 1)) (.v 1) .o) rfl (Nat.lt_of_not_le h2))) (dv2 (a := (x3 + x2))))) (sb1 (a := x1) (b := (x0 + 1))))
theorem oq159 {x0 x1 : Nat} (h0 : ¬x0 ≥ x1) : (x0 + x1) / 2 + 1 ≤ x1 := (aLin [x0, x1, ((x0 + x1) / 2)] 2 (.a (.v 2) (.n 1)) (.v 1) (.c 1 (.a (.v 0) (.n 1)) (.v 1) (.c 1 (.r (.v 2) 2) (.a (.v 0) (.v 1)) .o)) rfl (Nat.lt_of_not_le h0) (dv1 (a := (x0 + x1))))
theorem oq160 {x0 x1 x2 x3 : Nat} (h0 : x0 < x1) (h1 : x2 - x3 ≤ x1 - x0) (h2 : ¬x3 ≥ x2) : x2 - ((x3 + x2) / 2 + 1) ≤ x1 - (x0 + 1) := (aLin [(x2 - x3), (x1 - x0), x2, x3, x0, x1, ((x3 + x2) / 2), (x2 - (((x3 + x2) / 2) + 1)), (x1 - (x0 + 1))] 2 (.v 7) (.v 8) (.c 1 (.v 0) (.v 1) (.c 1 (.v 2) (.a (.v 0) (.v 3)) (.c 1 (.a (.v 1) (.v 4)) (.v 5) (.c 1 (.a (.a (.v 3) (.v 2)) (.n 1)) (.a (.r (.v 6) 2) (.n 2)) (.c 2 (.a (.v 7) (.a (.v 6) (.n 1))) (.v 2) (.c 1 (.v 5) (.a (.v 8) (.a (.v 4) (.n 1))) .o)))))) rfl h1 (sb1 (a := x2) (b := x3)) (sb2 (aLin [x0, x1] 1 (.v 0) (.v 1) (.c 1 (.a (.v 0) (.n 1)) (.v 1) .o) rfl h0)) (dv2 (a := (x3 + x2))) (sb2 (aLin [x3, x2, ((x3 + x2) / 2)] 2 (.a (.v 2) (.n 1)) (.v 1) (.c 1 (.a (.v 0) (.n 1)) (.v 1) (.c 1 (.r (.v 2) 2) (.a (.v 0) (.v 1)) .o)) rfl (Nat.lt_of_not_le h2) (dv1 (a := (x3 + x2))))) (sb1 (a := x1) (b := (x0 + 1))))
theorem oq161 {x0 x1 x2 : Nat} (h0 : x0 < (x1 + x2) / 2 + 1) : x0 ≤ (x1 + x2) / 2 := (aLin [x0, ((x1 + x2) / 2)] 1 (.v 0) (.v 1) (.c 1 (.a (.v 0) (.n 1)) (.a (.v 1) (.n 1)) .o) rfl h0)
theorem oq162 {x0 x1 x2 : Nat} (h0 : x0 ≤ x1) (h1 : ¬x2 ≥ x0) : (x2 + x0) / 2 < x1 := (aLin [x0, x1, x2, ((x2 + x0) / 2)] 2 (.a (.v 3) (.n 1)) (.v 1) (.c 2 (.v 0) (.v 1) (.c 1 (.a (.v 2) (.n 1)) (.v 0) (.c 1 (.r (.v 3) 2) (.a (.v 2) (.v 0)) .o))) rfl h0 (Nat.lt_of_not_le h1) (dv1 (a := (x2 + x0))))
theorem oq163 {x0 x1 : Nat} (h0 : x0 < x1) : min (x0 + 1) x1 = x0 + 1 := (Nat.le_antisymm (aLin [(min (x0 + 1) x1), x0] 1 (.v 0) (.a (.v 1) (.n 1)) (.c 1 (.v 0) (.a (.v 1) (.n 1)) .o) rfl (Nat.min_le_left (x0 + 1) x1)) (aLin [x0, (min (x0 + 1) x1)] 1 (.a (.v 0) (.n 1)) (.v 1) (.c 1 (.a (.v 0) (.n 1)) (.v 1) .o) rfl (eqG (Nat.min_eq_left (aLin [x0, x1] 1 (.a (.v 0) (.n 1)) (.v 1) (.c 1 (.a (.v 0) (.n 1)) (.v 1) .o) rfl h0)))))
theorem oq164 {x0 x1 x2 : Nat} (h0 : x0 ≤ x1) (h1 : x2 = x1) : x1 - (x1 - x0) = x0 := (Nat.le_antisymm (aLin [x1, (x1 - x0), x0, (x1 - (x1 - x0))] 1 (.v 3) (.v 2) (.c 1 (.v 0) (.a (.v 1) (.v 2)) (.c 1 (.a (.v 3) (.v 1)) (.v 0) .o)) rfl (sb1 (a := x1) (b := x0)) (sb2 (aLin [(x1 - x0), x1] 1 (.v 0) (.v 1) (.c 1 (.v 0) (.v 1) .o) rfl (Nat.sub_le x1 x0)))) (aLin [(x1 - x0), x0, x1, (x1 - (x1 - x0))] 1 (.v 1) (.v 3) (.c 1 (.a (.v 0) (.v 1)) (.v 2) (.c 1 (.v 2) (.a (.v 3) (.v 0)) .o)) rfl (sb2 (aLin [x0, x1] 1 (.v 0) (.v 1) (.c 1 (.v 0) (.v 1) .o) rfl h0)) (sb1 (a := x1) (b := (x1 - x0)))))
theorem oq165 {x0 x1 x2 : Nat} (h0 : x0 < x1) (h1 : x1 < x2) : ¬x0 = x2 := (fun w1 => (aLinF [x0, x1, x2] (.c 1 (.a (.v 0) (.n 1)) (.v 1) (.c 1 (.a (.v 1) (.n 1)) (.v 2) (.c 1 (.v 2) (.v 0) .o))) rfl h0 h1 (eqG w1)))
theorem oq166 {x0 x1 x2 x3 : Nat} (h0 : x0 < x1) (h1 : x1 < x2) : ¬(x2 < x0 ∧ x0 ≤ x3) := (fun w1 => (aLinF [x0, x1, x2] (.c 1 (.a (.v 0) (.n 1)) (.v 1) (.c 1 (.a (.v 1) (.n 1)) (.v 2) (.c 1 (.a (.v 2) (.n 1)) (.v 0) .o))) rfl h0 h1 w1.1))
theorem oq167 {x0 x1 x2 : Nat} (h0 : x0 < x1) : ¬(x1 < x0 ∧ x0 ≤ x2) := (fun w1 => (aLinF [x0, x1] (.c 1 (.a (.v 0) (.n 1)) (.v 1) (.c 1 (.a (.v 1) (.n 1)) (.v 0) .o)) rfl h0 w1.1))
theorem oq168 {x0 x1 x2 x3 : Nat} (h0 : x0 ≤ x1) (h1 : x2 = x1) (h2 : x3 < x1 + 1) (h3 : x3 < x0) : x3 < x1 := (aLin [x0, x1, x3] 1 (.a (.v 2) (.n 1)) (.v 1) (.c 1 (.v 0) (.v 1) (.c 1 (.a (.v 2) (.n 1)) (.v 0) .o)) rfl h0 h3)
theorem oq169 {x0 x1 x2 : Nat} (h0 : x0 < x1) (h1 : x1 = x2) : x0 ≠ x2 := (fun w1 => (aLinF [x0, x1, x2] (.c 1 (.a (.v 0) (.n 1)) (.v 1) (.c 1 (.v 1) (.v 2) (.c 1 (.v 2) (.v 0) .o))) rfl h0 (eqL h1) (eqG w1)))
theorem oq170 {x0 x1 x2 x3 : Nat} (h0 : x0 < x1) (h1 : x1 = x2) : ¬(x2 < x0 ∧ x0 ≤ x3) := (fun w1 => (aLinF [x0, x1, x2] (.c 1 (.a (.v 0) (.n 1)) (.v 1) (.c 1 (.v 1) (.v 2) (.c 1 (.a (.v 2) (.n 1)) (.v 0) .o))) rfl h0 (eqL h1) w1.1))
theorem oq171 {x0 x1 x4 : Nat} {x2 x3 : Int} (h0 : x0 = x1) (h1 : x2 ≤ x3) (h2 : x4 < x1) : x2 < x3 ∨ x2 = x3 ∧ x4 < x0 := (Int.lt_or_eq_of_le h1).imp id fun e => ⟨e, h0 ▸ h2⟩
theorem oq172 {x0 x1 x2 x3 : Nat} (h0 : x0 = x1) (h1 : x2 < x1 + 1) (h2 : ¬x2 < x3) (h3 : ¬x2 = x3) : x3 < x2 ∧ x2 ≤ x1 := ⟨(Or.elim (Nat.lt_or_gt_of_ne h3) (fun w1 => (aLin [x3, x2] 0 (.a (.v 0) (.n 1)) (.v 1) (.c 1 (.v 0) (.v 1) (.c 1 (.a (.v 1) (.n 1)) (.v 0) .o)) rfl (Nat.le_of_not_lt h2) w1)) (fun w1 => (aLin [x3, x2] 1 (.a (.v 0) (.n 1)) (.v 1) (.c 1 (.a (.v 0) (.n 1)) (.v 1) .o) rfl w1))), (aLin [x2, x1] 1 (.v 0) (.v 1) (.c 1 (.a (.v 0) (.n 1)) (.a (.v 1) (.n 1)) .o) rfl h1)⟩
theorem oq173 {x0 x1 x2 : Nat} (h0 : x0 < x1) (h1 : ¬x1 < x2) (h2 : ¬x1 = x2) (h3 : x0 < x2) : x0 < x1 - 1 := (Or.elim (Nat.lt_or_gt_of_ne h2) (fun w1 => (aLin [x2, x1, x0, (x1 - 1)] 0 (.a (.v 2) (.n 1)) (.v 3) (.c 1 (.v 0) (.v 1) (.c 1 (.a (.v 1) (.n 1)) (.v 0) .o)) rfl (Nat.le_of_not_lt h1) w1)) (fun w1 => (aLin [x0, x2, x1, (x1 - 1)] 1 (.a (.v 0) (.n 1)) (.v 3) (.c 1 (.a (.v 0) (.n 1)) (.v 1) (.c 1 (.a (.v 1) (.n 1)) (.v 2) (.c 1 (.v 2) (.a (.v 3) (.n 1)) .o))) rfl h3 w1 (sb1 (a := x1) (b := 1)))))
theorem oq174 {x0 x1 x2 x3 : Nat} (h0 : x0 = x1) (h1 : x2 < x3) (h2 : x3 < x1 + 1) : x3 - 1 < x1 := (aLin [x3, x1, (x3 - 1)] 1 (.a (.v 2) (.n 1)) (.v 1) (.c 1 (.a (.v 0) (.n 1)) (.a (.v 1) (.n 1)) (.c 1 (.a (.v 2) (.n 1)) (.v 0) .o)) rfl h2 (sb2 (aLin [x2, x3] 1 (.n 1) (.v 1) (.c 1 (.a (.v 0) (.n 1)) (.v 1) .o) rfl h1)))
theorem oq175 {x0 x1 x2 : Nat} (h0 : x0 < x1) (h1 : x0 = x2) : x2 ≤ x1 - 1 := (aLin [x0, x1, x2, (x1 - 1)] 1 (.v 2) (.v 3) (.c 1 (.a (.v 0) (.n 1)) (.v 1) (.c 1 (.v 2) (.v 0) (.c 1 (.v 1) (.a (.v 3) (.n 1)) .o))) rfl h0 (eqG h1) (sb1 (a := x1) (b := 1)))
theorem oq176 {x0 x1 x2 x3 x4 : Nat} (h0 : x0 = x1) (h1 : x2 < x3) (h2 : x3 < x1 + 1) (h3 : ¬x2 < x4) (h4 : ¬x2 = x4) : x4 < x2 ∧ x2 ≤ x1 := ⟨(Or.elim (Nat.lt_or_gt_of_ne h4) (fun w1 => (aLin [x4, x2] 0 (.a (.v 0) (.n 1)) (.v 1) (.c 1 (.v 0) (.v 1) (.c 1 (.a (.v 1) (.n 1)) (.v 0) .o)) rfl (Nat.le_of_not_lt h3) w1)) (fun w1 => (aLin [x4, x2] 1 (.a (.v 0) (.n 1)) (.v 1) (.c 1 (.a (.v 0) (.n 1)) (.v 1) .o) rfl w1))), (aLin [x2, x3, x1] 1 (.v 0) (.v 2) (.c 1 (.a (.v 0) (.n 1)) (.v 1) (.c 1 (.a (.v 1) (.n 1)) (.a (.v 2) (.n 1)) .o)) rfl h1 h2)⟩
theorem oq177 {x0 x1 x2 : Nat} (h0 : x0 < x1) (h1 : ¬x0 < x2) (h2 : ¬x0 = x2) : x0 - 1 < x1 - 1 := (Or.elim (Nat.lt_or_gt_of_ne h2) (fun w1 => (aLin [x2, x0, (x0 - 1), (x1 - 1)] 0 (.a (.v 2) (.n 1)) (.v 3) (.c 1 (.v 0) (.v 1) (.c 1 (.a (.v 1) (.n 1)) (.v 0) .o)) rfl (Nat.le_of_not_lt h1) w1)) (fun w1 => (aLin [x0, x1, (x0 - 1), (x1 - 1)] 1 (.a (.v 2) (.n 1)) (.v 3) (.c 1 (.a (.v 0) (.n 1)) (.v 1) (.c 1 (.a (.v 2) (.n 1)) (.v 0) (.c 1 (.v 1) (.a (.v 3) (.n 1)) .o))) rfl h0 (sb2 (aLin [x2, x0] 1 (.n 1) (.v 1) (.c 1 (.a (.v 0) (.n 1)) (.v 1) .o) rfl w1)) (sb1 (a := x1) (b := 1)))))
theorem oq178 {x0 x1 x2 x3 : Nat} (h0 : x0 = x1) (h1 : x1 + 1 ≤ x2) : ¬x2 = x1 - (x1 - x3) := (fun w1 => (aLinF [x1, x2, (x1 - (x1 - x3))] (.c 1 (.a (.v 0) (.n 1)) (.v 1) (.c 1 (.v 1) (.v 2) (.c 1 (.v 2) (.v 0) .o))) rfl h1 (eqL w1) (Nat.sub_le x1 (x1 - x3))))
theorem oq179 {x0 x1 x2 x3 : Nat} (h0 : x0 = x1) (h1 : x1 + 1 ≤ x2) : ¬(x1 - (x1 - x3) < x2 ∧ x2 ≤ x1) := (fun w1 => (aLinF [x1, x2] (.c 1 (.a (.v 0) (.n 1)) (.v 1) (.c 1 (.v 1) (.v 0) .o)) rfl h1 w1.2))
theorem oq180 {x0 x1 : Nat} (h0 : x0 = x1) : x0 < x1 + 1 := (aLin [x0, x1] 1 (.a (.v 0) (.n 1)) (.a (.v 1) (.n 1)) (.c 1 (.v 0) (.v 1) .o) rfl (eqL h0))
theorem oq181 {x0 x1 x2 x3 : Nat} (h0 : x0 = x1) (h1 : x2 < x1 + 1) (h2 : x1 - (x1 - x3) < x2 ∧ x2 ≤ x1) : x2 - 1 < x1 := (aLin [x2, x1, (x2 - 1)] 1 (.a (.v 2) (.n 1)) (.v 1) (.c 1 (.a (.v 0) (.n 1)) (.a (.v 1) (.n 1)) (.c 1 (.a (.v 2) (.n 1)) (.v 0) .o)) rfl h1 (sb2 (aLin [(x1 - (x1 - x3)), x2] 1 (.n 1) (.v 1) (.c 1 (.a (.v 0) (.n 1)) (.v 1) .o) rfl h2.1)))
theorem oq182 {x0 x1 x2 : Nat} (h0 : x0 = x1) (h1 : x2 < x1) : x2 < x1 + 1 := (aLin [x2, x1] 1 (.a (.v 0) (.n 1)) (.a (.v 1) (.n 1)) (.c 1 (.a (.v 0) (.n 1)) (.v 1) .o) rfl h1)
theorem oq183 {x0 : Nat} (h0 : 2 ≤ x0) (h1 : x0 < 64) : x0 = x0 - 1 + 1 := (Nat.le_antisymm (aLin [x0, (x0 - 1)] 1 (.v 0) (.a (.v 1) (.n 1)) (.c 1 (.v 0) (.a (.v 1) (.n 1)) .o) rfl (sb1 (a := x0) (b := 1))) (aLin [(x0 - 1), x0] 1 (.a (.v 0) (.n 1)) (.v 1) (.c 1 (.a (.v 0) (.n 1)) (.v 1) .o) rfl (sb2 (aLin [x0] 1 (.n 1) (.v 0) (.c 1 (.n 2) (.v 0) .o) rfl h0))))
theorem oq184 {x0 x1 : Nat} (h0 : 2 ≤ x0) (h1 : x0 < 64) (h2 : x1 = x0) : ¬0 ≥ x0 := (fun w1 => (aLinF [x0] (.c 1 (.n 2) (.v 0) (.c 1 (.v 0) (.n 0) .o)) rfl h0 w1))
theorem oq185 {x0 x1 x2 : Nat} (h0 : x0 = x1) (h1 : x2 ≤ x1) (h2 : ¬x2 < x1) : x2 = x1 := (Nat.le_antisymm (aLin [x2, x1] 1 (.v 0) (.v 1) (.c 1 (.v 0) (.v 1) .o) rfl h1) (aLin [x1, x2] 1 (.v 0) (.v 1) (.c 1 (.v 0) (.v 1) .o) rfl (Nat.le_of_not_lt h2)))
theorem oq186 {x0 x1 x2 : Nat} (h0 : x0 = x1) (h1 : x1 < 64) (h2 : x2 = x1) : x1 ≤ 16777216 := (aLin [x1] 1 (.v 0) (.n 16777216) (.c 1 (.a (.v 0) (.n 1)) (.n 64) .o) rfl h1)
theorem oq187 {x0 x1 x2 : Nat} (h0 : x0 = x1) (h1 : x1 < 64) (h2 : x2 = x1) : x1 ≤ 16777216 + 1 := (aLin [x1] 1 (.v 0) (.a (.n 16777216) (.n 1)) (.c 1 (.a (.v 0) (.n 1)) (.n 64) .o) rfl h1)
theorem oq188 {x0 x1 x2 x3 : Nat} (h0 : x0 = x1) (h1 : x2 = x1) (h2 : x3 < x2) : x3 < x1 := (aLin [x2, x1, x3] 1 (.a (.v 2) (.n 1)) (.v 1) (.c 1 (.v 0) (.v 1) (.c 1 (.a (.v 2) (.n 1)) (.v 0) .o)) rfl (eqL h1) h2)
theorem oq189 {x0 x1 x2 x3 : Nat} (h0 : x0 = x1) (h1 : x1 < 64) (h2 : x2 = x1) (h3 : x3 = x1) (h4 : ¬x1 < 2) : 2 ≤ x1 := (aLin [x1] 1 (.n 2) (.v 0) (.c 1 (.n 2) (.v 0) .o) rfl (Nat.le_of_not_lt h4))
theorem oq190 {x0 x1 x2 x3 : Nat} (h0 : x0 = x1) (h1 : x2 < x1) (h2 : x3 = min x2 x0) : x3 ≤ x1 := (aLin [x0, x1, x3, (min x2 x0)] 1 (.v 2) (.v 1) (.c 1 (.v 0) (.v 1) (.c 1 (.v 2) (.v 3) (.c 1 (.v 3) (.v 0) .o))) rfl (eqL h0) (eqL h2) (Nat.min_le_right x2 x0))
theorem oq191 {x0 x1 x2 : Nat} (h0 : x0 = x1) (h1 : x1 < 64) (h2 : x2 ≤ x1) : x2 ≤ 16777216 := (aLin [x1, x2] 1 (.v 1) (.n 16777216) (.c 1 (.a (.v 0) (.n 1)) (.n 64) (.c 1 (.v 1) (.v 0) .o)) rfl h1 h2)
theorem oq192 {x0 x1 x2 : Nat} (h0 : x0 = x1) (h1 : x1 < 64) (h2 : x2 ≤ x1) : x2 + 1 ≤ 16777216 + 1 := (aLin [x1, x2] 1 (.a (.v 1) (.n 1)) (.a (.n 16777216) (.n 1)) (.c 1 (.a (.v 0) (.n 1)) (.n 64) (.c 1 (.v 1) (.v 0) .o)) rfl h1 h2)
theorem oq193 {x0 x1 : Nat} (h0 : x0 = x1) : x0 ≤ 0 + x1 := (aLin [x0, x1] 1 (.v 0) (.a (.n 0) (.v 1)) (.c 1 (.v 0) (.v 1) .o) rfl (eqL h0))
theorem oq194 {x0 x1 : Nat} (h0 : x0 = x1) (h1 : x1 < 64) : x1 ≤ 16777216 := (aLin [x1] 1 (.v 0) (.n 16777216) (.c 1 (.a (.v 0) (.n 1)) (.n 64) .o) rfl h1)
theorem oq195 {x0 x1 x2 x3 : Nat} (h0 : x0 = x1) (h1 : x2 < x1) (h2 : x3 < x2) : x3 < x1 := (aLin [x2, x1, x3] 1 (.a (.v 2) (.n 1)) (.v 1) (.c 1 (.a (.v 0) (.n 1)) (.v 1) (.c 1 (.a (.v 2) (.n 1)) (.v 0) .o)) rfl h1 h2)
theorem oq196 {x0 x1 x2 x3 : Nat} (h0 : x0 < min x1 x2) (h1 : x2 = x3) : x0 < x3 := (aLin [x0, (min x1 x2), x2, x3] 1 (.a (.v 0) (.n 1)) (.v 3) (.c 1 (.a (.v 0) (.n 1)) (.v 1) (.c 1 (.v 2) (.v 3) (.c 1 (.v 1) (.v 2) .o))) rfl h0 (eqL h1) (Nat.min_le_right x1 x2))
theorem oq197 {x0 x1 x2 : Nat} (h0 : x0 < min x1 x2) : x0 < x2 := (aLin [x0, (min x1 x2), x2] 1 (.a (.v 0) (.n 1)) (.v 2) (.c 1 (.a (.v 0) (.n 1)) (.v 1) (.c 1 (.v 1) (.v 2) .o)) rfl h0 (Nat.min_le_right x1 x2))
theorem oq198 {x0 x1 x2 : Nat} (h0 : x0 < min x1 x2) (h1 : x0 < x2) : x0 < x1 := (aLin [x0, (min x1 x2), x1] 1 (.a (.v 0) (.n 1)) (.v 2) (.c 1 (.a (.v 0) (.n 1)) (.v 1) (.c 1 (.v 1) (.v 2) .o)) rfl h0 (Nat.min_le_left x1 x2))
theorem oq199 {x0 x1 x2 : Nat} (h0 : x0 = x1) (h1 : x2 = x1) : x0 = x2 := (Nat.le_antisymm (aLin [x0, x1, x2] 1 (.v 0) (.v 2) (.c 1 (.v 0) (.v 1) (.c 1 (.v 1) (.v 2) .o)) rfl (eqL h0) (eqG h1)) (aLin [x1, x0, x2] 1 (.v 2) (.v 1) (.c 1 (.v 0) (.v 1) (.c 1 (.v 2) (.v 0) .o)) rfl (eqG h0) (eqL h1)))
theorem oq200 {x0 x1 x2 x3 x4 x5 x6 : Nat} (h0 : x0 < x1) (h1 : x2 < x1) (h2 : (↑x3 : Int) < (↑x4 : Int) ∨ (↑x3 : Int) = (↑x4 : Int) ∧ x5 < x6) : x3 < x4 ∨ x3 = x4 ∧ x5 < x6 := h2.imp Int.ofNat_lt.mp fun h => ⟨Int.ofNat.inj h.1, h.2⟩
theorem oq201 {x0 x1 : Nat} (h0 : x0 < 64) (h1 : x1 = x0) : x1 < 64 := (aLin [x0, x1] 1 (.a (.v 1) (.n 1)) (.n 64) (.c 1 (.a (.v 0) (.n 1)) (.n 64) (.c 1 (.v 1) (.v 0) .o)) rfl h0 (eqL h1))
theorem oq202 {x0 x1 : Nat} (h0 : x0 + 5 < x1) : x0 + 1 + 2 < x1 := (aLin [x0, x1] 1 (.a (.a (.a (.v 0) (.n 1)) (.n 2)) (.n 1)) (.v 1) (.c 1 (.a (.a (.v 0) (.n 5)) (.n 1)) (.v 1) .o) rfl h0)
theorem oq203 {x0 x1 : Nat} (h0 : x0 + 16 * 5 < x1) : x0 + 3 + 16 * 2 < x1 := (aLin [x0, x1] 1 (.a (.a (.a (.v 0) (.n 3)) (.m 16 (.n 2))) (.n 1)) (.v 1) (.c 1 (.a (.a (.v 0) (.m 16 (.n 5))) (.n 1)) (.v 1) .o) rfl h0)
theorem oq204 {x0 x1 x2 : Nat} (h0 : x0 ≤ 900) (h1 : x1 + 1 = x2 + 1) (h2 : x2 ≤ x0) : x1 ≤ 900 := (aLin [x0, x1, x2] 1 (.v 1) (.n 900) (.c 1 (.v 0) (.n 900) (.c 1 (.a (.v 1) (.n 1)) (.a (.v 2) (.n 1)) (.c 1 (.v 2) (.v 0) .o))) rfl h0 (eqL h1) h2)
theorem oq205 {x0 x1 : Nat} (h0 : x0 + 7 < x1) : x0 + 1 + 5 < x1 := (aLin [x0, x1] 1 (.a (.a (.a (.v 0) (.n 1)) (.n 5)) (.n 1)) (.v 1) (.c 1 (.a (.a (.v 0) (.n 7)) (.n 1)) (.v 1) .o) rfl h0)
theorem oq206 {x0 x1 : Nat} (h0 : x0 + 16 * 7 < x1) : x0 + 3 + 16 * 5 < x1 := (aLin [x0, x1] 1 (.a (.a (.a (.v 0) (.n 3)) (.m 16 (.n 5))) (.n 1)) (.v 1) (.c 1 (.a (.a (.v 0) (.m 16 (.n 7))) (.n 1)) (.v 1) .o) rfl h0)
theorem oq207 {x0 x1 : Nat} (h0 : x0 ≤ 60) (h1 : x1 = x0) : x1 ≤ 16777216 := (aLin [x0, x1] 1 (.v 1) (.n 16777216) (.c 1 (.v 0) (.n 60) (.c 1 (.v 1) (.v 0) .o)) rfl h0 (eqL h1))
theorem oq208 {x0 x1 : Nat} (h0 : x0 ≤ 60) (h1 : x1 = x0) : x0 ≤ 900 := (aLin [x0] 1 (.v 0) (.n 900) (.c 1 (.v 0) (.n 60) .o) rfl h0)
theorem oq209 {x0 x1 : Nat} (h0 : (↑x0 : Int) = (↑x1 : Int)) : x0 = x1 := Int.ofNat.inj h0
theorem oq210 {x0 x1 : Nat} (h0 : (↑x0 : Int) ≠ (↑x1 : Int)) : ¬x0 = x1 := fun h => h0 (h ▸ rfl)
theorem oq211 {x0 : Nat} (h0 : x0 ≤ 60) : x0 < 64 := (aLin [x0] 1 (.a (.v 0) (.n 1)) (.n 64) (.c 1 (.v 0) (.n 60) .o) rfl h0)
theorem oq212 {x0 x1 : Nat} (h0 : x0 + 5 < x1) : x0 + 1 < x1 := (aLin [x0, x1] 1 (.a (.a (.v 0) (.n 1)) (.n 1)) (.v 1) (.c 1 (.a (.a (.v 0) (.n 5)) (.n 1)) (.v 1) .o) rfl h0)
theorem oq213 {x0 : Nat} (h0 : x0 ≤ 8) : x0 + 1 ≤ 9 := (aLin [x0] 1 (.a (.v 0) (.n 1)) (.n 9) (.c 1 (.v 0) (.n 8) .o) rfl h0)
theorem oq214 {x0 x1 : Nat} (h0 : x0 ≤ 8) (h1 : x1 ≤ 100) : x0 + 1 + x1 ≤ 109 := (aLin [x0, x1] 1 (.a (.a (.v 0) (.n 1)) (.v 1)) (.n 109) (.c 1 (.v 0) (.n 8) (.c 1 (.v 1) (.n 100) .o)) rfl h0 h1)
theorem oq215 {x0 x1 x2 x3 : Nat} (h0 : x0 ≤ x1) (h1 : x2 ≤ x3) : x0 + x2 ≤ x3 + x1 := (aLin [x0, x1, x2, x3] 1 (.a (.v 0) (.v 2)) (.a (.v 3) (.v 1)) (.c 1 (.v 0) (.v 1) (.c 1 (.v 2) (.v 3) .o)) rfl h0 h1)
theorem oq216 {x0 x1 x2 x3 x4 : Nat} (h0 : x0 ≤ x1 + x2) : x3 + x4 + x0 ≤ x3 + x1 + (x2 + x4) := (aLin [x0, x1, x2, x3, x4] 1 (.a (.a (.v 3) (.v 4)) (.v 0)) (.a (.a (.v 3) (.v 1)) (.a (.v 2) (.v 4))) (.c 1 (.v 0) (.a (.v 1) (.v 2)) .o) rfl h0)
theorem oq217 {x0 x1 : Nat} (h0 : x0 ≤ 13) (h1 : x1 ≤ 109 * x0) : x1 + x0 * 2 ≤ 2000 := (aLin [x0, x1] 1 (.a (.v 1) (.r (.v 0) 2)) (.n 2000) (.c 111 (.v 0) (.n 13) (.c 1 (.v 1) (.m 109 (.v 0)) .o)) rfl h0 h1)
theorem oq218 {x0 x1 x2 x3 : Nat} (h0 : x0 ≤ x1 + x2) (h1 : x1 ≤ x3 + 1) : x0 ≤ x3 + (x2 + 1) := (aLin [x0, x1, x2, x3] 1 (.v 0) (.a (.v 3) (.a (.v 2) (.n 1))) (.c 1 (.v 0) (.a (.v 1) (.v 2)) (.c 1 (.v 1) (.a (.v 3) (.n 1)) .o)) rfl h0 h1)
theorem oq219 {x0 x1 : Nat} (h0 : x0 ≤ 13) (h1 : x1 ≤ 0 + x0) : x1 ≤ 13 := (aLin [x0, x1] 1 (.v 1) (.n 13) (.c 1 (.v 0) (.n 13) (.c 1 (.v 1) (.a (.n 0) (.v 0)) .o)) rfl h0 h1)
theorem oq220 {x0 : Nat} (h0 : 0 < x0) : x0 - 1 < x0 := (aLin [(x0 - 1), x0] 1 (.a (.v 0) (.n 1)) (.v 1) (.c 1 (.a (.v 0) (.n 1)) (.v 1) .o) rfl (sb2 (aLin [x0] 1 (.n 1) (.v 0) (.c 1 (.a (.n 0) (.n 1)) (.v 0) .o) rfl h0)))
theorem oq221 {x0 : Nat} (h0 : 0 < x0) : x0 = x0 - 1 + 1 := (Nat.le_antisymm (aLin [x0, (x0 - 1)] 1 (.v 0) (.a (.v 1) (.n 1)) (.c 1 (.v 0) (.a (.v 1) (.n 1)) .o) rfl (sb1 (a := x0) (b := 1))) (aLin [(x0 - 1), x0] 1 (.a (.v 0) (.n 1)) (.v 1) (.c 1 (.a (.v 0) (.n 1)) (.v 1) .o) rfl (sb2 (aLin [x0] 1 (.n 1) (.v 0) (.c 1 (.a (.n 0) (.n 1)) (.v 0) .o) rfl h0))))
theorem oq222 {x0 x1 : Nat} (h0 : x0 + 1 ≤ x1) : x1 - (x0 + 1) < x1 + 1 := (aLin [(x1 - (x0 + 1)), x1] 1 (.a (.v 0) (.n 1)) (.a (.v 1) (.n 1)) (.c 1 (.v 0) (.v 1) .o) rfl (Nat.sub_le x1 (x0 + 1)))
theorem oq223 {x0 x1 : Nat} (h0 : x0 + 1 ≤ x1) : x1 - x0 < x1 + 1 := (aLin [(x1 - x0), x1] 1 (.a (.v 0) (.n 1)) (.a (.v 1) (.n 1)) (.c 1 (.v 0) (.v 1) .o) rfl (Nat.sub_le x1 x0))
theorem oq224 {x0 x1 : Nat} (h0 : x0 + 1 ≤ x1) : x1 - (x0 + 1) + 1 = x1 - x0 := (Nat.le_antisymm (aLin [(x1 - (x0 + 1)), x0, x1, (x1 - x0)] 1 (.a (.v 0) (.n 1)) (.v 3) (.c 1 (.a (.v 0) (.a (.v 1) (.n 1))) (.v 2) (.c 1 (.v 2) (.a (.v 3) (.v 1)) .o)) rfl (sb2 (aLin [x0, x1] 1 (.a (.v 0) (.n 1)) (.v 1) (.c 1 (.a (.v 0) (.n 1)) (.v 1) .o) rfl h0)) (sb1 (a := x1) (b := x0))) (aLin [(x1 - x0), x0, x1, (x1 - (x0 + 1))] 1 (.v 0) (.a (.v 3) (.n 1)) (.c 1 (.a (.v 0) (.v 1)) (.v 2) (.c 1 (.v 2) (.a (.v 3) (.a (.v 1) (.n 1))) .o)) rfl (sb2 (aLin [x0, x1] 1 (.v 0) (.v 1) (.c 1 (.a (.v 0) (.n 1)) (.v 1) .o) rfl h0)) (sb1 (a := x1) (b := (x0 + 1)))))
theorem oq225 {x0 x1 : Nat} (h0 : 1 ≤ x0) (h1 : x0 ≤ x1) : x0 - 1 < x1 := (aLin [x0, x1, (x0 - 1)] 1 (.a (.v 2) (.n 1)) (.v 1) (.c 1 (.v 0) (.v 1) (.c 1 (.a (.v 2) (.n 1)) (.v 0) .o)) rfl h1 (sb2 (aLin [x0] 1 (.n 1) (.v 0) (.c 1 (.n 1) (.v 0) .o) rfl h0)))
theorem oq226 {x0 x1 : Nat} (h0 : 1 ≤ x0) (h1 : x0 = x1) : x1 - 1 < x1 := (aLin [(x1 - 1), x1] 1 (.a (.v 0) (.n 1)) (.v 1) (.c 1 (.a (.v 0) (.n 1)) (.v 1) .o) rfl (sb2 (aLin [x0, x1] 1 (.n 1) (.v 1) (.c 1 (.n 1) (.v 0) (.c 1 (.v 0) (.v 1) .o)) rfl h0 (eqL h1))))
theorem oq227 {x0 x1 x2 : Nat} (h0 : x0 < x1) (h1 : x2 < min x0 x1) (h2 : x2 = x0) : False := (aLinF [x0, x1, (min x0 x1)] (.c 1 (.a (.v 0) (.n 1)) (.v 1) (.c 1 (.v 2) (.v 0) (.c 1 (.v 1) (.v 2) .o))) rfl h0 (Nat.min_le_left x0 x1) (eqG (Nat.min_eq_right (aLin [x2, (min x0 x1), x0, x1] 0 (.v 3) (.v 2) (.c 1 (.a (.v 0) (.n 1)) (.v 1) (.c 1 (.v 2) (.v 0) (.c 1 (.v 1) (.v 2) .o))) rfl h1 (eqG h2) (Nat.min_le_left x0 x1)))))
theorem oq228 {x0 x1 x2 : Nat} (h0 : x0 < x1) (h1 : x1 - x0 ≤ x2 + 1) : x1 - (x0 + 1) ≤ x2 := (aLin [(x1 - x0), x2, x1, x0, (x1 - (x0 + 1))] 1 (.v 4) (.v 1) (.c 1 (.v 0) (.a (.v 1) (.n 1)) (.c 1 (.v 2) (.a (.v 0) (.v 3)) (.c 1 (.a (.v 4) (.a (.v 3) (.n 1))) (.v 2) .o))) rfl h1 (sb1 (a := x1) (b := x0)) (sb2 (aLin [x0, x1] 1 (.a (.v 0) (.n 1)) (.v 1) (.c 1 (.a (.v 0) (.n 1)) (.v 1) .o) rfl h0)))
theorem oq229 {x0 x1 : Nat} (h0 : x0 + 1 < x1 + 1) : x1 + 1 - (x0 + 1) = x1 - 1 - x0 + 1 := (Nat.le_antisymm (aLin [((x1 + 1) - (x0 + 1)), x0, x1, (x1 - 1), ((x1 - 1) - x0)] 1 (.v 0) (.a (.v 4) (.n 1)) (.c 1 (.a (.v 0) (.a (.v 1) (.n 1))) (.a (.v 2) (.n 1)) (.c 1 (.v 2) (.a (.v 3) (.n 1)) (.c 1 (.v 3) (.a (.v 4) (.v 1)) .o))) rfl (sb2 (aLin [x0, x1] 1 (.a (.v 0) (.n 1)) (.a (.v 1) (.n 1)) (.c 1 (.a (.a (.v 0) (.n 1)) (.n 1)) (.a (.v 1) (.n 1)) .o) rfl h0)) (sb1 (a := x1) (b := 1)) (sb1 (a := (x1 - 1)) (b := x0))) (aLin [(x1 - 1), x1, ((x1 - 1) - x0), x0, ((x1 + 1) - (x0 + 1))] 1 (.a (.v 2) (.n 1)) (.v 4) (.c 1 (.a (.v 0) (.n 1)) (.v 1) (.c 1 (.a (.v 2) (.v 3)) (.v 0) (.c 1 (.a (.v 1) (.n 1)) (.a (.v 4) (.a (.v 3) (.n 1))) .o))) rfl (sb2 (aLin [x0, x1] 1 (.n 1) (.v 1) (.c 1 (.a (.a (.v 0) (.n 1)) (.n 1)) (.a (.v 1) (.n 1)) .o) rfl h0)) (sb2 (aLin [x0, x1, (x1 - 1)] 1 (.v 0) (.v 2) (.c 1 (.a (.a (.v 0) (.n 1)) (.n 1)) (.a (.v 1) (.n 1)) (.c 1 (.v 1) (.a (.v 2) (.n 1)) .o)) rfl h0 (sb1 (a := x1) (b := 1)))) (sb1 (a := (x1 + 1)) (b := (x0 + 1)))))
theorem oq230 {x0 x1 : Nat} (h0 : x0 + 1 < x1 + 1) : x1 - 1 - x0 < x1 := (aLin [(x1 - 1), x1, ((x1 - 1) - x0)] 1 (.a (.v 2) (.n 1)) (.v 1) (.c 1 (.a (.v 0) (.n 1)) (.v 1) (.c 1 (.v 2) (.v 0) .o)) rfl (sb2 (aLin [x0, x1] 1 (.n 1) (.v 1) (.c 1 (.a (.a (.v 0) (.n 1)) (.n 1)) (.a (.v 1) (.n 1)) .o) rfl h0)) (Nat.sub_le (x1 - 1) x0))
theorem oq231 {x0 : Nat} : x0 + 1 - x0 = 0 + 1 := (Nat.le_antisymm (aLin [((x0 + 1) - x0), x0] 1 (.v 0) (.a (.n 0) (.n 1)) (.c 1 (.a (.v 0) (.v 1)) (.a (.v 1) (.n 1)) .o) rfl (sb2 (aLin [x0] 1 (.v 0) (.a (.v 0) (.n 1)) .o rfl))) (aLin [x0, ((x0 + 1) - x0)] 1 (.a (.n 0) (.n 1)) (.v 1) (.c 1 (.a (.v 0) (.n 1)) (.a (.v 1) (.v 0)) .o) rfl (sb1 (a := (x0 + 1)) (b := x0))))
theorem oq232 {x0 x1 : Nat} (h0 : x0 + 1 < x1 + 1) : x0 < x1 + 1 := (aLin [x0, x1] 1 (.a (.v 0) (.n 1)) (.a (.v 1) (.n 1)) (.c 1 (.a (.a (.v 0) (.n 1)) (.n 1)) (.a (.v 1) (.n 1)) .o) rfl h0)
theorem oq233 {x0 x1 : Nat} (h0 : x0 + 1 < x1 + 1) : x1 + 1 - (x0 + 1) + 1 = x1 + 1 - x0 := (Nat.le_antisymm (aLin [((x1 + 1) - (x0 + 1)), x0, x1, ((x1 + 1) - x0)] 1 (.a (.v 0) (.n 1)) (.v 3) (.c 1 (.a (.v 0) (.a (.v 1) (.n 1))) (.a (.v 2) (.n 1)) (.c 1 (.a (.v 2) (.n 1)) (.a (.v 3) (.v 1)) .o)) rfl (sb2 (aLin [x0, x1] 1 (.a (.v 0) (.n 1)) (.a (.v 1) (.n 1)) (.c 1 (.a (.a (.v 0) (.n 1)) (.n 1)) (.a (.v 1) (.n 1)) .o) rfl h0)) (sb1 (a := (x1 + 1)) (b := x0))) (aLin [((x1 + 1) - x0), x0, x1, ((x1 + 1) - (x0 + 1))] 1 (.v 0) (.a (.v 3) (.n 1)) (.c 1 (.a (.v 0) (.v 1)) (.a (.v 2) (.n 1)) (.c 1 (.a (.v 2) (.n 1)) (.a (.v 3) (.a (.v 1) (.n 1))) .o)) rfl (sb2 (aLin [x0, x1] 1 (.v 0) (.a (.v 1) (.n 1)) (.c 1 (.a (.a (.v 0) (.n 1)) (.n 1)) (.a (.v 1) (.n 1)) .o) rfl h0)) (sb1 (a := (x1 + 1)) (b := (x0 + 1)))))
theorem oq234 {x0 x1 x2 : Nat} (h0 : x0 = min x1 x2) : x0 + 1 = min (x1 + 1) (x2 + 1) := (Nat.le_antisymm (Or.elim (Nat.le_total x1 x2) (fun w1 => (aLin [x0, (min x1 x2), x1, (min (x1 + 1) (x2 + 1))] 1 (.a (.v 0) (.n 1)) (.v 3) (.c 1 (.v 0) (.v 1) (.c 1 (.v 1) (.v 2) (.c 1 (.a (.v 2) (.n 1)) (.v 3) .o))) rfl (eqL h0) (Nat.min_le_left x1 x2) (eqG (Nat.min_eq_left (aLin [x1, x2] 1 (.a (.v 0) (.n 1)) (.a (.v 1) (.n 1)) (.c 1 (.v 0) (.v 1) .o) rfl w1))))) (fun w1 => (aLin [x0, (min x1 x2), x2, (min (x1 + 1) (x2 + 1))] 1 (.a (.v 0) (.n 1)) (.v 3) (.c 1 (.v 0) (.v 1) (.c 1 (.v 1) (.v 2) (.c 1 (.a (.v 2) (.n 1)) (.v 3) .o))) rfl (eqL h0) (Nat.min_le_right x1 x2) (eqG (Nat.min_eq_right (aLin [x2, x1] 1 (.a (.v 0) (.n 1)) (.a (.v 1) (.n 1)) (.c 1 (.v 0) (.v 1) .o) rfl w1)))))) (Or.elim (Nat.le_total x1 x2) (fun w2 => (aLin [(min x1 x2), x0, x1, (min (x1 + 1) (x2 + 1))] 1 (.v 3) (.a (.v 1) (.n 1)) (.c 1 (.v 0) (.v 1) (.c 1 (.v 2) (.v 0) (.c 1 (.v 3) (.a (.v 2) (.n 1)) .o))) rfl (eqG h0) (eqG (Nat.min_eq_left (aLin [x1, x2] 1 (.v 0) (.v 1) (.c 1 (.v 0) (.v 1) .o) rfl w2))) (Nat.min_le_left (x1 + 1) (x2 + 1)))) (fun w2 => (aLin [(min x1 x2), x0, x2, (min (x1 + 1) (x2 + 1))] 1 (.v 3) (.a (.v 1) (.n 1)) (.c 1 (.v 0) (.v 1) (.c 1 (.v 2) (.v 0) (.c 1 (.v 3) (.a (.v 2) (.n 1)) .o))) rfl (eqG h0) (eqG (Nat.min_eq_right (aLin [x2, x1] 1 (.v 0) (.v 1) (.c 1 (.v 0) (.v 1) .o) rfl w2))) (Nat.min_le_right (x1 + 1) (x2 + 1))))))
theorem oq235 {x0 x1 x2 x3 : Nat} (h0 : x0 = x1 + 1) (h1 : x2 + 1 ≤ x1) (h2 : x3 = x1 - x2) : x3 ≠ 0 := (fun w1 => (aLinF [x2, x1, (x1 - x2), x3] (.c 1 (.a (.v 0) (.n 1)) (.v 1) (.c 1 (.v 2) (.v 3) (.c 1 (.v 3) (.n 0) (.c 1 (.v 1) (.a (.v 2) (.v 0)) .o)))) rfl h1 (eqG h2) (eqL w1) (sb1 (a := x1) (b := x2))))
theorem oq236 {x0 x1 x2 x3 x4 : Nat} (h0 : x0 = x1 + 1) (h1 : x2 + 1 ≤ x1) (h2 : x3 = x1 - x2) (h3 : x3 = min x1 x4 + 1) : x4 = x1 - (x2 + 1) := (Nat.le_antisymm (Or.elim (Nat.le_total x1 x2) (fun w1 => (aLin [x2, x1, x4, (x1 - (x2 + 1))] 0 (.v 2) (.v 3) (.c 1 (.a (.v 0) (.n 1)) (.v 1) (.c 1 (.v 1) (.v 0) .o)) rfl h1 w1)) (fun w1 => (Or.elim (Nat.le_total x1 x4) (fun w2 => (aLin [x3, (x1 - x2), (min x1 x4), x1, x4, (x1 - (x2 + 1))] 0 (.v 4) (.v 5) (.c 1 (.v 0) (.v 1) (.c 1 (.a (.v 2) (.n 1)) (.v 0) (.c 1 (.v 1) (.v 3) (.c 1 (.v 3) (.v 2) .o)))) rfl (eqL h2) (eqG h3) (Nat.sub_le x1 x2) (eqG (Nat.min_eq_left (aLin [x1, x4] 1 (.v 0) (.v 1) (.c 1 (.v 0) (.v 1) .o) rfl w2))))) (fun w2 => (aLin [x3, (x1 - x2), (min x1 x4), x2, x1, x4, (x1 - (x2 + 1))] 1 (.v 5) (.v 6) (.c 1 (.v 0) (.v 1) (.c 1 (.a (.v 2) (.n 1)) (.v 0) (.c 1 (.a (.v 1) (.v 3)) (.v 4) (.c 1 (.v 5) (.v 2) (.c 1 (.v 4) (.a (.v 6) (.a (.v 3) (.n 1))) .o))))) rfl (eqL h2) (eqG h3) (sb2 (aLin [x2, x1] 1 (.v 0) (.v 1) (.c 1 (.a (.v 0) (.n 1)) (.v 1) .o) rfl h1)) (eqG (Nat.min_eq_right (aLin [x4, x1] 1 (.v 0) (.v 1) (.c 1 (.v 0) (.v 1) .o) rfl w2))) (sb1 (a := x1) (b := (x2 + 1)))))))) (aLin [(x1 - x2), x3, (min x1 x4), x1, x2, x4, (x1 - (x2 + 1))] 1 (.v 6) (.v 5) (.c 1 (.v 0) (.v 1) (.c 1 (.v 1) (.a (.v 2) (.n 1)) (.c 1 (.v 3) (.a (.v 0) (.v 4)) (.c 1 (.v 2) (.v 5) (.c 1 (.a (.v 6) (.a (.v 4) (.n 1))) (.v 3) .o))))) rfl (eqG h2) (eqL h3) (sb1 (a := x1) (b := x2)) (Nat.min_le_right x1 x4) (sb2 (aLin [x2, x1] 1 (.a (.v 0) (.n 1)) (.v 1) (.c 1 (.a (.v 0) (.n 1)) (.v 1) .o) rfl h1))))
theorem oq237 {x0 x1 x2 x3 : Nat} (h0 : x0 = x1) (h1 : x2 = x1 + 1) (h2 : x1 + 1 = x1 - x3) : False := (aLinF [x1, (x1 - x3)] (.c 1 (.a (.v 0) (.n 1)) (.v 1) (.c 1 (.v 1) (.v 0) .o)) rfl (eqL h2) (Nat.sub_le x1 x3))
theorem oq238 {x0 x1 x2 x3 x4 : Nat} (h0 : x0 = x1 + 1) (h1 : x2 < x3) (h2 : x4 = x1 - x2) (h3 : x4 = x1 - x3) (h4 : x3 < x1) : False := (aLinF [x2, x3, (x1 - x2), x4, (x1 - x3), x1] (.c 1 (.a (.v 0) (.n 1)) (.v 1) (.c 1 (.v 2) (.v 3) (.c 1 (.v 3) (.v 4) (.c 1 (.v 5) (.a (.v 2) (.v 0)) (.c 1 (.a (.v 4) (.v 1)) (.v 5) .o))))) rfl h1 (eqG h2) (eqL h3) (sb1 (a := x1) (b := x2)) (sb2 (aLin [x3, x1] 1 (.v 0) (.v 1) (.c 1 (.a (.v 0) (.n 1)) (.v 1) .o) rfl h4)))
theorem oq239 {x0 x1 x2 : Nat} (h0 : x0 = x1) (h1 : x2 = x1 + 1) : x2 ≠ 0 := (fun w1 => (aLinF [x1, x2] (.c 1 (.a (.v 0) (.n 1)) (.v 1) (.c 1 (.v 1) (.n 0) .o)) rfl (eqG h1) (eqL w1)))
theorem oq240 {x0 x1 x2 x3 : Nat} (h0 : x0 = x1 + 1) (h1 : x2 = x1 - x3) (h2 : x3 < x1) : x2 ≠ 0 := (fun w1 => (aLinF [(x1 - x3), x2, x3, x1] (.c 1 (.v 0) (.v 1) (.c 1 (.a (.v 2) (.n 1)) (.v 3) (.c 1 (.v 1) (.n 0) (.c 1 (.v 3) (.a (.v 0) (.v 2)) .o)))) rfl (eqG h1) h2 (eqL w1) (sb1 (a := x1) (b := x3))))
theorem oq241 {x0 x1 x2 : Nat} (h0 : x0 = 0) (h1 : x0 = min x1 x2 + 1) : False := (aLinF [x0, (min x1 x2)] (.c 1 (.v 0) (.n 0) (.c 1 (.a (.v 1) (.n 1)) (.v 0) .o)) rfl (eqL h0) (eqG h1))
theorem oq242 {x0 x1 : Nat} (h0 : x0 ≤ x1 + 1) (h1 : ¬x0 = x1 + 1) : x0 ≤ x1 := (Or.elim (Nat.lt_or_gt_of_ne h1) (fun w1 => (aLin [x0, x1] 1 (.v 0) (.v 1) (.c 1 (.a (.v 0) (.n 1)) (.a (.v 1) (.n 1)) .o) rfl w1)) (fun w1 => (aLin [x0, x1] 0 (.v 0) (.v 1) (.c 1 (.v 0) (.a (.v 1) (.n 1)) (.c 1 (.a (.a (.v 1) (.n 1)) (.n 1)) (.v 0) .o)) rfl h0 w1)))
theorem oq243 {x0 x1 x2 : Nat} (h0 : x0 < min x1 x2) (h1 : x1 < x2) (h2 : x0 = x1) : False := (aLinF [x0, (min x1 x2), x1] (.c 1 (.a (.v 0) (.n 1)) (.v 1) (.c 1 (.v 2) (.v 0) (.c 1 (.v 1) (.v 2) .o))) rfl h0 (eqG h2) (Nat.min_le_left x1 x2))
theorem oq244 {x0 x1 x2 x3 : Nat} (h0 : x0 ≤ x1) (h1 : x2 = min x1 x3 + 1) (h2 : x3 = x0) : x2 = x0 + 1 := (Nat.le_antisymm (aLin [x2, (min x1 x3), x3, x0] 1 (.v 0) (.a (.v 3) (.n 1)) (.c 1 (.v 0) (.a (.v 1) (.n 1)) (.c 1 (.v 2) (.v 3) (.c 1 (.v 1) (.v 2) .o))) rfl (eqL h1) (eqL h2) (Nat.min_le_right x1 x3)) (aLin [(min x1 x3), x2, x0, x3] 1 (.a (.v 2) (.n 1)) (.v 1) (.c 1 (.a (.v 0) (.n 1)) (.v 1) (.c 1 (.v 2) (.v 3) (.c 1 (.v 3) (.v 0) .o))) rfl (eqG h1) (eqG h2) (eqG (Nat.min_eq_right (aLin [x0, x1, x3] 1 (.v 2) (.v 1) (.c 1 (.v 0) (.v 1) (.c 1 (.v 2) (.v 0) .o)) rfl h0 (eqL h2))))))
theorem oq245 {x0 x1 x2 x3 : Nat} (h0 : x0 = min x1 x2 + 1) (h1 : x2 = x3) (h2 : x0 = x3 + 1) (h3 : x0 = x3) : False := (aLinF [x3, x0] (.c 1 (.a (.v 0) (.n 1)) (.v 1) (.c 1 (.v 1) (.v 0) .o)) rfl (eqG h2) (eqL h3))
theorem oq246 {x0 x1 : Nat} (h0 : x0 = x1 + 1) : x0 ≠ 0 := (fun w1 => (aLinF [x1, x0] (.c 1 (.a (.v 0) (.n 1)) (.v 1) (.c 1 (.v 1) (.n 0) .o)) rfl (eqG h0) (eqL w1)))
theorem oq247 {x0 x1 x2 x3 : Nat} (h0 : x0 = x1 + 1) (h1 : x0 = min x2 x3 + 1) (h2 : x1 = x2) : x0 = x2 + 1 := (Nat.le_antisymm (aLin [x0, x1, x2] 1 (.v 0) (.a (.v 2) (.n 1)) (.c 1 (.v 0) (.a (.v 1) (.n 1)) (.c 1 (.v 1) (.v 2) .o)) rfl (eqL h0) (eqL h2)) (aLin [x1, x0, x2] 1 (.a (.v 2) (.n 1)) (.v 1) (.c 1 (.a (.v 0) (.n 1)) (.v 1) (.c 1 (.v 2) (.v 0) .o)) rfl (eqG h0) (eqG h2)))
theorem oq248 {x0 x1 x2 x3 : Nat} (h0 : x0 ≤ x1) (h1 : x2 = x0 + 1) (h2 : x2 = min x1 x3 + 1) (h3 : ¬x0 = x1) : x3 = x0 := (Nat.le_antisymm (Or.elim (Nat.lt_or_gt_of_ne h3) (fun w1 => (Or.elim (Nat.le_total x1 x3) (fun w2 => (aLin [x2, x0, (min x1 x3), x1, x3] 0 (.v 4) (.v 1) (.c 1 (.v 0) (.a (.v 1) (.n 1)) (.c 1 (.a (.v 2) (.n 1)) (.v 0) (.c 1 (.a (.v 1) (.n 1)) (.v 3) (.c 1 (.v 3) (.v 2) .o)))) rfl (eqL h1) (eqG h2) w1 (eqG (Nat.min_eq_left (aLin [x1, x3] 1 (.v 0) (.v 1) (.c 1 (.v 0) (.v 1) .o) rfl w2))))) (fun w2 => (aLin [x2, x0, (min x1 x3), x3] 1 (.v 3) (.v 1) (.c 1 (.v 0) (.a (.v 1) (.n 1)) (.c 1 (.a (.v 2) (.n 1)) (.v 0) (.c 1 (.v 3) (.v 2) .o))) rfl (eqL h1) (eqG h2) (eqG (Nat.min_eq_right (aLin [x3, x1] 1 (.v 0) (.v 1) (.c 1 (.v 0) (.v 1) .o) rfl w2))))))) (fun w1 => (aLin [x0, x1, x3] 0 (.v 2) (.v 0) (.c 1 (.v 0) (.v 1) (.c 1 (.a (.v 1) (.n 1)) (.v 0) .o)) rfl h0 w1))) (aLin [x0, x2, (min x1 x3), x3] 1 (.v 0) (.v 3) (.c 1 (.a (.v 0) (.n 1)) (.v 1) (.c 1 (.v 1) (.a (.v 2) (.n 1)) (.c 1 (.v 2) (.v 3) .o))) rfl (eqG h1) (eqL h2) (Nat.min_le_right x1 x3)))
theorem oq249 {x0 x1 : Nat} (h0 : x0 = x1 + 1) : ¬x0 < x1 := (fun w1 => (aLinF [x1, x0] (.c 1 (.a (.v 0) (.n 1)) (.v 1) (.c 1 (.a (.v 1) (.n 1)) (.v 0) .o)) rfl (eqG h0) w1))
theorem oq250 {x0 x1 : Nat} (h0 : x0 = x1 + 1) : ¬x0 = x1 := (fun w1 => (aLinF [x1, x0] (.c 1 (.a (.v 0) (.n 1)) (.v 1) (.c 1 (.v 1) (.v 0) .o)) rfl (eqG h0) (eqL w1)))
theorem oq251 {x0 : Nat} (h0 : x0 ≤ 13) : x0 ≤ 900 := (aLin [x0] 1 (.v 0) (.n 900) (.c 1 (.v 0) (.n 13) .o) rfl h0)
theorem oq252 {x0 x1 : Nat} (h0 : x0 + 1 = x1 + 1) : x0 = x1 := (Nat.le_antisymm (aLin [x0, x1] 1 (.v 0) (.v 1) (.c 1 (.a (.v 0) (.n 1)) (.a (.v 1) (.n 1)) .o) rfl (eqL h0)) (aLin [x1, x0] 1 (.v 0) (.v 1) (.c 1 (.a (.v 0) (.n 1)) (.a (.v 1) (.n 1)) .o) rfl (eqG h0)))
theorem oq253 {x0 x1 x2 : Nat} (h0 : x0 + 1 = x1 + 1) (h1 : x2 = x0 + 1) : x2 = x1 + 1 := (Nat.le_antisymm (aLin [x0, x1, x2] 1 (.v 2) (.a (.v 1) (.n 1)) (.c 1 (.a (.v 0) (.n 1)) (.a (.v 1) (.n 1)) (.c 1 (.v 2) (.a (.v 0) (.n 1)) .o)) rfl (eqL h0) (eqL h1)) (aLin [x1, x0, x2] 1 (.a (.v 0) (.n 1)) (.v 2) (.c 1 (.a (.v 0) (.n 1)) (.a (.v 1) (.n 1)) (.c 1 (.a (.v 1) (.n 1)) (.v 2) .o)) rfl (eqG h0) (eqG h1)))
theorem oq254 {x0 x1 : Nat} (h0 : x0 = x1 + 1) : ¬x0 < x1 + 1 := (fun w1 => (aLinF [x1, x0] (.c 1 (.a (.v 0) (.n 1)) (.v 1) (.c 1 (.a (.v 1) (.n 1)) (.a (.v 0) (.n 1)) .o)) rfl (eqG h0) w1))
theorem oq255 {x0 x1 : Nat} (h0 : x0 ≠ x1) (h1 : x0 ≠ x1 + 1) (h2 : ¬x0 < x1) : ¬x0 < x1 + 1 := (fun w1 => (Or.elim (Nat.lt_or_gt_of_ne h0) (fun w2 => (aLinF [x1, x0] (.c 1 (.v 0) (.v 1) (.c 1 (.a (.v 1) (.n 1)) (.v 0) .o)) rfl (Nat.le_of_not_lt h2) w2)) (fun w2 => (aLinF [x0, x1] (.c 1 (.a (.v 0) (.n 1)) (.a (.v 1) (.n 1)) (.c 1 (.a (.v 1) (.n 1)) (.v 0) .o)) rfl w1 w2))))
theorem oq256 {x0 x1 x2 x3 : Nat} (h0 : x0 < x1 ∨ x0 = x1 ∧ x2 < x3) (h1 : x1 < x0 ∨ x1 = x0 ∧ x3 < x2) : False := (Or.elim h0 (fun w1 => (Or.elim h1 (fun w2 => (aLinF [x0, x1] (.c 1 (.a (.v 0) (.n 1)) (.v 1) (.c 1 (.a (.v 1) (.n 1)) (.v 0) .o)) rfl w1 w2)) (fun w2 => (aLinF [x0, x1] (.c 1 (.a (.v 0) (.n 1)) (.v 1) (.c 1 (.v 1) (.v 0) .o)) rfl w1 (eqL w2.1))))) (fun w1 => (Or.elim h1 (fun w3 => (aLinF [x0, x1] (.c 1 (.v 0) (.v 1) (.c 1 (.a (.v 1) (.n 1)) (.v 0) .o)) rfl (eqL w1.1) w3)) (fun w3 => (aLinF [x2, x3] (.c 1 (.a (.v 0) (.n 1)) (.v 1) (.c 1 (.a (.v 1) (.n 1)) (.v 0) .o)) rfl w1.2 w3.2)))))
theorem oq257 {x0 : Nat} (h0 : ¬(↑63 : Int) < (↑x0 : Int)) : x0 ≤ 63 := Int.ofNat_le.mp (Int.not_lt.mp h0)
theorem oq258 {x0 : Nat} (h0 : ¬(↑63 : Int) < (↑x0 : Int)) : 4 + min 9 x0 ≤ 13 := Nat.add_le_add_left (Nat.min_le_left _ _) 4
theorem oq259 {x0 x1 : Nat} (h0 : x0 + 1 + 8 < x1) : x0 + 1 + 2 < x1 := (aLin [x0, x1] 1 (.a (.a (.a (.v 0) (.n 1)) (.n 2)) (.n 1)) (.v 1) (.c 1 (.a (.a (.a (.v 0) (.n 1)) (.n 8)) (.n 1)) (.v 1) .o) rfl h0)
theorem oq260 {x0 x1 : Nat} (h0 : x0 + 3 + 16 * 8 < x1) : x0 + 3 + 16 * 2 < x1 := (aLin [x0, x1] 1 (.a (.a (.a (.v 0) (.n 3)) (.m 16 (.n 2))) (.n 1)) (.v 1) (.c 1 (.a (.a (.a (.v 0) (.n 3)) (.m 16 (.n 8))) (.n 1)) (.v 1) .o) rfl h0)
theorem oq261 {x0 : Nat} (h0 : x0 ≤ 13) : x0 ≤ 16777216 := (aLin [x0] 1 (.v 0) (.n 16777216) (.c 1 (.v 0) (.n 13) .o) rfl h0)
theorem oq262 {x0 x1 : Nat} (h0 : x0 + x1 ≤ 9) (h1 : x1 = 1) : x0 + x1 ≤ 16777216 := (aLin [x0, x1] 1 (.a (.v 0) (.v 1)) (.n 16777216) (.c 1 (.a (.v 0) (.v 1)) (.n 9) .o) rfl h0)
theorem oq263 {x0 x1 : Nat} (h0 : x0 ≤ 9) (h1 : x1 ≤ 100) : x0 + x1 ≤ 16777216 := (aLin [x0, x1] 1 (.a (.v 0) (.v 1)) (.n 16777216) (.c 1 (.v 0) (.n 9) (.c 1 (.v 1) (.n 100) .o)) rfl h0 h1)
theorem oq264 {x0 x1 : Nat} (h0 : x0 ≤ 13) (h1 : x1 ≤ 109 * x0) : x1 + x0 * 2 ≤ 16777216 := (aLin [x0, x1] 1 (.a (.v 1) (.r (.v 0) 2)) (.n 16777216) (.c 111 (.v 0) (.n 13) (.c 1 (.v 1) (.m 109 (.v 0)) .o)) rfl h0 h1)
theorem oq265 {x0 x1 : Nat} (h0 : x0 ≤ 13) (h1 : x1 = x0) : x1 ≤ 900 := (aLin [x0, x1] 1 (.v 1) (.n 900) (.c 1 (.v 0) (.n 13) (.c 1 (.v 1) (.v 0) .o)) rfl h0 (eqL h1))
theorem oq266 {x0 x1 : Nat} (h0 : x0 = x1) (h1 : x1 ≤ 13) : x0 ≤ 16777216 := (aLin [x0, x1] 1 (.v 0) (.n 16777216) (.c 1 (.v 0) (.v 1) (.c 1 (.v 1) (.n 13) .o)) rfl (eqL h0) h1)
theorem oq267 {x0 x1 : Nat} (h0 : x0 + 1 + 8 < x1) : x0 + 1 + 3 < x1 := (aLin [x0, x1] 1 (.a (.a (.a (.v 0) (.n 1)) (.n 3)) (.n 1)) (.v 1) (.c 1 (.a (.a (.a (.v 0) (.n 1)) (.n 8)) (.n 1)) (.v 1) .o) rfl h0)
theorem oq268 {x0 x1 : Nat} (h0 : x0 + 3 + 16 * 8 < x1) : x0 + 3 + 48 < x1 := (aLin [x0, x1] 1 (.a (.a (.a (.v 0) (.n 3)) (.n 48)) (.n 1)) (.v 1) (.c 1 (.a (.a (.a (.v 0) (.n 3)) (.m 16 (.n 8))) (.n 1)) (.v 1) .o) rfl h0)
theorem oq269 {x0 x1 x2 : Nat} (h0 : x0 ≤ 13) (h1 : x1 < x2) (h2 : x2 = x0) : x1 < 13 := (aLin [x0, x1, x2] 1 (.a (.v 1) (.n 1)) (.n 13) (.c 1 (.v 0) (.n 13) (.c 1 (.a (.v 1) (.n 1)) (.v 2) (.c 1 (.v 2) (.v 0) .o))) rfl h0 h1 (eqL h2))
theorem oq270 {x0 x1 : Nat} (h0 : x0 ≤ 2 * x1) (h1 : x1 < 13) : x0 ≤ 900 := (aLin [x0, x1] 1 (.v 0) (.n 900) (.c 1 (.v 0) (.m 2 (.v 1)) (.c 2 (.a (.v 1) (.n 1)) (.n 13) .o)) rfl h0 h1)
theorem oq271 {x0 : Nat} (h0 : x0 < 13) : x0 ≤ 900 := (aLin [x0] 1 (.v 0) (.n 900) (.c 1 (.a (.v 0) (.n 1)) (.n 13) .o) rfl h0)
theorem oq272 {x0 x1 : Nat} (h0 : x0 + 1 + 8 < x1) : x0 + 1 + 6 < x1 := (aLin [x0, x1] 1 (.a (.a (.a (.v 0) (.n 1)) (.n 6)) (.n 1)) (.v 1) (.c 1 (.a (.a (.a (.v 0) (.n 1)) (.n 8)) (.n 1)) (.v 1) .o) rfl h0)
theorem oq273 {x0 x1 : Nat} (h0 : x0 + 3 + 16 * 8 < x1) : x0 + 3 + 16 * 6 < x1 := (aLin [x0, x1] 1 (.a (.a (.a (.v 0) (.n 3)) (.m 16 (.n 6))) (.n 1)) (.v 1) (.c 1 (.a (.a (.a (.v 0) (.n 3)) (.m 16 (.n 8))) (.n 1)) (.v 1) .o) rfl h0)
theorem oq274 {x0 x1 x2 : Nat} (h0 : x0 ≤ 2 * x1) (h1 : x2 ≤ x0 + 2) : x2 ≤ 2 * (x1 + 1) := (aLin [x0, x1, x2] 1 (.v 2) (.m 2 (.a (.v 1) (.n 1))) (.c 1 (.v 0) (.m 2 (.v 1)) (.c 1 (.v 2) (.a (.v 0) (.n 2)) .o)) rfl h0 h1)
theorem oq275 {x0 x1 : Nat} (h0 : x0 ≤ 13) (h1 : x1 ≤ 2 * x0) : x1 ≤ 900 := (aLin [x0, x1] 1 (.v 1) (.n 900) (.c 2 (.v 0) (.n 13) (.c 1 (.v 1) (.m 2 (.v 0)) .o)) rfl h0 h1)
theorem oq276 {x0 x1 : Nat} (h0 : x0 + 1 + 8 < x1) : x0 + 1 + 7 < x1 := (aLin [x0, x1] 1 (.a (.a (.a (.v 0) (.n 1)) (.n 7)) (.n 1)) (.v 1) (.c 1 (.a (.a (.a (.v 0) (.n 1)) (.n 8)) (.n 1)) (.v 1) .o) rfl h0)
theorem oq277 {x0 x1 : Nat} (h0 : x0 + 3 + 16 * 8 < x1) : x0 + 3 + 16 * 7 < x1 := (aLin [x0, x1] 1 (.a (.a (.a (.v 0) (.n 3)) (.m 16 (.n 7))) (.n 1)) (.v 1) (.c 1 (.a (.a (.a (.v 0) (.n 3)) (.m 16 (.n 8))) (.n 1)) (.v 1) .o) rfl h0)
theorem oq278 {x0 x1 x2 : Nat} (h0 : x0 ≤ 13) (h1 : x1 ≤ 2 * x0) (h2 : x1 = x2) : x2 ≤ 26 := (aLin [x0, x1, x2] 1 (.v 2) (.n 26) (.c 2 (.v 0) (.n 13) (.c 1 (.v 1) (.m 2 (.v 0)) (.c 1 (.v 2) (.v 1) .o))) rfl h0 h1 (eqG h2))
theorem oq279 {x0 : Nat} (h0 : x0 ≤ 26) : x0 ≤ 16777216 := (aLin [x0] 1 (.v 0) (.n 16777216) (.c 1 (.v 0) (.n 26) .o) rfl h0)
theorem oq280 {x0 : Nat} : 0 + (x0 + 2) = x0 + 2 := (Nat.le_antisymm (aLin [x0] 1 (.a (.n 0) (.a (.v 0) (.n 2))) (.a (.v 0) (.n 2)) .o rfl) (aLin [x0] 1 (.a (.v 0) (.n 2)) (.a (.n 0) (.a (.v 0) (.n 2))) .o rfl))
theorem oq281 {x0 : Nat} (h0 : x0 ≤ 7) (h1 : 0 < x0) : x0 ≤ 16384 := (aLin [x0] 1 (.v 0) (.n 16384) (.c 1 (.v 0) (.n 7) .o) rfl h0)
theorem oq282 {x0 x1 : Nat} (h0 : x0 ≤ 7) (h1 : 0 < x0) : (↑x1 : Int) < (↑x1 : Int) + (↑x0 : Int) := Int.lt_add_of_pos_right _ (Int.ofNat_lt.mpr h1)
theorem oq283 {x0 : Nat} (h0 : x0 ≤ 7) (h1 : 0 < x0) : x0 ≤ 16777216 := (aLin [x0] 1 (.v 0) (.n 16777216) (.c 1 (.v 0) (.n 7) .o) rfl h0)
theorem oq284 {x0 : Nat} : 0 ≤ (↑x0 : Int) := Int.natCast_nonneg _
theorem oq285 {x0 x1 x2 x3 : Nat} (h0 : x0 ≤ 13) (h1 : x1 ≤ 8 * x2) (h2 : x2 + x3 = x0 + 2) (h3 : x2 ≤ x0) : (↑x1 : Int) ≤ 1000 := Int.ofNat_le.mpr (aLin [x0, x1, x2] 1 (.v 1) (.n 1000) (.c 8 (.v 0) (.n 13) (.c 1 (.v 1) (.m 8 (.v 2)) (.c 8 (.v 2) (.v 0) .o))) rfl h0 h1 h3)
theorem oq286 {x0 x1 : Nat} (h0 : x0 + 3 + 16 * 8 < x1) : x0 + 3 + 16 * 3 < x1 := (aLin [x0, x1] 1 (.a (.a (.a (.v 0) (.n 3)) (.m 16 (.n 3))) (.n 1)) (.v 1) (.c 1 (.a (.a (.a (.v 0) (.n 3)) (.m 16 (.n 8))) (.n 1)) (.v 1) .o) rfl h0)
theorem oq287 {x0 x1 x2 : Nat} (h0 : x0 ≤ 13) (h1 : x1 + x2 = x0 + 2) : x0 ≤ 60 := (aLin [x0] 1 (.v 0) (.n 60) (.c 1 (.v 0) (.n 13) .o) rfl h0)
theorem oq288 {x0 : Nat} (h0 : x0 ≤ 7) (h1 : 0 < x0) : x0 < 64 := (aLin [x0] 1 (.a (.v 0) (.n 1)) (.n 64) (.c 1 (.v 0) (.n 7) .o) rfl h0)
theorem oq289 {x0 x1 : Nat} (h0 : x0 + 1 + 8 < x1) : x0 + 1 + 5 < x1 := (aLin [x0, x1] 1 (.a (.a (.a (.v 0) (.n 1)) (.n 5)) (.n 1)) (.v 1) (.c 1 (.a (.a (.a (.v 0) (.n 1)) (.n 8)) (.n 1)) (.v 1) .o) rfl h0)
theorem oq290 {x0 x1 : Nat} (h0 : x0 + 3 + 16 * 8 < x1) : x0 + 3 + 16 * 5 < x1 := (aLin [x0, x1] 1 (.a (.a (.a (.v 0) (.n 3)) (.m 16 (.n 5))) (.n 1)) (.v 1) (.c 1 (.a (.a (.a (.v 0) (.n 3)) (.m 16 (.n 8))) (.n 1)) (.v 1) .o) rfl h0)
theorem oq291 {x0 x1 x2 : Nat} (h0 : x0 + x1 = x2 + 2) (h1 : x0 ≤ x2) : x1 - 1 < x1 := (aLin [(x1 - 1), x1] 1 (.a (.v 0) (.n 1)) (.v 1) (.c 1 (.a (.v 0) (.n 1)) (.v 1) .o) rfl (sb2 (aLin [x2, x0, x1] 1 (.n 1) (.v 2) (.c 1 (.a (.v 0) (.n 2)) (.a (.v 1) (.v 2)) (.c 1 (.v 1) (.v 0) .o)) rfl (eqG h0) h1)))
theorem oq292 {x0 x1 x2 : Nat} (h0 : x0 ≤ 8 * x1) (h1 : x2 ≤ 7) (h2 : 0 < x2) : x0 + x2 ≤ 8 * (x1 + 1) := (aLin [x0, x1, x2] 1 (.a (.v 0) (.v 2)) (.m 8 (.a (.v 1) (.n 1))) (.c 1 (.v 0) (.m 8 (.v 1)) (.c 1 (.v 2) (.n 7) .o)) rfl h0 h1)
theorem oq293 {x0 x1 x2 : Nat} (h0 : x0 + x1 = x2 + 2) (h1 : x0 ≤ x2) : x0 + 1 + (x1 - 1) = x2 + 2 := (Nat.le_antisymm (aLin [x0, x1, x2, (x1 - 1)] 1 (.a (.a (.v 0) (.n 1)) (.v 3)) (.a (.v 2) (.n 2)) (.c 1 (.a (.v 0) (.v 1)) (.a (.v 2) (.n 2)) (.c 1 (.a (.v 3) (.n 1)) (.v 1) .o)) rfl (eqL h0) (sb2 (aLin [x2, x0, x1] 1 (.n 1) (.v 2) (.c 1 (.a (.v 0) (.n 2)) (.a (.v 1) (.v 2)) (.c 1 (.v 1) (.v 0) .o)) rfl (eqG h0) h1))) (aLin [x2, x0, x1, (x1 - 1)] 1 (.a (.v 0) (.n 2)) (.a (.a (.v 1) (.n 1)) (.v 3)) (.c 1 (.a (.v 0) (.n 2)) (.a (.v 1) (.v 2)) (.c 1 (.v 2) (.a (.v 3) (.n 1)) .o)) rfl (eqG h0) (sb1 (a := x1) (b := 1))))

theorem rst_Base : True := by
  w_top off
  trivial
noncomputable abbrev Led := List (Addr × Obj)
noncomputable abbrev P : Program := PySem.Challenge.rw_mq0350_01.row.prog
noncomputable def NDL (l : Led) : Prop := (l.map (·.1)).Nodup
noncomputable def upd (l : Led) (a : Addr) (o : Obj) : Led := l.map fun p => if p.1 = a then (a, o) else p
theorem upd_keys (l : Led) (a : Addr) (o : Obj) : (upd l a o).map (·.1) = l.map (·.1) := by
  induction l with
  | nil => rfl
  | cons p r ih =>
    have ih' : (r.map fun p => if p.1 = a then (a, o) else p).map (·.1) = r.map (·.1) := ih
    simp only [upd, List.map_cons, ih']
    split <;> simp_all
theorem NDL.upd {l : Led} {a : Addr} {o : Obj} (h : NDL l) : NDL (upd l a o) := by unfold NDL; rw [upd_keys]; exact h
theorem NDL.nil : NDL [] := List.nodup_nil
theorem NDL.cons {l : Led} {a : Addr} {o : Obj} (h : NDL l) (hl : ∀ p ∈ l, p.1 < a) : NDL ((a, o) :: l) := by
  unfold NDL; rw [List.map_cons, List.nodup_cons]; refine ⟨fun hm => ?_, h⟩
  obtain ⟨p, hp, e⟩ := List.mem_map.mp hm
  have := hl p hp; rw [e] at this; exact absurd this (Nat.lt_irrefl _)
theorem allLt_mem {d : Nat} : ∀ {l : Led}, AllLt d l → ∀ p ∈ l, p.1 < d
  | [], _, _, h => nomatch h
  | q :: r, ⟨a, b⟩, p, h => by
    rcases List.mem_cons.mp h with rfl | h
    · exact a
    · exact allLt_mem b p h
theorem NDL.consA {l : Led} {a : Addr} {o : Obj} (h : NDL l) (hl : AllLt a l) : NDL ((a, o) :: l) := h.cons (allLt_mem hl)
theorem NDL.eq {l : Led} (h : NDL l) {a : Addr} {o o' : Obj} (h1 : (a, o) ∈ l) (h2 : (a, o') ∈ l) : o = o' := by
  induction l with
  | nil => cases h1
  | cons p r ih =>
    unfold NDL at h; rw [List.map_cons, List.nodup_cons] at h
    rcases List.mem_cons.mp h1 with e1 | h1 <;> rcases List.mem_cons.mp h2 with e2 | h2
    · rw [← e1] at e2; exact (Prod.mk.inj e2).2.symm
    · exact absurd (List.mem_map_of_mem (f := (·.1)) h2) (by rw [← e1] at h; exact h.1)
    · exact absurd (List.mem_map_of_mem (f := (·.1)) h1) (by rw [← e2] at h; exact h.1)
    · exact ih h.2 h1 h2
theorem NDL.ne {l : Led} (h : NDL l) {a b : Addr} {o o' : Obj} (h1 : (a, o) ∈ l) (h2 : (b, o') ∈ l) (ho : o ≠ o') : a ≠ b := fun e => ho (h.eq h1 (e ▸ h2))
theorem NDL.neC {l : Led} (h : NDL l) {a b : Addr} {o o' : Obj} (h1 : (a, o) ∈ l) (h2 : (b, o') ∈ l) (hc : o.cls ≠ o'.cls) : a ≠ b := h.ne h1 h2 fun e => hc (by rw [e])
theorem mem_upd_self {l : Led} {a : Addr} {o₀ o : Obj} (h : (a, o₀) ∈ l) : (a, o) ∈ upd l a o := List.mem_map.mpr ⟨_, h, by simp⟩
theorem mem_upd_ne {l : Led} {a b : Addr} {o₀ o : Obj} (h : (b, o₀) ∈ l) (hne : b ≠ a) : (b, o₀) ∈ upd l a o := List.mem_map.mpr ⟨_, h, by simp [hne]⟩
theorem upd_of_notMem {l : Led} {a : Addr} {o : Obj} (h : ∀ p ∈ l, p.1 ≠ a) : upd l a o = l := by
  unfold upd
  induction l with
  | nil => rfl
  | cons p r ih => rw [List.map_cons, if_neg (h p (.head _)), ih fun q hq => h q (.tail _ hq)]
theorem updOf {l : Led} {a : Addr} {o o' : Obj} (h : NDL l) (hm : (a, o) ∈ l) : Upd a o o' l (upd l a o') := by
  induction l with
  | nil => cases hm
  | cons p r ih =>
    unfold NDL at h; rw [List.map_cons, List.nodup_cons] at h
    rcases List.mem_cons.mp hm with e | hm
    · subst e
      have hr : ∀ q ∈ r, q.1 ≠ a := fun q hq e => h.1 (List.mem_map.mpr ⟨q, hq, e⟩)
      have : upd ((a, o) :: r) a o' = (a, o') :: r := by
        show (if (a, o).1 = a then (a, o') else (a, o)) :: upd r a o' = _
        rw [if_pos rfl, upd_of_notMem hr]
      rw [this]; exact .head hr
    · have hp : p.1 ≠ a := fun e => h.1 (e ▸ List.mem_map_of_mem (f := (·.1)) hm)
      have : upd (p :: r) a o' = p :: upd r a o' := by
        show (if p.1 = a then (a, o') else p) :: upd r a o' = _
        rw [if_neg hp]
      rw [this]; exact .tail hp (ih h.2 hm)
theorem news_upd {b : Heap} {L : Addr} {h h' : Heap} {l : Led} {a : Addr} {o o' : Obj} (N : News b L h l) (hm : (a, o) ∈ l) (hs : Heap.SameBut a h h') (ho : h'.get? a = some o') : News b L h' (upd l a o') := by
  intro p hp
  obtain ⟨q, hq, e⟩ := List.mem_map.mp hp
  split at e
  · subst e; exact ⟨ho, (N _ hm).2⟩
  · rename_i hne
    subst e; exact ⟨(hs.2 _ hne).trans (N _ hq).1, (N _ hq).2⟩
theorem fr_upd {b : Heap} {L : Addr} {h h' : Heap} {m : Str → Option Value} {l : Led} {a : Addr} {o : Obj} (F : Fr b L h m) (N : News b L h l) (hm : (a, o) ∈ l) (hs : Heap.SameBut a h h') : Fr b L h' m :=
  F.change hs (N _ hm).2.1 (N _ hm).2.2
/-- the texts of a list of values -/
noncomputable def sv : Value → Option Str
  | .str s _ => some s
  | _ => none
noncomputable def StrsAre (vs : List Value) (ss : List Str) : Prop := vs.map sv = ss.map some
theorem sv_some {v : Value} {s : Str} (h : sv v = some s) : ∃ t, v = .str s t := by
  cases v <;> simp [sv] at h
  subst h; exact ⟨_, rfl⟩
theorem StrsAre.nil : StrsAre [] [] := rfl
theorem StrsAre.cons {v : Value} {s : Str} {vs : List Value} {ss : List Str} (h : sv v = some s) (r : StrsAre vs ss) : StrsAre (v :: vs) (s :: ss) := by
  unfold StrsAre at *; simp [h, r]
theorem StrsAre.uncons {v : Value} {vs : List Value} {ss : List Str} (r : StrsAre (v :: vs) ss) : ∃ t s ss', v = .str s t ∧ ss = s :: ss' ∧ StrsAre vs ss' := by
  cases ss with
  | nil => simp [StrsAre] at r
  | cons s ss' =>
    simp only [StrsAre, List.map_cons, List.cons.injEq] at r
    obtain ⟨t, e⟩ := sv_some r.1
    exact ⟨t, s, ss', e, rfl, r.2⟩
theorem StrsAre.append {vs vs' : List Value} {ss ss' : List Str} (h : StrsAre vs ss) (h' : StrsAre vs' ss') : StrsAre (vs ++ vs') (ss ++ ss') := by
  unfold StrsAre at *; simp [h, h']
theorem StrsAre.push {vs : List Value} {ss : List Str} {s : Str} {t : Tok} (h : StrsAre vs ss) : StrsAre (vs ++ [.str s t]) (ss ++ [s]) := h.append (.cons rfl .nil)
theorem StrsAre.length {vs : List Value} {ss : List Str} (h : StrsAre vs ss) : vs.length = ss.length := by
  have := congrArg List.length h; simpa using this
theorem StrsAre.get {vs : List Value} {ss : List Str} (h : StrsAre vs ss) {i : Nat} {s : Str} (hi : ss[i]? = some s) : ∃ t, vs[i]? = some (.str s t) := by
  have := congrArg (·[i]?) h
  simp only [List.getElem?_map, hi, Option.map_some] at this
  cases hv : vs[i]? with
  | none => rw [hv] at this; cases this
  | some v => rw [hv] at this; obtain ⟨t, e⟩ := sv_some (Option.some.inj this); exact ⟨t, by rw [e]⟩
theorem StrsAre.get' {vs : List Value} {ss : List Str} (h : StrsAre vs ss) {i : Nat} {v : Value} (hi : vs[i]? = some v) : ∃ s t, ss[i]? = some s ∧ v = .str s t := by
  have := congrArg (·[i]?) h
  simp only [List.getElem?_map, hi, Option.map_some] at this
  cases hv : ss[i]? with
  | none => rw [hv] at this; cases this
  | some s => rw [hv] at this; obtain ⟨t, e⟩ := sv_some (Option.some.inj this); exact ⟨s, t, rfl, e⟩
theorem StrsAre.drop {vs : List Value} {ss : List Str} (h : StrsAre vs ss) (n : Nat) : StrsAre (vs.drop n) (ss.drop n) := by
  unfold StrsAre at *; rw [List.map_drop, h, List.map_drop]
theorem StrsAre.take {vs : List Value} {ss : List Str} (h : StrsAre vs ss) (n : Nat) : StrsAre (vs.take n) (ss.take n) := by
  unfold StrsAre at *; rw [List.map_take, h, List.map_take]
theorem StrsAre.reverse {vs : List Value} {ss : List Str} (h : StrsAre vs ss) : StrsAre vs.reverse ss.reverse := by
  unfold StrsAre at *; rw [List.map_reverse, h, List.map_reverse]
/-- a list of texts in the ledger -/
noncomputable def StrL (led : Led) (a : Addr) (ss : List Str) : Prop := ∃ vs n, (a, listOf vs.toArray n) ∈ led ∧ StrsAre vs ss
/-- what a call of the def at f gives, from any ledger that Pre tells; k: the height of its own calls -/
noncomputable def Spec (w : World) (k : Nat) (f : Addr) (args : List Value) (Pre : Led → Prop) (Post : Led → Value → Led → Prop) : Prop :=
  ∀ (p : Program) (loose : List Str) (mean : ExcName → Option Value) (mg mb : Str → Option Value) (A A₀ : Around) (env : Env) (outer : List Env) (base b : Heap) (L : Addr) (m : Str → Option Value) (s : Shared) (led : Led) (R : Result → Shared → Prop),
    A.handled = none → A.frames = some (env :: outer) → env.frame = some L → env.scope.kind = .function → A.depth + k < recursionLimit → A.units + 16 * k < cLine →
    Below A₀ base outer b → Fr b L s.heap m → (hd.heap_1 w.params).In b → News b L s.heap led → NDL led → Top p loose mean mg mb b → Pre led →
    (∀ v h' tk' led', Fr b L h' m → News b L h' led' → NDL led' → Post led v led' → R (.ok (.ret v)) { s with heap := h', toks := tk' }) →
    codeAny (model P w) A (.call (.ref f) ⟨args, []⟩) R s
noncomputable abbrev dE (k : String) (t : Tok) (h : Int) (v : Value) : DictEntry := ⟨h, .str (Str.ofString k) t, v⟩
noncomputable def SorterIn (led : Led) (x dx d2 : Addr) (rdy : Value) (np nf : Int) : Prop :=
  (x, instObj 149 dx) ∈ led ∧ d2 ≠ dx ∧ ∃ t1 t2 t3 t4 t5 t6 k1 k2 k3 k4 n, (dx, dictOf [dE "_node2info" t1 k1 (.ref d2), dE "_ready_nodes" t2 k2 rdy, dE "_npassedout" t3 k3 (.int np t5), dE "_nfinished" t4 k4 (.int nf t6)] n) ∈ led
theorem meets_bool_new_list (l : Addr) (items : Array Value) (hfit : (items.size : Int) < 2 ^ 63) :
    Meets (Builtin.«bool.__new__» ⟨[.type "bool", .ref l], []⟩) (fun _ R s => s.heap.IsList l items ∧ R (.ok (.ret (.bool (!items.isEmpty)))) { s with toks := s.toks + 1 + 1 }) :=
  Meets.of_wp fun prog w A R s hs => by
    obtain ⟨hp, g, d, tk, os⟩ := s
    obtain ⟨hl, hs⟩ := hs
    have f1 := F.conv_sub_bool
    repeat (any_goals (first | assumption | (with_reducible refine wpAny_truthy_list hl hfit ?_) | wp_step))
    all_goals first | exact ⟨_, rfl, hs⟩ | exact hs | skip
theorem call_bool_list {prog : Program} {w : World} {A : Around} {E : Value → Shared → Prop} {s : Shared} {l : Addr} {items : Array Value} {Q : Value → Shared → Prop} (hl : s.heap.IsList l items) (hfit : (items.size : Int) < 2 ^ 63)
    (h : Q (.bool (!items.isEmpty)) { s with toks := s.toks + 1 + 1 }) : wpAny (model prog w) A (call (.type "bool") [.ref l]) Q E s :=
  call_bool_1 (meets_bool_new_list l items hfit) ⟨hl, show wants (fun obj s₁ => s₁.TypeIs obj "bool" ∧ Q obj s₁) E _ _ from ⟨rfl, h⟩⟩
theorem isList_of {b h : Heap} {L l : Addr} {led : Led} {its : Array Value} {n : Nat} (N : News b L h led) (hm : (l, listOf its n) ∈ led) : h.IsList l its := ⟨_, (N _ hm).1, rfl, _, rfl⟩
/-- all but what stands at S is kept -/
noncomputable def Keep (S : List Addr) (led led' : Led) : Prop := ∀ p ∈ led, p.1 ∉ S → p ∈ led'
theorem Keep.refl {S : List Addr} {led : Led} : Keep S led led := fun _ h _ => h
theorem Keep.trans {S : List Addr} {l1 l2 l3 : Led} (a : Keep S l1 l2) (b : Keep S l2 l3) : Keep S l1 l3 := fun p h n => b p (a p h n) n
theorem Keep.upd {S : List Addr} {l1 l2 : Led} {a : Addr} {o : Obj} (k : Keep S l1 l2) (h : a ∈ S) : Keep S l1 (upd l2 a o) := fun p hp n => mem_upd_ne (k p hp n) fun e => n (e ▸ h)
theorem Keep.cons {S : List Addr} {l1 l2 : Led} {q : Addr × Obj} (k : Keep S l1 l2) : Keep S l1 (q :: l2) := fun p hp n => .tail _ (k p hp n)
theorem Keep.of_cons {S : List Addr} {l1 l2 : Led} {q : Addr × Obj} (k : Keep S (q :: l1) l2) : Keep S l1 l2 := fun p hp n => k p (.tail _ hp) n
theorem Keep.mem {S : List Addr} {l1 l2 : Led} {a : Addr} {o : Obj} (k : Keep S l1 l2) (h : (a, o) ∈ l1) (n : a ∉ S) : (a, o) ∈ l2 := k _ h n
theorem Keep.more {S S' : List Addr} {l1 l2 : Led} (k : Keep S l1 l2) (h : ∀ a ∈ S, a ∈ S') : Keep S' l1 l2 := fun p hp n => k p hp fun e => n (h _ e)
/-- a mark at which the walk halts -/
noncomputable def Halt (p : Prop) : Prop := p
theorem halt {p : Prop} (h : Halt p) : p := h
structure Nd where
  name : Str
  at_ : Addr
  dn : Addr
  lst : Addr
  np : Int
  succ : List Str
noncomputable abbrev ndObj (dn : Addr) (name : Str) (lst : Addr) (np : Int) (t1 t2 : Tok) : Obj := { cls := .ref 52, dict := some dn, data := .plain, slots := #[some (.str name t2), some (.int np t1), some (.ref lst)] }
noncomputable def NdIn (led : Led) (nd : Nd) : Prop := (∃ t1 t2, (nd.at_, ndObj nd.dn nd.name nd.lst nd.np t1 t2) ∈ led) ∧ StrL led nd.lst nd.succ ∧ (nd.dn, dictOf [] 0) ∈ led
noncomputable def DictIn (w : World) (led : Led) (d : Addr) (kvs : List (Str × Value)) : Prop := (d == sysModules) = false ∧ ∃ o, (d, o) ∈ led ∧ o.IsDictOf (strKind P w) kvs
noncomputable def nkv (nds : List Nd) : List (Str × Value) := nds.map fun nd => (nd.name, .ref nd.at_)
noncomputable def NodesIn (w : World) (led : Led) (d2 : Addr) (nds : List Nd) : Prop := DictIn w led d2 (nkv nds) ∧ (∀ nd ∈ nds, NdIn led nd ∧ nd.dn ≠ d2) ∧ (nds.map (·.name)).Nodup ∧ (nds.map (·.lst)).Nodup
theorem ite_ne {c : Prop} [Decidable c] {a b r : Option Value} (hc : ¬ c) (h : b = r) : (if c then a else b) = r := by rw [if_neg hc]; exact h
theorem ite_pos' {c : Prop} [Decidable c] {a b r : Option Value} (hc : c) (h : a = r) : (if c then a else b) = r := by rw [if_pos hc]; exact h
theorem Spec.use {w : World} {k : Nat} {f : Addr} {args : List Value} {Pre : Led → Prop} {Post : Led → Value → Led → Prop} (S : Spec w k f args Pre Post)
    {p : Program} {loose : List Str} {mean : ExcName → Option Value} {mg mb : Str → Option Value} {A : Around} {env env' : Env} {outer : List Env} {base b : Heap} {L : Addr} {m : Str → Option Value} {s : Shared} {led : Led} {Q E : Value → Shared → Prop}
    (hh : A.handled = none) (hA : A.frames = some (env :: outer)) (hf : env'.frame = some L) (hke : env'.scope.kind = .function) (hdp : A.depth + 1 + k < recursionLimit) (hu : A.units + 3 + 16 * k < cLine)
    (B : Below A base (env :: outer) b) (F : Fr b L s.heap m) (X : (hd.heap_1 w.params).In b) (N : News b L s.heap led) (ND : NDL led) (T : Top p loose mean mg mb b) (pre : Pre led)
    (ret : ∀ v h' tk' led', Fr b L h' m → News b L h' led' → NDL led' → Post led v led' → Q v { s with heap := h', toks := tk' }) :
    wpAny (model P w) (A.deeper env') (call (.ref f) args) Q E s :=
  wpAny_call (S p loose mean mg mb (A.deeper env') A env' (env :: outer) base b L m s led _ hh (Around.frames_deeper hA) hf hke hdp hu B F X N ND T pre ret)
/-- a continuation kept opaque while a walk goes on: Q holds where P does -/
noncomputable def Ends {β : Type} (P Q : β → Shared → Prop) : Prop := ∀ v s', P v s' → Q v s'
theorem Ends.use {β : Type} {P Q : β → Shared → Prop} {v : β} {s' : Shared} (h : Ends P Q) (p : P v s') : Q v s' := h v s' p
theorem fresh_goal {T : Prop} (h : ∀ G : Prop, (T → G) → G) : T := h T id
theorem fresh_turn {α β : Type} {M : Model} {A A' : Around} {t : Sem α} {u : α → Sem β} {P : β → Shared → Prop} {E E' : Value → Shared → Prop} {s : Shared}
    (h : ∀ G : Prop, ((∀ Q : β → Shared → Prop, Ends P Q → wpAny M A t (fun a s₂ => wpAny M A' (u a) Q E s₂) E' s) → G) → G) : wpAny M A t (fun a s₂ => wpAny M A' (u a) P E s₂) E' s := h _ fun k => k P fun _ _ q => q
theorem fresh_while {β β' : Type} {M : Model} {A A' A'' : Around} {t : Sem Bool} {u : Sem β} {u' : Sem β'} {P : β → Shared → Prop} {P' : β' → Shared → Prop} {E E' E'' : Value → Shared → Prop} {s : Shared}
    (h : ∀ G : Prop, ((∀ (Q : β → Shared → Prop) (Q' : β' → Shared → Prop), Ends P Q → Ends P' Q' → wpAny M A t (fun c s₂ => if c then wpAny M A' u Q E s₂ else wpAny M A'' u' Q' E' s₂) E'' s) → G) → G) :
    wpAny M A t (fun c s₂ => if c then wpAny M A' u P E s₂ else wpAny M A'' u' P' E' s₂) E'' s := h _ fun k => k P P' (fun _ _ q => q) fun _ _ q => q
local macro_rules | `(tactic| walk_at $s:str) => `(tactic| k_extra $s)
local macro_rules | `(tactic| k_steps) => `(tactic| repeat' (first | (k_unfold; (try dsimp only)) | (k_end; wrow_close) | walk1 | (dsimp only; walk1) | (refine Ends.use (by with_reducible assumption) ?_; (try dsimp only)) | (leave1; walk_say "STEP leave1"; try dsimp only) | fail "no step"))

theorem rst_Loops : True := by
  w_top off
  trivial
section
variable {prog : Program} {w : World} {A : Around} {s : Shared} {env : Env} {b : Heap} {L : Addr} {m : Str → Option Value} {led : Led} {R : Result → Shared → Prop}
theorem letGo_other {o : Obj} {target : Expr} {I : Addr} {v : Value} {Q : Unit → Shared → Prop} {E : Value → Shared → Prop} {ic : String} (ho : s.heap.get? I = some o) (hc : o.cls = .type ic)
    (hn : (["enumerate", "zip", "dict_itemiterator", "dict_reverseitemiterator", "odict_iterator", "itertools.zip_longest", "itertools.pairwise"] : List String).contains ic = false) (h : Q () s) :
    wpAny (model prog w) A (letOwnedTupleGo target (.ref I) v) Q E s := by
  unfold letOwnedTupleGo
  split
  all_goals try exact wpAny_pure h
  all_goals (
    cases v
    all_goals try exact wpAny_pure h
    refine wpAny_bind (wpAny_load ho ?_)
    split
    · rename_i n vs e1 e2
      rw [hc] at e1; cases e1
      rw [hn]; simp only [Bool.false_and, Bool.false_eq_true, if_false]; exact wpAny_pure h
    · exact wpAny_pure h)
noncomputable abbrev tupOf (its : Array Value) (n : Nat) : Obj := { cls := .type "tuple", data := .seq its n }
end

theorem rst_Dicts : True := by
  w_top off
  trivial
section
variable {w : World} {A : Around} {E : Value → Shared → Prop} {s : Shared} {b : Heap} {L d : Addr} {m : Str → Option Value} {led : Led} {kvs : List (Str × Value)} {k : Str} {t : Tok}
theorem DictIn.at (D : DictIn w led d kvs) {h : Heap} (N : News b L h led) : h.DictOf (strKind P w) d kvs := let ⟨_, o, ho, hd⟩ := D; Heap.dictOf_iff.mpr ⟨o, (N _ ho).1, hd⟩
theorem DictIn.mono (D : DictIn w led d kvs) {led' : Led} (hs : ∀ o, (d, o) ∈ led → (d, o) ∈ led') : DictIn w led' d kvs := let ⟨a, o, ho, hd⟩ := D; ⟨a, o, hs _ ho, hd⟩
theorem DictIn.cls {led : Led} {o : Obj} (hd : o.IsDictOf (strKind P w) kvs) : o.cls = .type "dict" := let ⟨_, _, h, _⟩ := hd; h.1
theorem d_item {value slice : Expr} {v : Value} {Q : Value → Shared → Prop} (N : News b L s.heap led) (D : DictIn w led d kvs) (hv : valueAt kvs k = some v) (h : Q v { s with toks := s.toks + 1 })
    (hs : subscripted slice false (.ref d) (.str k t) = operate [.ref d, .str k t] (getItem (.ref d) (.str k t)) := by with_unfolding_all rfl) :
    wpAny (model P w) A (subscriptTail value slice (.ref d) (.str k t)) Q E s :=
  tail_any (D.at N).typeIs slot_dict_getitem.lookup (wpAny_getItem_of (strKind_is P w k t) (D.at N).mapOf hv h) hs
theorem d_in {Q : Value → Shared → Prop} (N : News b L s.heap led) (D : DictIn w led d kvs) (h : Q (.bool (valueAt kvs k).isSome) { s with toks := s.toks + 1 }) : wpAny (model P w) A (compareOp .In (.str k t) (.ref d)) Q E s :=
  wpAny_in_of (strKind_is P w k t) D.1 (D.at N).mapOf h
theorem d_notIn {Q : Value → Shared → Prop} (N : News b L s.heap led) (D : DictIn w led d kvs) (h : Q (.bool (!(valueAt kvs k).isSome)) { s with toks := s.toks + 1 }) : wpAny (model P w) A (compareOp .NotIn (.str k t) (.ref d)) Q E s :=
  wpAny_notIn_of (strKind_is P w k t) D.1 (D.at N).mapOf h
theorem d_set {v : Value} {Q : Unit → Shared → Prop} (F : Fr b L s.heap m) (N : News b L s.heap led) (D : DictIn w led d kvs) (hsz : kvs.length ≤ sizeLine)
    (h : ∀ h' o, Fr b L h' m → News b L h' (upd led d o) → DictIn w (upd led d o) d (stored kvs k v) → Q () { s with heap := h', toks := s.toks + 1 }) : wpAny (model P w) A (setItem (.ref d) (.str k t) v) Q E s := by
  obtain ⟨o, ho, _⟩ := D.2
  refine wpAny_setItem_pairs (knd := strKind P w) (strKind_is P w k t) (D.at N) (fun h' hd hs => ?_) hsz
  obtain ⟨o', ho', hd'⟩ := Heap.dictOf_iff.mp hd
  exact h h' o' (fr_upd F N ho hs) (news_upd N ho hs ho') ⟨D.1, o', mem_upd_self ho, hd'⟩
theorem d_len {Q : Value → Shared → Prop} (N : News b L s.heap led) (D : DictIn w led d kvs) (hfit : (kvs.length : Int) < 2 ^ 63) (h : Q (.int kvs.length (s.toks + 1)) { s with toks := s.toks + 1 + 1 }) : wpAny (model P w) A (call (.builtin "len") [.ref d]) Q E s :=
  call_len_dict D.1 (D.at N) hfit h
end
theorem valueAt_nkv {nds : List Nd} (hn : (nds.map (·.name)).Nodup) {nd : Nd} (h : nd ∈ nds) : valueAt (nkv nds) nd.name = some (.ref nd.at_) := by
  induction nds with
  | nil => cases h
  | cons x r ih =>
    rw [List.map_cons, List.nodup_cons] at hn
    rcases List.mem_cons.mp h with rfl | h
    · simp [valueAt, nkv]
    · have hne : x.name ≠ nd.name := fun e => hn.1 (e ▸ List.mem_map_of_mem (f := (·.name)) h)
      have := ih hn.2 h
      simp only [valueAt, nkv, List.map_cons, List.find?_cons, hne, decide_false] at this ⊢
      exact this
theorem valueAt_nkv_none {nds : List Nd} {k : Str} (h : k ∉ nds.map (·.name)) : valueAt (nkv nds) k = none := by
  unfold valueAt nkv
  rw [Option.map_eq_none_iff, List.find?_eq_none]
  intro kv hkv
  obtain ⟨nd, hnd, rfl⟩ := List.mem_map.mp hkv
  simpa using fun e => h (List.mem_map.mpr ⟨nd, hnd, e⟩)
section
variable {w : World} {A : Around} {E : Value → Shared → Prop} {s : Shared} {b : Heap} {L d : Addr} {m : Str → Option Value} {led : Led} {kvs : List (Str × Value)} {k : Str} {t : Tok}
theorem d_getM {pl : Sem Bool} {Q : Value × List Value → Shared → Prop} (N : News b L s.heap led) (D : DictIn w led d kvs) (h : Q (.builtin "dict.get", [.ref d]) s) : wpAny (model P w) A (getMethod (.ref d) (Str.ofString "get") pl) Q E s :=
  let ⟨_, _, ho, hd⟩ := D; kdg_method N ho hd h
theorem d_get_some {v : Value} {Q : Value → Shared → Prop} (N : News b L s.heap led) (D : DictIn w led d kvs) (hv : valueAt kvs k = some v) (h : Q v { s with toks := s.toks + 1 }) : wpAny (model P w) A (call (.builtin "dict.get") [.ref d, .str k t]) Q E s :=
  let ⟨lo, _, ho, hd⟩ := D; kdg_get1 N ho hd lo (strKind_is P w k t) (some v) hv h
theorem d_get_none {Q : Value → Shared → Prop} (N : News b L s.heap led) (D : DictIn w led d kvs) (hv : valueAt kvs k = none) (h : Q .none { s with toks := s.toks + 1 }) : wpAny (model P w) A (call (.builtin "dict.get") [.ref d, .str k t]) Q E s :=
  let ⟨lo, _, ho, hd⟩ := D; kdg_get1 N ho hd lo (strKind_is P w k t) none hv h
end

theorem rst_Loops2 : True := by
  w_top off
  trivial
/-- the end of a turn: what J tells must stand in all but the loop's own iterator -/
inductive LoopEndI (b : Heap) (L : Addr) (gs : Array GenState) (dr : Drawn) (os : OsState) (I : Addr) (oI : Obj) (fixed : Led) (J : (Str → Option Value) → Led → Prop) (s₃ : Shared) : Prop
  | mk (h' : Heap) (tk' : Tok) (m' : Str → Option Value) (all : Led) (x0 : s₃ = { heap := h', gens := gs, drawn := dr, toks := tk', os := os }) (x1 : Fr b L h' m') (x2 : News b L h' all) (x3 : NDL all) (x4 : (I, oI) ∈ all) (x5 : (∀ p ∈ fixed, p ∈ all)) (x6 : ∀ led', (∀ p ∈ all, p.1 ≠ I → p ∈ led') → J m' led') : LoopEndI b L gs dr os I oI fixed J s₃
noncomputable def LoopEnd (b : Heap) (L : Addr) (s : Shared) (I : Addr) (oI : Obj) (fixed : Led) (J : (Str → Option Value) → Led → Prop) (s₃ : Shared) : Prop := LoopEndI b L s.gens s.drawn s.os I oI fixed J s₃
noncomputable def LoopPost (b : Heap) (L : Addr) (s : Shared) (I : Addr) (oI : Obj) (fixed : Led) (J : (Str → Option Value) → Led → Prop) (R : Result → Shared → Prop) (f : Flow) (s₃ : Shared) : Prop :=
  match f with
  | .ret v => R (.ok (.ret v)) s₃
  | .brk => R (.ok .next) s₃
  | _ => LoopEnd b L s I oI fixed J s₃
inductive WhileEndI (b : Heap) (L : Addr) (gs : Array GenState) (dr : Drawn) (os : OsState) (k : Nat) (J : Nat → (Str → Option Value) → Led → Prop) (s₃ : Shared) : Prop
  | mk (h' : Heap) (tk' : Tok) (m' : Str → Option Value) (led' : Led) (k' : Nat) (x0 : s₃ = { heap := h', gens := gs, drawn := dr, toks := tk', os := os }) (x1 : k' < k) (x2 : Fr b L h' m') (x3 : News b L h' led') (x4 : NDL led') (x5 : J k' m' led') : WhileEndI b L gs dr os k J s₃
noncomputable def WhileEnd (b : Heap) (L : Addr) (s : Shared) (k : Nat) (J : Nat → (Str → Option Value) → Led → Prop) (s₃ : Shared) : Prop := WhileEndI b L s.gens s.drawn s.os k J s₃
noncomputable def WhilePost (b : Heap) (L : Addr) (s : Shared) (k : Nat) (J : Nat → (Str → Option Value) → Led → Prop) (R : Result → Shared → Prop) (f : Flow) (s₃ : Shared) : Prop :=
  match f with
  | .ret v => R (.ok (.ret v)) s₃
  | .brk => R (.ok .next) s₃
  | _ => WhileEnd b L s k J s₃
noncomputable abbrev lstO (ys : List Value) : Obj := { cls := .type "list", data := .seq ys.toArray ys.length }
theorem lstO_snoc (ys : List Value) (y : Value) : ({ cls := .type "list", data := .seq (ys.toArray.push y) (ys.length + 1) } : Obj) = lstO (ys ++ [y]) := by
  show ({ cls := .type "list", data := .seq (ys.toArray.push y) (ys.length + 1) } : Obj) = { cls := .type "list", data := .seq (ys ++ [y]).toArray (ys ++ [y]).length }
  rw [List.length_append, List.length_singleton, List.push_toArray]
theorem kcls {led4 led' : Led} {I : Addr} {oI : Obj} {ic : String} (ND : NDL led4) (hI : (I, oI) ∈ led4) (hc : oI.cls = .type ic) (kk : ∀ p ∈ led4, p.1 ≠ I → p ∈ led') : ∀ p ∈ led4, p.2.cls ≠ .type ic → p ∈ led' := fun p hp hn =>
  kk p hp fun e => hn (by have : (I, p.2) ∈ led4 := e ▸ hp; rw [ND.eq this hI]; exact hc)
theorem NDL.filter {l : Led} (h : NDL l) (f : Addr × Obj → Bool) : NDL (l.filter f) := by
  unfold NDL at h ⊢; exact List.Nodup.sublist (List.Sublist.map _ List.filter_sublist) h
theorem NDL.of_not {l : Led} {a : Addr} {o : Obj} (h : NDL l) (hn : ∀ p ∈ l, p.1 ≠ a) : NDL ((a, o) :: l) := by
  unfold NDL; rw [List.map_cons, List.nodup_cons]; exact ⟨fun hm => let ⟨p, hp, e⟩ := List.mem_map.mp hm; hn p hp e, h⟩
theorem NDL.tail {l : Led} {q : Addr × Obj} (h : NDL (q :: l)) : NDL l := by
  unfold NDL at h ⊢; rw [List.map_cons, List.nodup_cons] at h; exact h.2
theorem NDL.head {l : Led} {q : Addr × Obj} (h : NDL (q :: l)) : ∀ p ∈ l, p.1 ≠ q.1 := fun p hp e => by
  unfold NDL at h; rw [List.map_cons, List.nodup_cons] at h; exact h.1 (List.mem_map.mpr ⟨p, hp, e⟩)
theorem news_sub {b h : Heap} {L : Addr} {l l' : Led} (N : News b L h l) (k : ∀ p ∈ l', p ∈ l) : News b L h l' := fun p hp => N p (k p hp)
section
variable {prog : Program} {w : World} {A : Around} {s : Shared} {env : Env} {b : Heap} {L : Addr} {m : Str → Option Value} {led : Led} {R : Result → Shared → Prop}
theorem next_off {I : Addr} {h' h₁ : Heap} {m' : Str → Option Value} {led' : Led} (F' : Fr b L h' m') (N' : News b L h' led') (hI' : ∀ p ∈ led', p.1 ≠ I) (hIb : b.get? I = none) (hIL : I ≠ L)
    (hk₁ : ∀ c o, c ∉ [I] → h'.get? c = some o → h₁.get? c = some o) : Fr b L h₁ m' ∧ News b L h₁ led' :=
  ⟨⟨F'.ns.at' fun o e => hk₁ _ o (by simpa using fun e => hIL e.symm) e, fun c o e => hk₁ c o (by intro hc; rw [List.mem_singleton.mp hc, hIb] at e; cases e) (F'.keep c o e), F'.above⟩,
    fun p hp => ⟨hk₁ _ _ (by simpa using hI' p hp) (N' p hp).1, (N' p hp).2⟩⟩
theorem for_gen {target : Expr} {body orelse : List Stmt} {I : Addr} {fixed : Led} {n : Nat} {PV : Nat → Value → Prop} {St : Nat → Heap → Prop} {ic : String}
    (W : Walks prog w A I (I :: fixed.map (·.1)) [I] n PV St)
    (hcls : ∀ i h, St i h → ∃ o, h.get? I = some o ∧ o.cls = .type ic)
    (hgo : ∀ i (s' : Shared) v (Q' : Unit → Shared → Prop) (E' : Value → Shared → Prop), St i s'.heap → Q' () s' → wpAny (model prog w) A (letOwnedTupleGo target (.ref I) v) Q' E' s')
    (hst : St 0 s.heap) (F : Fr b L s.heap m) (N : News b L s.heap led) (ND : NDL led) (hI : ∀ p ∈ led, p.1 ≠ I) (hIb : b.get? I = none) (hIL : I ≠ L)
    (hfix : ∀ p ∈ fixed, p ∈ led) (J : Nat → (Str → Option Value) → Led → Prop) (hJ : J 0 m led)
    (step : ∀ i v m₁ led₁ h tk oI, i < n → PV i v → J i m₁ led₁ → oI.cls = .type ic → NDL ((I, oI) :: led₁) → (∀ p ∈ fixed, p ∈ led₁) → Fr b L h m₁ → News b L h ((I, oI) :: led₁) →
      wpAny (model prog w) A (assign target env v) (fun _ s₂ => wpAny (model prog w) A (execs body env) (LoopPost b L s I oI fixed (J (i + 1)) R) (fun _ _ => False) s₂) (fun _ _ => False) { s with heap := h, toks := tk })
    (done : ∀ m₁ led₁ h tk, J n m₁ led₁ → NDL led₁ → (∀ p ∈ fixed, p ∈ led₁) → Fr b L h m₁ → News b L h led₁ →
      wpAny (model prog w) A (execs orelse env) (fun f s₃ => R (.ok f) s₃) (fun _ _ => False) { s with heap := h, toks := tk }) (hL : env.locals = L) :
    codeAny (model prog w) A (.forLoop target (.ref I) body orelse env) R s := by
  subst hL
  refine codeAny_forLoop_any
    (fun k s' => ∃ h' tk m' led' i, s' = { s with heap := h', toks := tk } ∧ St i h' ∧ Fr b env.locals h' m' ∧ News b env.locals h' led' ∧ NDL led' ∧ (∀ p ∈ led', p.1 ≠ I) ∧ (∀ p ∈ fixed, p ∈ led') ∧ J i m' led' ∧ i ≤ n ∧ k = n + 1 - i) ?_ (n + 1)
    ⟨s.heap, s.toks, m, led, 0, rfl, hst, F, N, ND, hI, hfix, hJ, Nat.zero_le _, rfl⟩
  rintro k s' ⟨h', tk, m', led', i, rfl, hst', F', N', ND', hI', hfix', hJ', hi, rfl⟩
  by_cases hlt : i < n
  · refine W.item i _ _ _ hlt hst' fun v h₁ tk₁ hP hst₁ hk₁ => ?_
    obtain ⟨F₁, N₁⟩ := next_off F' N' hI' hIb hIL hk₁
    obtain ⟨oI, hoI, hcI⟩ := hcls _ _ hst₁
    have N₂ : News b env.locals h₁ ((I, oI) :: led') := fun p hp => by
      rcases List.mem_cons.mp hp with rfl | hp
      · exact ⟨hoI, hIL, hIb⟩
      · exact N₁ p hp
    have ND₂ : NDL ((I, oI) :: led') := ND'.of_not hI'
    refine hgo (i + 1) _ v _ _ hst₁ ?_
    refine wpAny_mono (step i v m' led' h₁ tk₁ oI hlt hP hJ' hcI ND₂ hfix' F₁ N₂) (fun _ s₂ h₂ => wpAny_mono h₂ (fun f s₃ h₃ => ?_) fun _ _ e => e.elim) fun _ _ e => e.elim
    have key : LoopEnd b env.locals s I oI fixed (J (i + 1)) s₃ → ∃ k, k < n + 1 - i ∧ ∃ h' tk m' led' i, s₃ = { s with heap := h', toks := tk } ∧ St i h' ∧ Fr b env.locals h' m' ∧ News b env.locals h' led' ∧ NDL led' ∧ (∀ p ∈ led', p.1 ≠ I) ∧ (∀ p ∈ fixed, p ∈ led') ∧ J i m' led' ∧ i ≤ n ∧ k = n + 1 - i := by
      rintro ⟨h₃', tk₃, m₂, led₂, rfl, F₃, N₃, ND₃, hIm, hkp, hJ₃⟩
      have sub : ∀ p ∈ led₂.filter (fun p => p.1 != I), p ∈ led₂ := fun p hp => (List.mem_filter.mp hp).1
      have mem : ∀ p ∈ led₂, p.1 ≠ I → p ∈ led₂.filter (fun p => p.1 != I) := fun p hp hne => List.mem_filter.mpr ⟨hp, by simpa using hne⟩
      refine ⟨n + 1 - (i + 1), by exact oq0 hlt, h₃', tk₃, m₂, led₂.filter (fun p => p.1 != I), i + 1, rfl, ?_, F₃, news_sub N₃ sub, ND₃.filter _, fun p hp => by simpa using (List.mem_filter.mp hp).2, fun p hp => mem p (hkp p hp) (hI' p (hfix' p hp)), hJ₃ _ mem, hlt, rfl⟩
      refine W.frame _ _ _ hst₁ fun c hc o e => ?_
      rcases List.mem_cons.mp hc with rfl | hc
      · rw [hoI] at e; cases e; exact (N₃ _ hIm).1
      · obtain ⟨p, hp, rfl⟩ := List.mem_map.mp hc
        have := (N₁ p (hfix' p hp)).1
        rw [this] at e; cases e
        exact (N₃ _ (hkp p hp)).1
    cases f with
    | next => exact key h₃
    | cont => exact key h₃
    | brk => exact h₃
    | ret v => exact h₃
  · have hin : i = n := by exact oq1 hi hlt
    subst hin
    refine W.done _ _ _ hst' fun h₁ tk₁ hk₁ => ?_
    obtain ⟨F₁, N₁⟩ := next_off F' N' hI' hIb hIL hk₁
    exact wpAny_mono (done m' led' h₁ tk₁ hJ' ND' hfix' F₁ N₁) (fun _ _ e => e) fun _ _ e => e.elim
/-- what a loop's source gives: an iterator at I, new beside the ledger -/
noncomputable def Src (prog : Program) (w : World) (A : Around) (b : Heap) (L : Addr) (m : Str → Option Value) (led fixed : Led) (n : Nat) (PV : Nat → Value → Prop) (s : Shared) (v : Value) (s₂ : Shared) : Prop :=
  ∃ I ic St h', v = .ref I ∧ s₂ = { s with heap := h' } ∧ Walks prog w A I (I :: fixed.map (·.1)) [I] n PV St ∧ (∀ i h, St i h → ∃ o, h.get? I = some o ∧ o.cls = .type ic) ∧
    (["enumerate", "zip", "dict_itemiterator", "dict_reverseitemiterator", "odict_iterator", "itertools.zip_longest", "itertools.pairwise"] : List String).contains ic = false ∧ ic ≠ "list" ∧ ic ≠ "dict" ∧ ic ≠ "tuple" ∧ ic ≠ "cell" ∧ ic ≠ "set" ∧
    St 0 h' ∧ Fr b L h' m ∧ News b L h' led ∧ (∀ p ∈ led, p.1 ≠ I) ∧ b.get? I = none ∧ I ≠ L ∧ I < h'.objs.size
theorem src_of {E : Value → Shared → Prop} {v : Value} {Q : Value → Shared → Prop} {fixed : Led} {n : Nat} {PV : Nat → Value → Prop} (h : wpAny (model prog w) A (pyIter v) (Src prog w A b L m led fixed n PV s) E s) (hq : ∀ it s₂, Src prog w A b L m led fixed n PV s it s₂ → Q it s₂) :
    wpAny (model prog w) A (pyIter v) Q E s := wpAny_mono h hq fun _ _ e => e
theorem src_list {E : Value → Shared → Prop} {l : Addr} {items : Array Value} {n0 : Nat} (hh : A.handled = none) (F : Fr b L s.heap m) (N : News b L s.heap led) (hl : (l, listOf items n0) ∈ led) :
    wpAny (model prog w) A (pyIter (.ref l)) (Src prog w A b L m led [(l, listOf items n0)] items.size (fun i v => items[i]? = some v) s) E s := by
  have hls : s.heap.IsList l items := ⟨_, (N _ hl).1, rfl, _, rfl⟩
  have hne : l ≠ s.heap.objs.size := Nat.ne_of_lt (Heap.lt_size (N _ hl).1)
  have hpush : ∀ c o, s.heap.get? c = some o → (s.heap.push { cls := .type "list_iterator", data := .fields #[.ref l, .int 0 0] }).get? c = some o := fun c o e => Heap.get?_push_of_some _ e
  refine wpAny_pyIter_list hls ⟨_, "list_iterator", _, _, rfl, rfl, Walks.list (prog := prog) (w := w) hh s.heap.objs.size l hne items, fun i h st => let ⟨o, a, c, _⟩ := st.1; ⟨o, a, c⟩, by decide, by decide, by decide, by decide, by decide, by decide,
    ⟨⟨_, Heap.get?_push_size _ rfl, rfl, rfl⟩, hls.at fun o e => hpush _ _ e⟩, F.push _, fun p hp => ⟨hpush _ _ (N p hp).1, (N p hp).2⟩, fun p hp => Nat.ne_of_lt (Heap.lt_size (N p hp).1), next_is_new F, fun e => absurd F.ns.lt (e ▸ Nat.lt_irrefl _), ?_⟩
  rw [Heap.size_push]; exact Nat.lt_succ_self _
theorem src_tuple {E : Value → Shared → Prop} {l : Addr} {items : Array Value} {n0 : Nat} (hh : A.handled = none) (F : Fr b L s.heap m) (N : News b L s.heap led) (hl : (l, tupOf items n0) ∈ led) :
    wpAny (model prog w) A (pyIter (.ref l)) (Src prog w A b L m led [(l, tupOf items n0)] items.size (fun i v => items[i]? = some v) s) E s := by
  have hls : s.heap.IsTuple l items := ⟨_, (N _ hl).1, rfl, _, rfl⟩
  have hne : l ≠ s.heap.objs.size := Nat.ne_of_lt (Heap.lt_size (N _ hl).1)
  have hpush : ∀ c o, s.heap.get? c = some o → (s.heap.push { cls := .type "tuple_iterator", data := .fields #[.ref l, .int 0 0] }).get? c = some o := fun c o e => Heap.get?_push_of_some _ e
  refine wpAny_pyIter_tuple hls ⟨_, "tuple_iterator", _, _, rfl, rfl, Walks.tuple (prog := prog) (w := w) hh s.heap.objs.size l hne items, fun i h st => let ⟨o, a, c, _⟩ := st.1; ⟨o, a, c⟩, by decide, by decide, by decide, by decide, by decide, by decide,
    ⟨⟨_, Heap.get?_push_size _ rfl, rfl, rfl⟩, hls.at fun o e => hpush _ _ e⟩, F.push _, fun p hp => ⟨hpush _ _ (N p hp).1, (N p hp).2⟩, fun p hp => Nat.ne_of_lt (Heap.lt_size (N p hp).1), next_is_new F, fun e => absurd F.ns.lt (e ▸ Nat.lt_irrefl _), ?_⟩
  rw [Heap.size_push]; exact Nat.lt_succ_self _
theorem src_str {E : Value → Shared → Prop} {x : Str} {t : Tok} (hh : A.handled = none) (F : Fr b L s.heap m) (N : News b L s.heap led) :
    wpAny (model prog w) A (pyIter (.str x t)) (Src prog w A b L m led [] x.cps.size (SignAt x) s) E s := by
  have go : ∀ (ic : String) (o : Obj) (St : Nat → Heap → Prop), ((["enumerate", "zip", "dict_itemiterator", "dict_reverseitemiterator", "odict_iterator", "itertools.zip_longest", "itertools.pairwise"] : List String).contains ic = false ∧ ic ≠ "list" ∧ ic ≠ "dict" ∧ ic ≠ "tuple" ∧ ic ≠ "cell" ∧ ic ≠ "set") → Walks prog w A s.heap.objs.size [s.heap.objs.size] [s.heap.objs.size] x.cps.size (SignAt x) St →
      (∀ i h, St i h → ∃ o, h.get? s.heap.objs.size = some o ∧ o.cls = .type ic) → St 0 (s.heap.push o) → Src prog w A b L m led [] x.cps.size (SignAt x) s (.ref s.heap.objs.size) { s with heap := s.heap.push o } := fun ic o St hic W hc h0 => by
    have hpush : ∀ c o', s.heap.get? c = some o' → (s.heap.push o).get? c = some o' := fun c o' e => Heap.get?_push_of_some _ e
    refine ⟨_, ic, _, _, rfl, rfl, W, hc, hic.1, hic.2.1, hic.2.2.1, hic.2.2.2.1, hic.2.2.2.2.1, hic.2.2.2.2.2, h0, F.push _, fun p hp => ⟨hpush _ _ (N p hp).1, (N p hp).2⟩, fun p hp => Nat.ne_of_lt (Heap.lt_size (N p hp).1), next_is_new F, fun e => absurd F.ns.lt (e ▸ Nat.lt_irrefl _), ?_⟩
    rw [Heap.size_push]; exact Nat.lt_succ_self _
  cases ha : x.cps.all (· < 128)
  · exact wpAny_pyIter_wide ha (go "str_iterator" _ _ (by decide) (Walks.strWide hh _ x t) (fun i h st => let ⟨o, a, c, _⟩ := st; ⟨o, a, c⟩) ⟨_, Heap.get?_push_size _ rfl, rfl, rfl⟩)
  · exact wpAny_pyIter_ascii ha (go "str_ascii_iterator" _ _ (by decide) (Walks.strAscii hh _ x t) (fun i h st => let ⟨o, a, c, _⟩ := st; ⟨o, a, c⟩) ⟨_, Heap.get?_push_size _ rfl, rfl, rfl⟩)
theorem for_src {target : Expr} {body orelse : List Stmt} {fixed : Led} {n : Nat} {PV : Nat → Value → Prop} {v : Value} {E : Value → Shared → Prop}
    (hsrc : wpAny (model prog w) A (pyIter v) (Src prog w A b L m led fixed n PV s) E s) (ND : NDL led) (hfix : ∀ p ∈ fixed, p ∈ led) (J : Nat → (Str → Option Value) → Led → Prop) (hJ : J 0 m led)
    (step : ∀ i v m₁ led₁ h tk I oI ic, i < n → PV i v → J i m₁ led₁ → oI.cls = .type ic → (ic ≠ "list" ∧ ic ≠ "dict" ∧ ic ≠ "tuple" ∧ ic ≠ "cell" ∧ ic ≠ "set") → NDL ((I, oI) :: led₁) → (∀ p ∈ fixed, p ∈ led₁) → Fr b L h m₁ → News b L h ((I, oI) :: led₁) →
      wpAny (model prog w) A (assign target env v) (fun _ s₂ => wpAny (model prog w) A (execs body env) (LoopPost b L s I oI fixed (J (i + 1)) R) (fun _ _ => False) s₂) (fun _ _ => False) { s with heap := h, toks := tk })
    (done : ∀ m₁ led₁ h tk, J n m₁ led₁ → NDL led₁ → (∀ p ∈ fixed, p ∈ led₁) → Fr b L h m₁ → News b L h led₁ →
      wpAny (model prog w) A (execs orelse env) (fun f s₃ => R (.ok f) s₃) (fun _ _ => False) { s with heap := h, toks := tk }) (hL : env.locals = L := by rfl) :
    wpAny (model prog w) A (pyIter v) (fun it s₂ => codeAny (model prog w) A (.forLoop target it body orelse env) R s₂) E s := by
  refine src_of hsrc fun it s₂ hs => ?_
  obtain ⟨I, ic, St, h', rfl, rfl, W, hc, hn1, n1, n2, n3, n4, n5, h0, F', N', hI, hIb, hIL, _⟩ := hs
  exact for_gen (s := { s with heap := h' }) (ic := ic) W hc (fun i s' v Q' E' st hq => let ⟨o, a, c⟩ := hc i _ st; letGo_other a c hn1 hq) h0 F' N' ND hI hIb hIL hfix J hJ
    (fun i v m₁ led₁ h tk oI hi hp hj hc nd hf F1 N1 => step i v m₁ led₁ h tk I oI ic hi hp hj hc ⟨n1, n2, n3, n4, n5⟩ nd hf F1 N1) (fun m₁ led₁ h tk hj nd hf F1 N1 => done m₁ led₁ h tk hj nd hf F1 N1) hL
theorem while_led {test : Expr} {body orelse : List Stmt} (J : Nat → (Str → Option Value) → Led → Prop) {k : Nat} (F : Fr b L s.heap m) (N : News b L s.heap led) (ND : NDL led) (hJ : J k m led)
    (turn : ∀ k m₁ led₁ h tk, J k m₁ led₁ → NDL led₁ → Fr b L h m₁ → News b L h led₁ →
      wpAny (model prog w) A (isTrue test env (eval test env)) (fun c s₂ => if c then wpAny (model prog w) A (execs body env) (WhilePost b L s k J R) (fun _ _ => False) s₂
        else wpAny (model prog w) A (execs orelse env) (fun f s₃ => R (.ok f) s₃) (fun _ _ => False) s₂) (fun _ _ => False) { s with heap := h, toks := tk }) :
    codeAny (model prog w) A (.whileLoop test body orelse env) R s := by
  refine codeAny_whileLoop (fun k s' => ∃ h' tk m' led', s' = { s with heap := h', toks := tk } ∧ Fr b L h' m' ∧ News b L h' led' ∧ NDL led' ∧ J k m' led') ?_ k ⟨s.heap, s.toks, m, led, rfl, F, N, ND, hJ⟩
  rintro n _ ⟨h', tk, m', led', rfl, F', N', ND', hJ'⟩
  refine wpAny_mono (turn n m' led' h' tk hJ' ND' F' N') (fun c s₂ h₂ => ?_) fun _ _ e => e.elim
  cases c with
  | false =>
    simp only [Bool.false_eq_true, if_false] at h₂ ⊢
    exact wpAny_mono h₂ (fun _ _ q => q) fun _ _ e => e.elim
  | true =>
    simp only [if_true] at h₂ ⊢
    refine wpAny_mono h₂ (fun f s₃ h₃ => ?_) fun _ _ e => e.elim
    have key : WhileEnd b L s n J s₃ → ∃ k, k < n ∧ ∃ h' tk m' led', s₃ = { s with heap := h', toks := tk } ∧ Fr b L h' m' ∧ News b L h' led' ∧ NDL led' ∧ J k m' led' := by
      rintro ⟨h', tk', m', led', k', rfl, hk, F, N, nd, j⟩
      exact ⟨k', hk, h', tk', m', led', rfl, F, N, nd, j⟩
    cases f with
    | next => exact key h₃
    | cont => exact key h₃
    | brk => exact h₃
    | ret v => exact h₃
end
section
variable {w : World} {A : Around} {s : Shared} {b : Heap} {L : Addr} {m : Str → Option Value} {led : Led} {d : Addr} {kvs : List (Str × Value)}
theorem src_dict {E : Value → Shared → Prop} {o : Obj} (hh : A.handled = none) (F : Fr b L s.heap m) (N : News b L s.heap led) (hs : (d == sysModules) = false) (ho : (d, o) ∈ led) (hd : o.IsDictOf (strKind P w) kvs) :
    wpAny (model P w) A (pyIter (.ref d)) (Src P w A b L m led [(d, o)] kvs.length (fun i v => ∃ k x t, kvs[i]? = some (k, x) ∧ v = .str k t) s) E s := by
  obtain ⟨es, ep, r⟩ := id hd
  have hD : s.heap.DictAt (strKind P w) d kvs ep := ⟨o, es, (N _ ho).1, r⟩
  have hne : d ≠ s.heap.objs.size := Nat.ne_of_lt (Heap.lt_size (N _ ho).1)
  refine wpAny_pyIter_dict hs hD ?_
  have hpush : ∀ c o', s.heap.get? c = some o' → (s.heap.push { cls := .type "dict_keyiterator", data := .fields #[.ref d, .int 0 0, .int kvs.length 0, .int ep 0] }).get? c = some o' := fun c o' e => Heap.get?_push_of_some _ e
  have W := Walks.dictKeys (prog := P) (w := w) (knd := strKind P w) hh s.heap.objs.size d hne kvs ep
  refine ⟨_, "dict_keyiterator", _, _, rfl, rfl, ⟨W.sub, W.frame, fun i s Q E hi st hQ => W.item i s Q E hi st fun v h' tk hP => hQ v h' tk ?_, W.done, W.self⟩, fun i h st => let ⟨o, a, c, _⟩ := st.1; ⟨o, a, c⟩, by decide, by decide, by decide, by decide, by decide, by decide,
    ⟨⟨_, Heap.get?_push_size _ rfl, rfl, rfl⟩, hD.push _⟩, F.push _, fun p hp => ⟨hpush _ _ (N p hp).1, (N p hp).2⟩, fun p hp => Nat.ne_of_lt (Heap.lt_size (N p hp).1), next_is_new F, fun e => absurd F.ns.lt (e ▸ Nat.lt_irrefl _), ?_⟩
  · obtain ⟨k, x, e, hk⟩ := hP
    obtain ⟨t, rfl⟩ := Value.isStrOf_shape hk
    exact ⟨k, x, t, e, rfl⟩
  · rw [Heap.size_push]; exact Nat.lt_succ_self _
end

theorem rst_Vals : True := by
  w_top off
  trivial
section
variable {w : World} {A : Around} {s : Shared} {b : Heap} {L : Addr} {m : Str → Option Value} {led : Led} {d : Addr} {kvs : List (Str × Value)}
/-- a dict's values, from its view -/
theorem src_values {E : Value → Shared → Prop} {o : Obj} {V : Addr} (hh : A.handled = none) (F : Fr b L s.heap m) (N : News b L s.heap led) (hV : (V, ({ cls := .type "dict_values", data := .fields #[.ref d] } : Obj)) ∈ led) (ho : (d, o) ∈ led) (hd : o.IsDictOf (strKind P w) kvs) :
    wpAny (model P w) A (pyIter (.ref V)) (Src P w A b L m led [(d, o)] kvs.length (fun i v => ∃ k, kvs[i]? = some (k, v)) s) E s := by
  obtain ⟨es, ep, r⟩ := id hd
  have hD : s.heap.DictAt (strKind P w) d kvs ep := ⟨o, es, (N _ ho).1, r⟩
  have hne : d ≠ s.heap.objs.size := Nat.ne_of_lt (Heap.lt_size (N _ ho).1)
  refine wpAny_pyIter_values (knd := strKind P w) ⟨_, (N _ hV).1, rfl, rfl⟩ hD ?_
  have hpush : ∀ c o', s.heap.get? c = some o' → (s.heap.push { cls := .type "dict_valueiterator", data := .fields #[.ref d, .int 0 0, .int kvs.length 0, .int ep 0] }).get? c = some o' := fun c o' e => Heap.get?_push_of_some _ e
  have W := Walks.dictValues (prog := P) (w := w) (knd := strKind P w) hh s.heap.objs.size d hne kvs ep
  refine ⟨_, "dict_valueiterator", _, _, rfl, rfl, ⟨W.sub, W.frame, fun i s Q E hi st hQ => W.item i s Q E hi st fun v h' tk hP => hQ v h' tk hP, W.done, W.self⟩, fun i h st => let ⟨o, a, c, _⟩ := st.1; ⟨o, a, c⟩, by decide, by decide, by decide, by decide, by decide, by decide,
    ⟨⟨_, Heap.get?_push_size _ rfl, rfl, rfl⟩, hD.push _⟩, F.push _, fun p hp => ⟨hpush _ _ (N p hp).1, (N p hp).2⟩, fun p hp => Nat.ne_of_lt (Heap.lt_size (N p hp).1), next_is_new F, fun e => absurd F.ns.lt (e ▸ Nat.lt_irrefl _), ?_⟩
  rw [Heap.size_push]; exact Nat.lt_succ_self _
theorem d_values {E Q : Value → Shared → Prop} (F : Fr b L s.heap m) (N : News b L s.heap led) (D : DictIn w led d kvs)
    (h : ∀ (V : Addr) h', Fr b L h' m → News b L h' ((V, ({ cls := .type "dict_values", data := .fields #[.ref d] } : Obj)) :: led) → (∀ q ∈ led, q.1 < V) → Q (.ref V) { s with heap := h' }) :
    wpAny (model P w) A (call (.builtin "dict.values") [.ref d]) Q E s :=
  let ⟨lo, _, ho, hd⟩ := D; kdl_view_values F N ho hd lo h
theorem d_valM {pl : Sem Bool} {E' : Value → Shared → Prop} {Q' : Value × List Value → Shared → Prop} (N : News b L s.heap led) (D : DictIn w led d kvs) (h : Q' (.builtin "dict.values", [.ref d]) s) : wpAny (model P w) A (getMethod (.ref d) (Str.ofString "values") pl) Q' E' s :=
  let ⟨_, _, ho, hd⟩ := D; kdl_method PySem.F.slot_dict_values PySem.F.type_dict_values N ho hd h
end

theorem rst_Slots : True := by
  w_top off
  trivial
section
variable {w : World} {A : Around} {E : Value → Shared → Prop} {s : Shared} {x L dn lst : Addr} {h₀ : Heap} {m : Str → Option Value} {led : Led} {np : Int} {name : Str} {t1 t2 : Tok}
theorem nd_np {expr : Bool} {Q : Value → Shared → Prop} (F : Fr h₀ L s.heap m) (X₀ : (hd.heap_1 w.params).In h₀) (N : News h₀ L s.heap led) (hm : (x, ndObj dn name lst np t1 t2) ∈ led) (hd' : (dn, dictOf [] 0) ∈ led) (h : Q (.int np t1) { s with toks := s.toks + 1 }) :
    wpAny (model P w) A (getAttr (.ref x) (Str.ofString "npredecessors") expr) Q E s := by
  refine get_slot (p := 54) (i := 1) (C := 52) F X₀ (InstAt.of_news N hm hd') ?_ ?_ ?_ ?_ ?_ ?_ rfl rfl h <;> k_is
theorem nd_node {expr : Bool} {Q : Value → Shared → Prop} (F : Fr h₀ L s.heap m) (X₀ : (hd.heap_1 w.params).In h₀) (N : News h₀ L s.heap led) (hm : (x, ndObj dn name lst np t1 t2) ∈ led) (hd' : (dn, dictOf [] 0) ∈ led) (h : Q (.str name t2) { s with toks := s.toks + 1 }) :
    wpAny (model P w) A (getAttr (.ref x) (Str.ofString "node") expr) Q E s := by
  refine get_slot (p := 53) (i := 0) (C := 52) F X₀ (InstAt.of_news N hm hd') ?_ ?_ ?_ ?_ ?_ ?_ rfl rfl h <;> k_is
theorem nd_succ {expr : Bool} {Q : Value → Shared → Prop} (F : Fr h₀ L s.heap m) (X₀ : (hd.heap_1 w.params).In h₀) (N : News h₀ L s.heap led) (hm : (x, ndObj dn name lst np t1 t2) ∈ led) (hd' : (dn, dictOf [] 0) ∈ led) (h : Q (.ref lst) { s with toks := s.toks + 1 }) :
    wpAny (model P w) A (getAttr (.ref x) (Str.ofString "successors") expr) Q E s := by
  refine get_slot (p := 55) (i := 2) (C := 52) F X₀ (InstAt.of_news N hm hd') ?_ ?_ ?_ ?_ ?_ ?_ rfl rfl h <;> k_is
theorem nd_setNp {Q : Unit → Shared → Prop} {k : Int} {t : Tok} (F : Fr h₀ L s.heap m) (X₀ : (hd.heap_1 w.params).In h₀) (N : News h₀ L s.heap led) (ND : NDL led) (hm : (x, ndObj dn name lst np t1 t2) ∈ led) (hd' : (dn, dictOf [] 0) ∈ led)
    (h : ∀ h', Fr h₀ L h' m → News h₀ L h' (upd led x (ndObj dn name lst k t t2)) → Q () { s with heap := h', toks := s.toks + 1 }) :
    wpAny (model P w) A (setAttr (.ref x) (Str.ofString "npredecessors") (.int k t)) Q E s := by
  refine set_slot (p := 54) (i := 1) (C := 52) (ox' := ndObj dn name lst k t t2) F X₀ N (InstAt.of_news N hm hd') ?_ ?_ ?_ ?_ ?_ (by decide) rfl rfl (updOf ND hm) h <;> k_is
noncomputable abbrev nd0 (dn : Addr) (sl : Array (Option Value)) : Obj := { cls := .ref 52, dict := some dn, data := .plain, slots := sl }
theorem nd_init0 {Q : Unit → Shared → Prop} {v : Value} (F : Fr h₀ L s.heap m) (X₀ : (hd.heap_1 w.params).In h₀) (N : News h₀ L s.heap led) (ND : NDL led) (hm : (x, instObj 52 dn) ∈ led) (hd' : (dn, dictOf [] 0) ∈ led)
    (h : ∀ h', Fr h₀ L h' m → News h₀ L h' (upd led x (nd0 dn #[some v])) → Q () { s with heap := h', toks := s.toks + 1 }) :
    wpAny (model P w) A (setAttr (.ref x) (Str.ofString "node") v) Q E s := by
  refine set_slot (p := 53) (i := 0) (C := 52) (ox' := nd0 dn #[some v]) F X₀ N (InstAt.of_news N hm hd') ?_ ?_ ?_ ?_ ?_ (by decide) rfl rfl (updOf ND hm) h <;> k_is
theorem nd_init1 {Q : Unit → Shared → Prop} {u v : Value} (F : Fr h₀ L s.heap m) (X₀ : (hd.heap_1 w.params).In h₀) (N : News h₀ L s.heap led) (ND : NDL led) (hm : (x, nd0 dn #[some u]) ∈ led) (hd' : (dn, dictOf [] 0) ∈ led)
    (h : ∀ h', Fr h₀ L h' m → News h₀ L h' (upd led x (nd0 dn #[some u, some v])) → Q () { s with heap := h', toks := s.toks + 1 }) :
    wpAny (model P w) A (setAttr (.ref x) (Str.ofString "npredecessors") v) Q E s := by
  refine set_slot (p := 54) (i := 1) (C := 52) (ox' := nd0 dn #[some u, some v]) F X₀ N (InstAt.of_news N hm hd') ?_ ?_ ?_ ?_ ?_ (by decide) rfl rfl (updOf ND hm) h <;> k_is
theorem nd_init2 {Q : Unit → Shared → Prop} {u u' v : Value} (F : Fr h₀ L s.heap m) (X₀ : (hd.heap_1 w.params).In h₀) (N : News h₀ L s.heap led) (ND : NDL led) (hm : (x, nd0 dn #[some u, some u']) ∈ led) (hd' : (dn, dictOf [] 0) ∈ led)
    (h : ∀ h', Fr h₀ L h' m → News h₀ L h' (upd led x (nd0 dn #[some u, some u', some v])) → Q () { s with heap := h', toks := s.toks + 1 }) :
    wpAny (model P w) A (setAttr (.ref x) (Str.ofString "successors") v) Q E s := by
  refine set_slot (p := 55) (i := 2) (C := 52) (ox' := nd0 dn #[some u, some u', some v]) F X₀ N (InstAt.of_news N hm hd') ?_ ?_ ?_ ?_ ?_ (by decide) rfl rfl (updOf ND hm) h <;> k_is
end

theorem rst_Sorter : True := by
  w_top off
  trivial
section
variable {w : World} {A : Around} {E : Value → Shared → Prop} {s : Shared} {x dx d2 L : Addr} {b : Heap} {m : Str → Option Value} {led : Led} {rdy : Value} {np nf : Int}
theorem so_info {expr : Bool} {Q : Value → Shared → Prop} (F : Fr b L s.heap m) (X : (hd.heap_1 w.params).In b) (N : News b L s.heap led) (S : SorterIn led x dx d2 rdy np nf) (h : Q (.ref d2) { s with toks := s.toks + 1 }) :
    wpAny (model P w) A (getAttr (.ref x) (Str.ofString "_node2info") expr) Q E s := by
  obtain ⟨M1, hdd, t1, t2, t3, t4, t5, t6, k1, k2, k3, k4, n, M2⟩ := S
  refine get_own (attr := none) F X (InstAt.of_news N M1 M2) ?_ ?_ ?_ ?_ ?_ rfl h <;> first | k_is | k_get
theorem so_ready {expr : Bool} {Q : Value → Shared → Prop} (F : Fr b L s.heap m) (X : (hd.heap_1 w.params).In b) (N : News b L s.heap led) (S : SorterIn led x dx d2 rdy np nf) (hh : handedIn rdy = true) (h : Q rdy { s with toks := s.toks + 1 }) :
    wpAny (model P w) A (getAttr (.ref x) (Str.ofString "_ready_nodes") expr) Q E s := by
  obtain ⟨M1, hdd, t1, t2, t3, t4, t5, t6, k1, k2, k3, k4, n, M2⟩ := S
  refine get_own (attr := none) F X (InstAt.of_news N M1 M2) ?_ ?_ ?_ ?_ ?_ hh h <;> first | k_is | k_get
theorem so_passed {expr : Bool} {Q : Value → Shared → Prop} (F : Fr b L s.heap m) (X : (hd.heap_1 w.params).In b) (N : News b L s.heap led) (S : SorterIn led x dx d2 rdy np nf) (h : ∀ t, Q (.int np t) { s with toks := s.toks + 1 }) :
    wpAny (model P w) A (getAttr (.ref x) (Str.ofString "_npassedout") expr) Q E s := by
  obtain ⟨M1, hdd, t1, t2, t3, t4, t5, t6, k1, k2, k3, k4, n, M2⟩ := S
  refine get_own (attr := none) F X (InstAt.of_news N M1 M2) ?_ ?_ ?_ ?_ ?_ rfl (h t5) <;> first | k_is | k_get
theorem so_finished {expr : Bool} {Q : Value → Shared → Prop} (F : Fr b L s.heap m) (X : (hd.heap_1 w.params).In b) (N : News b L s.heap led) (S : SorterIn led x dx d2 rdy np nf) (h : ∀ t, Q (.int nf t) { s with toks := s.toks + 1 }) :
    wpAny (model P w) A (getAttr (.ref x) (Str.ofString "_nfinished") expr) Q E s := by
  obtain ⟨M1, hdd, t1, t2, t3, t4, t5, t6, k1, k2, k3, k4, n, M2⟩ := S
  refine get_own (attr := none) F X (InstAt.of_news N M1 M2) ?_ ?_ ?_ ?_ ?_ rfl (h t6) <;> first | k_is | k_get
theorem so_setReady {v : Value} {Q : Unit → Shared → Prop} (F : Fr b L s.heap m) (X : (hd.heap_1 w.params).In b) (N : News b L s.heap led) (ND : NDL led) (S : SorterIn led x dx d2 rdy np nf)
    (h : ∀ h' o, Fr b L h' m → News b L h' (upd led dx o) → SorterIn (upd led dx o) x dx d2 v np nf → Q () { s with heap := h', toks := s.toks + 2 }) :
    wpAny (model P w) A (setAttr (.ref x) (Str.ofString "_ready_nodes") v) Q E s := by
  obtain ⟨M1, hdd, t1, t2, t3, t4, t5, t6, k1, k2, k3, k4, n, M2⟩ := S
  have hne : x ≠ dx := ND.ne M1 M2 (by intro e; cases e)
  refine set_dict (C := 149) (n' := n) (es' := [dE "_node2info" t1 k1 (.ref d2), dE "_ready_nodes" t2 k2 v, dE "_npassedout" t3 k3 (.int np t5), dE "_nfinished" t4 k4 (.int nf t6)]) F X N (InstAt.of_news N M1 M2) rfl ?_ ?_ ?_ ?_ ?_ rfl (updOf ND M2) (by show 4 ≤ 1000; decide)
    (fun h' F' N' => h h' _ F' N' ⟨mem_upd_ne M1 hne, hdd, t1, t2, t3, t4, t5, t6, k1, k2, k3, k4, n, mem_upd_self M2⟩)
  all_goals first | k_is | k_get
theorem so_setPassed {k : Int} {t : Tok} {Q : Unit → Shared → Prop} (F : Fr b L s.heap m) (X : (hd.heap_1 w.params).In b) (N : News b L s.heap led) (ND : NDL led) (S : SorterIn led x dx d2 rdy np nf)
    (h : ∀ h' o, Fr b L h' m → News b L h' (upd led dx o) → SorterIn (upd led dx o) x dx d2 rdy k nf → Q () { s with heap := h', toks := s.toks + 2 }) :
    wpAny (model P w) A (setAttr (.ref x) (Str.ofString "_npassedout") (.int k t)) Q E s := by
  obtain ⟨M1, hdd, t1, t2, t3, t4, t5, t6, k1, k2, k3, k4, n, M2⟩ := S
  have hne : x ≠ dx := ND.ne M1 M2 (by intro e; cases e)
  refine set_dict (C := 149) (n' := n) (es' := [dE "_node2info" t1 k1 (.ref d2), dE "_ready_nodes" t2 k2 rdy, dE "_npassedout" t3 k3 (.int k t), dE "_nfinished" t4 k4 (.int nf t6)]) F X N (InstAt.of_news N M1 M2) rfl ?_ ?_ ?_ ?_ ?_ rfl (updOf ND M2) (by show 4 ≤ 1000; decide)
    (fun h' F' N' => h h' _ F' N' ⟨mem_upd_ne M1 hne, hdd, t1, t2, t3, t4, t, t6, k1, k2, k3, k4, n, mem_upd_self M2⟩)
  all_goals first | k_is | k_get
theorem so_setFinished {k : Int} {t : Tok} {Q : Unit → Shared → Prop} (F : Fr b L s.heap m) (X : (hd.heap_1 w.params).In b) (N : News b L s.heap led) (ND : NDL led) (S : SorterIn led x dx d2 rdy np nf)
    (h : ∀ h' o, Fr b L h' m → News b L h' (upd led dx o) → SorterIn (upd led dx o) x dx d2 rdy np k → Q () { s with heap := h', toks := s.toks + 2 }) :
    wpAny (model P w) A (setAttr (.ref x) (Str.ofString "_nfinished") (.int k t)) Q E s := by
  obtain ⟨M1, hdd, t1, t2, t3, t4, t5, t6, k1, k2, k3, k4, n, M2⟩ := S
  have hne : x ≠ dx := ND.ne M1 M2 (by intro e; cases e)
  refine set_dict (C := 149) (n' := n) (es' := [dE "_node2info" t1 k1 (.ref d2), dE "_ready_nodes" t2 k2 rdy, dE "_npassedout" t3 k3 (.int np t5), dE "_nfinished" t4 k4 (.int k t)]) F X N (InstAt.of_news N M1 M2) rfl ?_ ?_ ?_ ?_ ?_ rfl (updOf ND M2) (by show 4 ≤ 1000; decide)
    (fun h' F' N' => h h' _ F' N' ⟨mem_upd_ne M1 hne, hdd, t1, t2, t3, t4, t5, t, k1, k2, k3, k4, n, mem_upd_self M2⟩)
  all_goals first | k_is | k_get
theorem so_meth {pl : Sem Bool} {Q : Value × List Value → Shared → Prop} {name : Str} {f : Addr} (F : Fr b L s.heap m) (X : (hd.heap_1 w.params).In b) (N : News b L s.heap led) (S : SorterIn led x dx d2 rdy np nf)
    (hg : plainGet (hd.heap_1 w.params) 149 name = true) (hf : findIn (hd.heap_1 w.params) (.ref 149) name = some (some (.ref f))) (ht : isFn (hd.heap_1 w.params) (.ref f) = true)
    (hl : name ≠ Str.ofString "_node2info" ∧ name ≠ Str.ofString "_ready_nodes" ∧ name ≠ Str.ofString "_npassedout" ∧ name ≠ Str.ofString "_nfinished") (h : Q (.ref f, [.ref x]) s) : wpAny (model P w) A (getMethod (.ref x) name pl) Q E s := by
  obtain ⟨M1, hdd, t1, t2, t3, t4, t5, t6, k1, k2, k3, k4, n, M2⟩ := S
  refine method_inst F X (InstAt.of_news N M1 M2) hg hf ht ?_ h
  have b1 : ∀ a : Str, name ≠ a → (a == name) = false := fun a e => by simpa using fun q => e q.symm
  simp [getL, Value.isStr, b1 _ hl.1, b1 _ hl.2.1, b1 _ hl.2.2.1, b1 _ hl.2.2.2, DictEntry.refKey]
end
theorem SorterIn.keep {S : List Addr} {led led' : Led} {x dx d2 : Addr} {rdy : Value} {np nf : Int} (h : SorterIn led x dx d2 rdy np nf) (k : Keep S led led') (h1 : x ∉ S) (h2 : dx ∉ S) : SorterIn led' x dx d2 rdy np nf := by
  obtain ⟨M1, hdd, t1, t2, t3, t4, t5, t6, k1, k2, k3, k4, n, M2⟩ := h
  exact ⟨k _ M1 h1, hdd, t1, t2, t3, t4, t5, t6, k1, k2, k3, k4, n, k _ M2 h2⟩
theorem StrL.keep {S : List Addr} {led led' : Led} {a : Addr} {ss : List Str} (h : StrL led a ss) (k : Keep S led led') (h1 : a ∉ S) : StrL led' a ss := let ⟨vs, n, M, hv⟩ := h; ⟨vs, n, k _ M h1, hv⟩
theorem DictIn.keep {w : World} {S : List Addr} {led led' : Led} {d : Addr} {kvs : List (Str × Value)} (h : DictIn w led d kvs) (k : Keep S led led') (h1 : d ∉ S) : DictIn w led' d kvs := let ⟨a, o, M, hv⟩ := h; ⟨a, o, k _ M h1, hv⟩
/-- another number of predecessors for one name -/
noncomputable def setNp (y : Str) (k : Int) (nds : List Nd) : List Nd := nds.map fun nd => if nd.name = y then { nd with np := k } else nd
theorem setNp_name (y : Str) (k : Int) (nds : List Nd) : (setNp y k nds).map (·.name) = nds.map (·.name) := by
  unfold setNp; rw [List.map_map]; exact List.map_congr_left fun nd _ => by simp only [Function.comp]; split <;> rfl
theorem setNp_at (y : Str) (k : Int) (nds : List Nd) : (setNp y k nds).map (·.at_) = nds.map (·.at_) := by
  unfold setNp; rw [List.map_map]; exact List.map_congr_left fun nd _ => by simp only [Function.comp]; split <;> rfl
theorem setNp_lst (y : Str) (k : Int) (nds : List Nd) : (setNp y k nds).map (·.lst) = nds.map (·.lst) := by
  unfold setNp; rw [List.map_map]; exact List.map_congr_left fun nd _ => by simp only [Function.comp]; split <;> rfl
theorem setNp_nkv (y : Str) (k : Int) (nds : List Nd) : nkv (setNp y k nds) = nkv nds := by
  unfold setNp nkv; rw [List.map_map]; exact List.map_congr_left fun nd _ => by simp only [Function.comp]; split <;> rfl
theorem NdIn.keep {S : List Addr} {led led' : Led} {nd : Nd} (h : NdIn led nd) (k : Keep S led led') (h1 : nd.at_ ∉ S) (h2 : nd.lst ∉ S) (h3 : nd.dn ∉ S) : NdIn led' nd :=
  let ⟨⟨t1, t2, M⟩, hl, hd⟩ := h; ⟨⟨t1, t2, k _ M h1⟩, hl.keep k h2, k _ hd h3⟩
theorem NodesIn.keep {w : World} {S : List Addr} {led led' : Led} {d2 : Addr} {nds : List Nd} (h : NodesIn w led d2 nds) (k : Keep S led led') (h0 : d2 ∉ S) (h1 : ∀ nd ∈ nds, nd.at_ ∉ S ∧ nd.lst ∉ S ∧ nd.dn ∉ S) : NodesIn w led' d2 nds :=
  ⟨h.1.keep k h0, fun nd hn => ⟨(h.2.1 nd hn).1.keep k (h1 nd hn).1 (h1 nd hn).2.1 (h1 nd hn).2.2, (h.2.1 nd hn).2⟩, h.2.2⟩
theorem isDict_cls {w : World} {o : Obj} {kvs : List (Str × Value)} (hd : o.IsDictOf (strKind P w) kvs) : o.cls = .type "dict" := let ⟨_, _, h, _⟩ := hd; h.1
theorem NdIn.list_ne {led : Led} (ND : NDL led) {nd : Nd} (h : NdIn led nd) {a : Addr} {o : Obj} (ha : (a, o) ∈ led) (hc : o.cls ≠ .type "list") : nd.lst ≠ a := by
  obtain ⟨_, ⟨vs, n, M, _⟩, _⟩ := h
  exact ND.ne M ha fun e => hc (by rw [← e])
theorem NdIn.at_ne {led : Led} (ND : NDL led) {nd : Nd} (h : NdIn led nd) {a : Addr} {o : Obj} (ha : (a, o) ∈ led) (hc : o.cls ≠ .ref 52) : nd.at_ ≠ a := by
  obtain ⟨⟨t1, t2, M⟩, _⟩ := h
  exact ND.ne M ha fun e => hc (by rw [← e])
theorem NdIn.at_ne' {led : Led} (ND : NDL led) {nd nd' : Nd} (h : NdIn led nd) (h' : NdIn led nd') (hn : nd.name ≠ nd'.name) : nd.at_ ≠ nd'.at_ := by
  obtain ⟨⟨t1, t2, M⟩, _⟩ := h
  obtain ⟨⟨u1, u2, M'⟩, _⟩ := h'
  exact ND.ne M M' fun e => hn (by have := congrArg Obj.slots e; simp at this; exact this.1.1)
theorem eq_of_name {nds : List Nd} (hnm : (nds.map (·.name)).Nodup) {q nd : Nd} (hq : q ∈ nds) (hn : nd ∈ nds) (e : q.name = nd.name) : q = nd := by
  induction nds with
  | nil => cases hq
  | cons y r ih =>
    rw [List.map_cons, List.nodup_cons] at hnm
    rcases List.mem_cons.mp hq with e1 | hq <;> rcases List.mem_cons.mp hn with e2 | hn
    · rw [e1, e2]
    · exact absurd (by rw [← e1, e]; exact List.mem_map_of_mem (f := (·.name)) hn) hnm.1
    · exact absurd (by rw [← e2, ← e]; exact List.mem_map_of_mem (f := (·.name)) hq) hnm.1
    · exact ih hnm.2 hq hn
theorem NodesIn.setNp {w : World} {led : Led} {d2 : Addr} {nds : List Nd} (h : NodesIn w led d2 nds) (ND : NDL led) {nd : Nd} (hn : nd ∈ nds) {t1 t2 t : Tok} {k : Int} (hm : (nd.at_, ndObj nd.dn nd.name nd.lst nd.np t1 t2) ∈ led) :
    NodesIn w (upd led nd.at_ (ndObj nd.dn nd.name nd.lst k t t2)) d2 (setNp nd.name k nds) := by
  obtain ⟨⟨hs, o, ho, hd⟩, hall, hnm, hls⟩ := h
  refine ⟨by rw [setNp_nkv]; exact ⟨hs, o, mem_upd_ne ho (ND.ne ho hm fun e => by have := isDict_cls hd; rw [e] at this; cases this), hd⟩, ?_, by rw [setNp_name]; exact hnm, by rw [setNp_lst]; exact hls⟩
  intro nd' hn'
  obtain ⟨q, hq, rfl⟩ := List.mem_map.mp hn'
  obtain ⟨⟨⟨u1, u2, M⟩, ⟨vs, n, Ml, hv⟩, Md⟩, hqd⟩ := hall q hq
  by_cases e : q.name = nd.name
  · have hqn : q = nd := eq_of_name hnm hq hn e
    subst hqn
    simp only [if_true]
    exact ⟨⟨⟨t, t2, mem_upd_self hm⟩, ⟨vs, n, mem_upd_ne Ml (ND.ne Ml hm fun e => by cases e), hv⟩, mem_upd_ne Md (ND.ne Md hm fun e => by cases e)⟩, hqd⟩
  · simp only [e, if_false]
    have hq' := (hall q hq).1
    exact ⟨⟨⟨u1, u2, mem_upd_ne M (hq'.at_ne' ND (hall nd hn).1 e)⟩, ⟨vs, n, mem_upd_ne Ml (ND.ne Ml hm fun e => by cases e), hv⟩, mem_upd_ne Md (ND.ne Md hm fun e => by cases e)⟩, hqd⟩
theorem nd_of_name {nds : List Nd} {y : Str} (h : y ∈ nds.map (·.name)) : ∃ nd ∈ nds, nd.name = y := let ⟨nd, a, b⟩ := List.mem_map.mp h; ⟨nd, a, b⟩
theorem SorterIn.mono {led led' : Led} {x dx d2 : Addr} {rdy : Value} {np nf : Int} (h : SorterIn led x dx d2 rdy np nf) (k : ∀ p ∈ led, p ∈ led') : SorterIn led' x dx d2 rdy np nf := h.keep (S := []) (fun p hp _ => k p hp) List.not_mem_nil List.not_mem_nil
theorem StrL.mono {led led' : Led} {a : Addr} {ss : List Str} (h : StrL led a ss) (k : ∀ p ∈ led, p ∈ led') : StrL led' a ss := h.keep (S := []) (fun p hp _ => k p hp) List.not_mem_nil
theorem DictIn.sub {w : World} {led led' : Led} {d : Addr} {kvs : List (Str × Value)} (h : DictIn w led d kvs) (k : ∀ p ∈ led, p ∈ led') : DictIn w led' d kvs := h.keep (S := []) (fun p hp _ => k p hp) List.not_mem_nil
theorem NodesIn.mono {w : World} {led led' : Led} {d : Addr} {nds : List Nd} (h : NodesIn w led d nds) (k : ∀ p ∈ led, p ∈ led') : NodesIn w led' d nds := h.keep (S := []) (fun p hp _ => k p hp) List.not_mem_nil fun _ _ => ⟨List.not_mem_nil, List.not_mem_nil, List.not_mem_nil⟩
theorem sub_cons {led led' : Led} {q : Addr × Obj} (k : ∀ p ∈ led, p ∈ led') : ∀ p ∈ led, p ∈ q :: led' := fun p hp => .tail _ (k p hp)
theorem sub_self {led : Led} : ∀ p ∈ led, p ∈ led := fun _ h => h
theorem NodesIn.keepCls {w : World} {led led' : Led} {d2 : Addr} {nds : List Nd} {ic : String} (h : NodesIn w led d2 nds) (k : ∀ p ∈ led, p.2.cls ≠ .type ic → p ∈ led') (h1 : "list" ≠ ic) (h2 : "dict" ≠ ic) : NodesIn w led' d2 nds := by
  obtain ⟨⟨a, o, M, hd⟩, hall, r⟩ := h
  refine ⟨⟨a, o, k _ M (by rw [isDict_cls hd]; intro e; cases e; exact h2 rfl), hd⟩, fun nd hn => ?_, r⟩
  obtain ⟨⟨⟨t1, t2, M⟩, ⟨vs, n, Ml, hv⟩, Md⟩, hqd⟩ := hall nd hn
  exact ⟨⟨⟨t1, t2, k _ M (by intro e; cases e)⟩, ⟨vs, n, k _ Ml (by intro e; cases e; exact h1 rfl), hv⟩, k _ Md (by intro e; cases e; exact h2 rfl)⟩, hqd⟩
theorem NodesIn.notAt {w : World} {led : Led} {d2 : Addr} {nds : List Nd} (h : NodesIn w led d2 nds) (ND : NDL led) {a : Addr} {o : Obj} (ha : (a, o) ∈ led) (hc : o.cls ≠ .ref 52) : a ∉ nds.map (·.at_) := fun hm =>
  let ⟨nd, hn, e⟩ := List.mem_map.mp hm; (h.2.1 nd hn).1.at_ne ND ha hc e
theorem NodesIn.notLst {w : World} {led : Led} {d2 : Addr} {nds : List Nd} (h : NodesIn w led d2 nds) (ND : NDL led) {a : Addr} {o : Obj} (ha : (a, o) ∈ led) (hc : o.cls ≠ .type "list") : a ∉ nds.map (·.lst) := fun hm =>
  let ⟨nd, hn, e⟩ := List.mem_map.mp hm; (h.2.1 nd hn).1.list_ne ND ha hc e
theorem SorterIn.keepAt {w : World} {led led' : Led} {x dx d2 : Addr} {rdy : Value} {np nf : Int} {nds : List Nd} (h : SorterIn led x dx d2 rdy np nf) (HN : NodesIn w led d2 nds) (ND : NDL led) (k : Keep (nds.map (·.at_)) led led') : SorterIn led' x dx d2 rdy np nf := by
  obtain ⟨M1, hdd, t1, t2, t3, t4, t5, t6, k1, k2, k3, k4, n, M2⟩ := id h
  exact h.keep k (HN.notAt ND M1 (by intro e; cases e)) (HN.notAt ND M2 (by intro e; cases e))
theorem SorterIn.dxMem {led : Led} {x dx d2 : Addr} {rdy : Value} {np nf : Int} (h : SorterIn led x dx d2 rdy np nf) : ∃ es n, (dx, dictOf es n) ∈ led := by
  obtain ⟨_, hdd, t1, t2, t3, t4, t5, t6, k1, k2, k3, k4, n, M2⟩ := h; exact ⟨_, _, M2⟩
theorem NodesIn.d2Mem {w : World} {led : Led} {d2 : Addr} {nds : List Nd} (h : NodesIn w led d2 nds) : ∃ o, (d2, o) ∈ led ∧ o.cls = .type "dict" := let ⟨_, o, M, hd⟩ := h.1; ⟨o, M, isDict_cls hd⟩
theorem NdIn.dn_ne {led : Led} (ND : NDL led) {nd : Nd} (h : NdIn led nd) {a : Addr} {o : Obj} (ha : (a, o) ∈ led) (hc : o.cls ≠ .type "dict") : nd.dn ≠ a := by
  obtain ⟨_, _, M⟩ := h
  exact ND.neC M ha (fun e => hc e.symm)
theorem NdIn.dn_dx {led : Led} (ND : NDL led) {nd : Nd} (h : NdIn led nd) {x dx d2 : Addr} {rdy : Value} {np nf : Int} (HS : SorterIn led x dx d2 rdy np nf) : nd.dn ≠ dx := by
  obtain ⟨_, _, M⟩ := h
  obtain ⟨M1, hdd, t1, t2, t3, t4, t5, t6, k1, k2, k3, k4, n, M2⟩ := HS
  exact ND.ne M M2 fun e => by cases e
theorem stored_new {nds : List Nd} {y : Str} (hy : y ∉ nds.map (·.name)) (v : Value) : stored (nkv nds) y v = nkv nds ++ [(y, v)] := by
  unfold stored
  rw [if_neg]
  intro h
  obtain ⟨kv, hkv, e⟩ := List.any_eq_true.mp h
  obtain ⟨nd, hn, rfl⟩ := List.mem_map.mp hkv
  exact hy (List.mem_map.mpr ⟨nd, hn, by simpa using e⟩)
theorem NodesIn.add {w : World} {led led' : Led} {d2 x' dn lst : Addr} {nds : List Nd} {y : Str} {t1 t2 : Tok} {n : Nat} {o : Obj} (HN : NodesIn w led d2 nds) (ND : NDL led') (M1 : (x', ndObj dn y lst 0 t1 t2) ∈ led') (M2 : (dn, dictOf [] 0) ∈ led') (M3 : (lst, listOf #[] n) ∈ led')
    (sub : ∀ p ∈ led, p ∈ led') (lt : ∀ p ∈ led, p.1 < dn ∧ p.1 < x' ∧ p.1 < lst) (hy : y ∉ nds.map (·.name)) (D' : DictIn w (upd led' d2 o) d2 (stored (nkv nds) y (.ref x'))) : NodesIn w (upd led' d2 o) d2 (nds ++ [⟨y, x', dn, lst, 0, []⟩]) := by
  rw [stored_new hy] at D'
  obtain ⟨o2, Md2, hc2⟩ := HN.d2Mem
  have l2 := lt _ Md2
  have e1 : x' ≠ d2 := Nat.ne_of_gt l2.2.1
  have e2 : dn ≠ d2 := Nat.ne_of_gt l2.1
  have e3 : lst ≠ d2 := Nat.ne_of_gt l2.2.2
  refine ⟨by unfold nkv at D' ⊢; rw [List.map_append]; exact D', fun nd hn => ?_, ?_, ?_⟩
  · rcases List.mem_append.mp hn with hn | hn
    · obtain ⟨h1, h2⟩ := HN.2.1 nd hn
      have h1' : NdIn led' nd := h1.keep (S := []) (fun p hp _ => sub p hp) (by simp) (by simp) (by simp)
      have hm := sub _ Md2
      refine ⟨h1'.keep (S := [d2]) (Keep.refl.upd (by simp)) ?_ ?_ ?_, h2⟩
      · simpa using h1'.at_ne ND hm (by rw [hc2]; simp)
      · simpa using h1'.list_ne ND hm (by rw [hc2]; simp)
      · simpa using h2
    · rw [List.mem_singleton.mp hn]
      exact ⟨⟨⟨t1, t2, mem_upd_ne M1 e1⟩, ⟨[], n, mem_upd_ne M3 e3, .nil⟩, mem_upd_ne M2 e2⟩, e2⟩
  · rw [List.map_append, List.nodup_append]
    refine ⟨HN.2.2.1, by simp, fun a ha b hb e => hy ?_⟩
    simp at hb; subst hb; exact e ▸ ha
  · rw [List.map_append, List.nodup_append]
    refine ⟨HN.2.2.2, by simp, fun a ha b hb e => ?_⟩
    simp at hb; subst hb
    obtain ⟨nd, hn, rfl⟩ := List.mem_map.mp ha
    obtain ⟨⟨_, ⟨vs, n', M, _⟩, _⟩, _⟩ := HN.2.1 nd hn
    exact absurd e (Nat.ne_of_lt (lt _ M).2.2)

theorem rst_Lists : True := by
  w_top off
  trivial
section
variable {prog : Program} {w : World} {A : Around} {E : Value → Shared → Prop} {s : Shared} {b : Heap} {L D : Addr} {m : Str → Option Value} {led : Led} {its : Array Value} {n : Nat}
theorem l_clear {Q : Value → Shared → Prop} (F : Fr b L s.heap m) (N : News b L s.heap led) (M : (D, listOf its n) ∈ led) (hz : its.size ≤ sizeLine)
    (h : ∀ h' k, Fr b L h' m → News b L h' (upd led D (listOf #[] k)) → Q .none { s with heap := h' }) : wpAny (model prog w) A (call (.builtin "list.clear") [.ref D]) Q E s := by
  have z := N _ M
  have hs : Heap.SameBut D s.heap (s.heap.update D (Obj.mapSeq fun _ => #[])) := Heap.SameBut.update ..
  refine call_meets PySem.F.slot_list_clear ⟨_, z.1, rfl⟩ PySem.F.entry_list_clear (PySem.F.args_list_clear_1 _) (PySem.AutoSeq1.list_clear_list_0 D its n hz) ⟨z.1, ?_⟩
  exact h _ _ (fr_upd F N M hs) (news_upd N M hs (Heap.get?_update_self _ z.1 rfl))
theorem l_append {x : Value} {Q : Value → Shared → Prop} (F : Fr b L s.heap m) (N : News b L s.heap led) (M : (D, listOf its n) ∈ led) (hz : its.size ≤ sizeLine)
    (h : ∀ h', Fr b L h' m → News b L h' (upd led D (listOf (its.push x) (n + 1))) → Q .none { s with heap := h' }) : wpAny (model prog w) A (call (.builtin "list.append") [.ref D, x]) Q E s :=
  append_at (hsz := hz) (N _ M).1 fun h' hs ho' => h h' (fr_upd F N M hs) (news_upd N M hs ho')
end
theorem isTup_of {b h : Heap} {L l : Addr} {led : Led} {its : Array Value} {n : Nat} (N : News b L h led) (hm : (l, ({ cls := .type "tuple", data := .seq its n } : Obj)) ∈ led) : IsTup h l its := ⟨_, (N _ hm).1, rfl, _, rfl⟩
theorem strsAre_lib {vs : List Value} {ss : List Str} (h : StrsAre vs ss) : PyProof.Rows.StrsAre vs ss := by
  induction vs generalizing ss with
  | nil => cases ss with
    | nil => exact .nil
    | cons => simp [StrsAre] at h
  | cons v r ih => obtain ⟨t, s, ss', rfl, rfl, h'⟩ := h.uncons; exact .cons s t (ih h')
section
variable {prog : Program} {w : World} {A : Around} {E : Value → Shared → Prop} {s : Shared} {b : Heap} {L D : Addr} {m : Str → Option Value} {led : Led} {n : Nat} {vs : List Value} {value slice : Expr}
theorem l_last {p : List Value} {y : Value} {t : Tok} {Q : Value → Shared → Prop} (N : News b L s.heap led) (M : (D, listOf (p ++ [y]).toArray n) ∈ led) (hz : p.length < 2 ^ 62) (h : Q y s)
    (hs : subscripted slice false (.ref D) (.int (-1) t) = operate [.ref D, .int (-1) t] (getItem (.ref D) (.int (-1) t)) := by with_unfolding_all rfl) : wpAny (model prog w) A (subscriptTail value slice (.ref D) (.int (-1) t)) Q E s := by
  refine tail_any (isList_of N M).typeIs slot_list_getitem.lookup (wpAny_getItem_list_neg (isList_of N M) (by decide) (by simp; exact oq2 hz) (by decide) ?_ h) hs
  simp
  have : ((-1 : Int) + ((p.length : Int) + 1)).toNat = p.length := by omega
  rw [this]; simp
theorem l_item {k : Int} {y : Value} {t : Tok} {Q : Value → Shared → Prop} (N : News b L s.heap led) (M : (D, listOf vs.toArray n) ∈ led) (h0 : 0 ≤ k) (h1 : k < 2 ^ 63) (hy : vs[k.toNat]? = some y) (h : Q y s)
    (hs : subscripted slice false (.ref D) (.int k t) = operate [.ref D, .int k t] (getItem (.ref D) (.int k t)) := by with_unfolding_all rfl) : wpAny (model prog w) A (subscriptTail value slice (.ref D) (.int k t)) Q E s :=
  tail_any (isList_of N M).typeIs slot_list_getitem.lookup (wpAny_getItem_list (isList_of N M) h0 h1 (by simpa using hy) h) hs
theorem pick_all (vs : List Value) : (slicePick vs.toArray (some 0) none none).toList = vs := by
  have e : sliceBounds (some 0) none none vs.toArray.size = (((0 : Nat) : Int), ((vs.toArray.size : Nat) : Int), 1) := by
    simp only [sliceBounds, Option.getD_none, show (1 : Int) > 0 by decide, if_true, show ¬ ((0 : Int) < 0) by decide, if_false]
    congr 1
  rw [kmk_pick_nat _ e]
  simp
theorem l_slice0 {t : Tok} {Q : Value → Shared → Prop} (F : Fr b L s.heap m) (N : News b L s.heap led) (M : (D, listOf vs.toArray n) ∈ led) (hz : vs.length ≤ sizeLine)
    (h : ∀ (D' : Addr) h', Fr b L h' m → News b L h' ((D', listOf vs.toArray 0) :: led) → (∀ p ∈ led, p.1 < D') → Q (.ref D') { s with heap := h' })
    (hs : subscripted slice false (.ref D) (.ref s.heap.objs.size) = operate [.ref s.heap.objs.size, .ref D] (getItem (.ref D) (.ref s.heap.objs.size))) (ht : ∀ r, letTemporaryGo value (.ref D) r = pure ()) :
    wpAny (model prog w) A (subscriptTail value slice (.ref D) (.ref s.heap.objs.size)) Q E { s with heap := s.heap.push { cls := .type "slice", data := .fields #[.int 0 t, .none, .none] } } :=
  kmk_slice_lit F N (isList_of N M) (.int 0 t) .none (pick_all vs) h hs ht (by rw [List.size_toArray]; exact hz)
theorem l_add {D2 : Addr} {n2 : Nat} {ws : List Value} {Q : Value → Shared → Prop} (F : Fr b L s.heap m) (N : News b L s.heap led) (M : (D, listOf vs.toArray n) ∈ led) (M2 : (D2, listOf ws.toArray n2) ∈ led) (hz : vs.length + ws.length ≤ sizeLine)
    (h : ∀ (D' : Addr) h', Fr b L h' m → News b L h' ((D', listOf (vs ++ ws).toArray 0) :: led) → (∀ p ∈ led, p.1 < D') → Q (.ref D') { s with heap := h' }) :
    wpAny (model prog w) A (binaryOp .Add (.ref D) (.ref D2)) Q E s :=
  add_arrays F N (isList_of N M) (isList_of N M2) (fun h' F' N' => h _ h' F' N' fun q hq => Heap.lt_size (N q hq).1) (by simpa using hz)
theorem l_truthy0 {Q : Bool → Shared → Prop} (N : News b L s.heap led) (M : (D, listOf #[] n) ∈ led) (h : Q false { s with toks := s.toks + 1 + 1 }) : wpAny (model prog w) A (truthy (.ref D)) Q E s :=
  wpAny_truthy_list (isList_of N M) (by decide) h
theorem l_truthy1 {p : List Value} {y : Value} {Q : Bool → Shared → Prop} (N : News b L s.heap led) (M : (D, listOf (p ++ [y]).toArray n) ∈ led) (hz : p.length < 2 ^ 62) (h : Q true { s with toks := s.toks + 1 + 1 }) : wpAny (model prog w) A (truthy (.ref D)) Q E s :=
by
  have e : (!(p ++ [y]).toArray.isEmpty) = true := by cases p <;> rfl
  exact wpAny_truthy_list (isList_of N M) (by simp; omega) (by rw [e]; exact h)
end

theorem rst_Sets : True := by
  w_top off
  trivial
noncomputable def SetIn (w : World) (led : Led) (a : Addr) (seen : List Str) : Prop := ∃ o S n, (a, o) ∈ led ∧ o.SetObjOf (PySem.strKind P w) S n ∧ (∀ y, S y = decide (y ∈ seen)) ∧ n ≤ seen.length
theorem SetIn.mono {w : World} {led led' : Led} {a : Addr} {seen : List Str} (h : SetIn w led a seen) (k : ∀ o, (a, o) ∈ led → o.cls = .type "set" → (a, o) ∈ led') : SetIn w led' a seen :=
  let ⟨o, S, n, ho, hs, r⟩ := h; ⟨o, S, n, k o ho hs.1.1, hs, r⟩
section
variable {w : World} {A : Around} {E : Value → Shared → Prop} {s : Shared} {b : Heap} {L a d D : Addr} {m : Str → Option Value} {led : Led} {seen : List Str} {k : Str} {t : Tok} {kvs : List (Str × Value)}
theorem set_in {Q : Value → Shared → Prop} (N : News b L s.heap led) (Z : SetIn w led a seen) (hr : seen.length < 4000) (h : Q (.bool (decide (k ∈ seen))) { s with toks := s.toks + 1 }) : wpAny (model P w) A (compareOp .In (.str k t) (.ref a)) Q E s := by
  obtain ⟨o, S, n, ho, hs, hS, hn⟩ := Z
  refine wpAny_inSet_of (strKind_is P w k t) rfl (hs.setOf (N _ ho).1 (by unfold scanBound; exact oq3 hr hn)) ?_
  rw [hS]; exact h
theorem set_addM {pl : Sem Bool} {Q : Value × List Value → Shared → Prop} (N : News b L s.heap led) (Z : SetIn w led a seen) (hr : seen.length < 4000) (h : Q (.builtin "set.add", [.ref a]) s) : wpAny (model P w) A (getMethod (.ref a) (Str.ofString "add") pl) Q E s := by
  obtain ⟨o, S, n, ho, hs, hS, hn⟩ := Z
  exact getMethod_set_add (hs.setOf (N _ ho).1 (by unfold scanBound; exact oq3 hr hn)) h
theorem set_add {Q : Value → Shared → Prop} (F : Fr b L s.heap m) (N : News b L s.heap led) (Z : SetIn w led a seen) (hr : seen.length < 4000)
    (h : ∀ h' o', o'.cls = .type "set" → Fr b L h' m → News b L h' (upd led a o') → SetIn w (upd led a o') a (k :: seen) → Q .none { s with heap := h', toks := s.toks + 1 }) : wpAny (model P w) A (call (.builtin "set.add") [.ref a, .str k t]) Q E s := by
  obtain ⟨o, S, n, ho, hs, hS, hn⟩ := Z
  refine call_set_add (strKind_is P w k t) rfl (hs.setOf (N _ ho).1 (by unfold scanBound; exact oq3 hr hn)) (by unfold scanBound; exact oq4 hr hn) fun h' hsb hS' => ?_
  obtain ⟨o', ho', hs'⟩ := hS'.objOf
  refine h h' o' hs'.1.1 (fr_upd F N ho hsb) (news_upd N ho hsb ho') ⟨o', _, _, mem_upd_self ho, hs', fun y => ?_, ?_⟩
  · rw [hS]; simp [Bool.or_comm]
  · have : seen.length ≤ (k :: seen).length := by simp
    split <;> simp <;> (first | exact Nat.le_succ_of_le hn | exact hn)
theorem d_del {Q : Unit → Shared → Prop} (F : Fr b L s.heap m) (N : News b L s.heap led) (DI : DictIn w led d kvs) (hsz : kvs.length ≤ sizeLine) (hv : (valueAt kvs k).isSome = true)
    (h : ∀ h' o', o'.cls = .type "dict" → Fr b L h' m → News b L h' (upd led d o') → DictIn w (upd led d o') d (without kvs k) → Q () { s with heap := h', toks := s.toks + 1 }) : wpAny (model P w) A (delItem (.ref d) (.str k t)) Q E s := by
  obtain ⟨lo, o, ho, hd⟩ := DI
  have hD : s.heap.DictOf (PySem.strKind P w) d kvs := Heap.dictOf_iff.mpr ⟨o, (N _ ho).1, hd⟩
  unfold delItem
  try with_reducible refine wpAny_holding ?_
  refine wpAny_bind (wpAny_sequenceKey hD.typeIs (by decide) ?_)
  refine wpAny_bind (wpAny_callSpecial?_slot (name := Str.ofString "__delitem__") hD.typeIs PySem.F.slot_dict_delitem
    (call_meetsIn PySem.F.slot_dict_delitem hD.typeIs PySem.F.entry_dict_delitem (PySem.F.args_dict_delitem_2 _ _) (meets_dict_delitem_pairs (PySem.strKind P w) d (strKind_is P w k t)) ⟨kvs, hD, hsz, hv, fun h' hmm hs => ?_⟩))
  obtain ⟨o', ho', hd'⟩ := Heap.dictOf_iff.mp hmm
  exact wpAny_pure (h h' o' (by obtain ⟨_, _, e, _⟩ := hd'; exact e.1) (fr_upd F N ho hs) (news_upd N ho hs ho') ⟨lo, o', mem_upd_self ho, hd'⟩)
theorem l_pop {p : List Value} {y : Value} {n : Nat} {Q : Value → Shared → Prop} (F : Fr b L s.heap m) (N : News b L s.heap led) (ND : NDL led) (M : (D, listOf (p ++ [y]).toArray n) ∈ led) (hz : p.length < sizeLine)
    (h : ∀ h', Fr b L h' m → News b L h' (upd led D (listOf p.toArray (n + 1))) → Q y { s with heap := h' }) : wpAny (model P w) A (call (.builtin "list.pop") [.ref D]) Q E s := by
  refine kl_pop F N (p := p) (y := y) ?_ (updOf ND M) (by simp; exact hz) h
  have : ∀ q : List Value, kl_last (q ++ [y]) = some (q, y) := fun q => by
    induction q with
    | nil => rfl
    | cons a r ih =>
      cases r with
      | nil => rfl
      | cons c r => simp only [List.cons_append] at ih ⊢; unfold kl_last; rw [ih]
  simpa using this p
theorem set_yes {Q : Value → Shared → Prop} (N : News b L s.heap led) (Z : SetIn w led a seen) (hr : seen.length < 4000) (hk : k ∈ seen) (h : Q (.bool true) { s with toks := s.toks + 1 }) : wpAny (model P w) A (compareOp .In (.str k t) (.ref a)) Q E s :=
  set_in N Z hr (by rw [decide_eq_true hk]; exact h)
theorem set_no {Q : Value → Shared → Prop} (N : News b L s.heap led) (Z : SetIn w led a seen) (hr : seen.length < 4000) (hk : k ∉ seen) (h : Q (.bool false) { s with toks := s.toks + 1 }) : wpAny (model P w) A (compareOp .In (.str k t) (.ref a)) Q E s :=
  set_in N Z hr (by rw [decide_eq_false hk]; exact h)
theorem d_in_yes {v : Value} {Q : Value → Shared → Prop} (N : News b L s.heap led) (D : DictIn w led d kvs) (hv : valueAt kvs k = some v) (h : Q (.bool true) { s with toks := s.toks + 1 }) : wpAny (model P w) A (compareOp .In (.str k t) (.ref d)) Q E s :=
  d_in N D (by rw [hv]; exact h)
theorem d_in_no {Q : Value → Shared → Prop} (N : News b L s.heap led) (D : DictIn w led d kvs) (hv : valueAt kvs k = none) (h : Q (.bool false) { s with toks := s.toks + 1 }) : wpAny (model P w) A (compareOp .In (.str k t) (.ref d)) Q E s :=
  d_in N D (by rw [hv]; exact h)
theorem d_notIn_yes {Q : Value → Shared → Prop} (N : News b L s.heap led) (D : DictIn w led d kvs) (hv : valueAt kvs k = none) (h : Q (.bool true) { s with toks := s.toks + 1 }) : wpAny (model P w) A (compareOp .NotIn (.str k t) (.ref d)) Q E s :=
  d_notIn N D (by rw [hv]; exact h)
theorem d_notIn_no {v : Value} {Q : Value → Shared → Prop} (N : News b L s.heap led) (D : DictIn w led d kvs) (hv : valueAt kvs k = some v) (h : Q (.bool false) { s with toks := s.toks + 1 }) : wpAny (model P w) A (compareOp .NotIn (.str k t) (.ref d)) Q E s :=
  d_notIn N D (by rw [hv]; exact h)
end

theorem rst_Comps : True := by
  w_top off
  trivial
/-- an object that holds a frame's names -/
noncomputable def NsO (o : Obj) (m : Str → Option Value) : Prop := ∃ es ep, o.data = .dict es ep ∧ StrKeys es ∧ ∀ name, nsFind es name = m name
theorem NsO.at {o : Obj} {m : Str → Option Value} {h : Heap} {a : Addr} (n : NsO o m) (hg : h.get? a = some o) : h.Ns a m := let ⟨es, ep, r⟩ := n; ⟨o, es, ep, hg, r⟩
theorem ns_obj {m : Str → Option Value} {h : Heap} {a : Addr} (n : h.Ns a m) : ∃ o, h.get? a = some o ∧ NsO o m := let ⟨o, es, ep, hg, r⟩ := n; ⟨o, hg, es, ep, r⟩
section
variable {M : Model} {A : Around} {E : Value → Shared → Prop} {s : Shared} {b : Heap} {L C c : Addr} {m mC : Str → Option Value} {led : Led} {env : Env} {x : Str} {pos : Pos} {v : Value} {oC : Obj}
theorem cname_L {Q : Value → Shared → Prop} (hl : env.locals = C) (N : News b L s.heap led) (hC : (C, oC) ∈ led) (hn : NsO oC mC) (hv : mC x = some v) (h : Q v s) (hk : env.scope.kind = .function) (hx : env.kindOf x = some .local) (hd : (x == ("__debug__" : Str)) = false) :
    wpAny M A (eval (.Name x pos) env) Q E s := by subst hl; exact wpAny_Name (wpAny_loadName_local hk hx (hn.at (N _ hC).1) hv h) hd
theorem cname_C {Q : Value → Shared → Prop} {o : Obj} (N : News b L s.heap led) (hm : (c, o) ∈ led) (ho : o.data = .cell (some v)) (h : Q v s) (hc : env.cells.lookup x = some c) (hk : env.scope.kind = .function) (hx : env.kindOf x = some .cell) (hd : (x == ("__debug__" : Str)) = false) :
    wpAny M A (eval (.Name x pos) env) Q E s := wpAny_Name (wpAny_loadName_cell hk hx hc ⟨o, N.get hm, ho⟩ h) hd
theorem cstore_L {Q : Unit → Shared → Prop} (hl : env.locals = C) (F : Fr b L s.heap m) (N : News b L s.heap led) (hC : (C, oC) ∈ led) (hn : NsO oC mC)
    (h : ∀ h' oC', NsO oC' (fun y => if y = x then some v else mC y) → Fr b L h' m → News b L h' (upd led C oC') → Q () { s with heap := h', toks := s.toks + 1 }) (hk : env.scope.kind = .function) (hx : env.kindOf x = some .local) :
    wpAny M A (storeName env x v) Q E s := by
  subst hl
  refine wpAny_storeName_local hx (hn.at (N _ hC).1) (fun h' hns hs => ?_) (by rw [hk]; rfl)
  obtain ⟨oC', ho', hn'⟩ := ns_obj hns
  exact h h' oC' hn' (fr_upd F N hC hs) (news_upd N hC hs ho')
theorem cstore_C {Q : Unit → Shared → Prop} {o : Obj} {v₀ : Option Value} (F : Fr b L s.heap m) (N : News b L s.heap led) (hm : (c, o) ∈ led) (ho : o.data = .cell v₀)
    (h : ∀ h' o', o'.data = .cell (some v) → Fr b L h' m → News b L h' (upd led c o') → Q () { s with heap := h' }) (hc : env.cells.lookup x = some c) (hk : env.scope.kind = .function) (hx : env.kindOf x = some .cell) :
    wpAny M A (storeName env x v) Q E s := by
  refine wpAny_storeName_cell hk hx hc ⟨o, N.get hm, ho⟩ fun h' hv hs => ?_
  obtain ⟨o', ho', hd'⟩ := hv
  exact h h' o' hd' (fr_upd F N hm hs) (news_upd N hm hs ho')
end
section
variable {M : Model} {A : Around} {E : Value → Shared → Prop} {s : Shared} {b : Heap} {L C c : Addr} {m mC : Str → Option Value} {led : Led} {env : Env} {x : Str} {pos : Pos} {v : Value} {oC : Obj} {scope : Scope} {cl : List (Str × Addr)}
theorem cn_L {Q : Value → Shared → Prop} (N : News b L s.heap led) (hC : (C, oC) ∈ led) (hn : NsO oC mC) (hv : mC x = some v) (h : Q v s) (hk : (compEnvC scope cl C env).scope.kind = .function) (hx : (compEnvC scope cl C env).kindOf x = some .local) (hd : (x == ("__debug__" : Str)) = false) :
    wpAny M A (eval (.Name x pos) (compEnvC scope cl C env)) Q E s := cname_L rfl N hC hn hv h hk hx hd
theorem cst_L {Q : Unit → Shared → Prop} (F : Fr b L s.heap m) (N : News b L s.heap led) (hC : (C, oC) ∈ led) (hn : NsO oC mC)
    (h : ∀ h' oC', NsO oC' (fun y => if y = x then some v else mC y) → Fr b L h' m → News b L h' (upd led C oC') → Q () { s with heap := h', toks := s.toks + 1 }) (hk : (compEnvC scope cl C env).scope.kind = .function) (hx : (compEnvC scope cl C env).kindOf x = some .local) :
    wpAny M A (storeName (compEnvC scope cl C env) x v) Q E s := cstore_L rfl F N hC hn h hk hx
end
/-- the middle of a comprehension's turn: its tests and its element are done -/
inductive CompMidI (b : Heap) (L : Addr) (m : Str → Option Value) (gs : Array GenState) (dr : Drawn) (os : OsState) (I : Addr) (oI : Obj) (D : Addr) (ys : List Value) (XA : List Addr) (CX : Led → Prop) (fixed : Led) (J : Led → Prop) (s₃ : Shared) : Prop
  | mk (h' : Heap) (tk' : Tok) (all : Led) (X : Led) (x0 : s₃ = { heap := h', gens := gs, drawn := dr, toks := tk', os := os }) (x1 : Fr b L h' m) (x2 : News b L h' all) (x3 : NDL all) (x4 : (I, oI) ∈ all) (x5 : (D, lstO ys) ∈ all) (x6 : CX X) (x7 : (∀ p ∈ X, p ∈ all)) (x8 : (∀ p ∈ fixed, p ∈ all)) (x9 : ∀ led', (∀ p ∈ all, p.1 ≠ I → p.1 ≠ D → p.1 ∉ XA → p ∈ led') → J led') : CompMidI b L m gs dr os I oI D ys XA CX fixed J s₃
noncomputable def CompMid (b : Heap) (L : Addr) (m : Str → Option Value) (s : Shared) (I : Addr) (oI : Obj) (D : Addr) (ys : List Value) (XA : List Addr) (CX : Led → Prop) (fixed : Led) (J : Led → Prop) (s₃ : Shared) : Prop := CompMidI b L m s.gens s.drawn s.os I oI D ys XA CX fixed J s₃
theorem NDL.mk {XA : List Addr} {X led : Led} {D : Addr} {o : Obj} (hX : X.map (·.1) = XA) (hXA : XA.Nodup) (hD : D ∉ XA) (h : NDL led) (hn : ∀ p ∈ led, p.1 ≠ D ∧ p.1 ∉ XA) : NDL (X ++ (D, o) :: led) := by
  unfold NDL at h ⊢
  rw [List.map_append, List.nodup_append, hX]
  refine ⟨hXA, by rw [List.map_cons, List.nodup_cons]; exact ⟨fun hm => let ⟨p, hp, e⟩ := List.mem_map.mp hm; (hn p hp).1 e, h⟩, fun a ha c hc e => ?_⟩
  subst e
  rw [List.map_cons] at hc
  rcases List.mem_cons.mp hc with e | hc
  · simp only at e; subst e; exact hD ha
  · obtain ⟨p, hp, e⟩ := List.mem_map.mp hc; exact (hn p hp).2 (by rw [e]; exact ha)
theorem NDL.unmk {XA : List Addr} {X led : Led} {D : Addr} {o : Obj} (h : NDL (X ++ (D, o) :: led)) (hX : X.map (·.1) = XA) : XA.Nodup ∧ D ∉ XA ∧ NDL led ∧ ∀ p ∈ led, p.1 ≠ D ∧ p.1 ∉ XA := by
  unfold NDL at h ⊢
  rw [List.map_append, List.nodup_append, hX, List.map_cons, List.nodup_cons] at h
  exact ⟨h.1, fun hD => h.2.2 D hD D (.head _) rfl, h.2.1.2, fun p hp => ⟨fun e => h.2.1.1 (List.mem_map.mpr ⟨p, hp, e⟩), fun hx => h.2.2 _ hx p.1 (.tail _ (List.mem_map_of_mem hp)) rfl⟩⟩
section
variable {prog : Program} {w : World} {A : Around} {E : Value → Shared → Prop} {s : Shared} {b : Heap} {L : Addr} {m : Str → Option Value} {led : Led} {R : Result → Shared → Prop}
theorem compLoop_go {elt target iter : Expr} {ifs : List Expr} {scope : Scope} {pos : Pos} {it acc : Value} {env : Env} (I : Nat → Shared → Prop)
    (turn : ∀ n s, I n s → wpAny (model prog w) A (pyNext it) (fun r s₁ => match r with
      | none => R (.ok .next) s₁
      | some v => wpAny (model prog w) A (letOwnedTupleGo target it v) (fun _ s₁ => wpAny (model prog w) A (assign target env v) (fun _ s₂ =>
          wpAny (model prog w) A (forIn ifs true fun c r => if r = true then do let ok ← isTrue c env (eval c env); pure (ForInStep.yield ok) else pure (ForInStep.yield r)) (fun ok s₃ =>
            if ok = true then wpAny (model prog w) A (eval elt env) (fun x s₄ =>
              wpAny (model prog w) A (call (.builtin "list.append") [acc, x]) (fun _ s₅ => ∃ m, m < n ∧ I m s₅) (fun _ _ => False) s₄) (fun _ _ => False) s₃
            else ∃ m, m < n ∧ I m s₃) (fun _ _ => False) s₂) (fun _ _ => False) s₁) (fun _ _ => False) s₁) (fun _ _ => False) s)
    (n : Nat) (h : I n s) :
    codeAny (model prog w) A (.compLoop (.ListComp elt [⟨target, iter, ifs, 0⟩] scope pos) 0 it acc env) R s := by
  refine codeAny_loop rfl I (fun n s hI => ?_) n h
  show wpAny _ A ((compTurn (.ListComp elt [⟨target, iter, ifs, 0⟩] scope pos) 0 it acc env).onRaise (fun x => do noteFrame x env; theTreesLotGoes x)) _ _ s
  refine wpAny_noted ?_
  rw [compTurn_list]
  refine wpAny_bind (wpAny_standAt (wpAny_bind (wpAny_mono (turn n s hI) (fun r s₁ h₁ => ?_) fun _ _ f => f.elim)))
  cases r with
  | none => exact wpAny_pure h₁
  | some v =>
    refine wpAny_bind (wpAny_mono h₁ (fun _ s₁ h₁ => ?_) fun _ _ f => f.elim)
    refine wpAny_bind (wpAny_mono h₁ (fun _ s₂ h₂ => wpAny_bind (wpAny_mono h₂ (fun ok s₃ h₃ => ?_) fun _ _ f => f.elim)) fun _ _ f => f.elim)
    cases ok with
    | true =>
      simp only [if_true] at h₃ ⊢
      refine wpAny_bind (wpAny_bind (wpAny_mono h₃ (fun x s₄ h₄ => wpAny_bind (wpAny_mono h₄ (fun _ s₅ h₅ => wpAny_pure (wpAny_pure ⟨rfl, h₅⟩)) fun _ _ f => f.elim)) fun _ _ f => f.elim))
    | false =>
      simp only [Bool.false_eq_true, if_false] at h₃ ⊢
      exact wpAny_bind (wpAny_pure (wpAny_pure ⟨rfl, h₃⟩))
theorem comp_core {elt target iter : Expr} {ifs : List Expr} {scope : Scope} {pos : Pos} {cenv : Env} {I D : Addr} {XA : List Addr} {CX : Led → Prop} {X0 fixed : Led} {n : Nat} {PV : Nat → Value → Prop} {St : Nat → Heap → Prop} {ic : String}
    (W : Walks prog w A I (I :: fixed.map (·.1)) [I] n PV St) (hcls : ∀ i h, St i h → ∃ o, h.get? I = some o ∧ o.cls = .type ic)
    (hic : (["enumerate", "zip", "dict_itemiterator", "dict_reverseitemiterator", "odict_iterator", "itertools.zip_longest", "itertools.pairwise"] : List String).contains ic = false)
    (hCX : ∀ X, CX X → X.map (·.1) = XA) (hX0 : CX X0) (hsz : n ≤ sizeLine)
    (hst : St 0 s.heap) (F : Fr b L s.heap m) (N : News b L s.heap (X0 ++ (D, lstO []) :: led)) (ND : NDL (X0 ++ (D, lstO []) :: led)) (hI : ∀ p ∈ X0 ++ (D, lstO []) :: led, p.1 ≠ I) (hIb : b.get? I = none) (hIL : I ≠ L) (hfix : ∀ p ∈ fixed, p ∈ led)
    (J : Nat → List Value → Led → Prop) (hJ : J 0 [] led)
    (step : ∀ i v ys led₁ X h tk oI, i < n → PV i v → CX X → ys.length ≤ i → J i ys led₁ → oI.cls = .type ic → NDL ((I, oI) :: (X ++ (D, lstO ys) :: led₁)) → (∀ p ∈ fixed, p ∈ led₁) → Fr b L h m → News b L h ((I, oI) :: (X ++ (D, lstO ys) :: led₁)) →
      wpAny (model prog w) A (assign target cenv v) (fun _ s₂ =>
        wpAny (model prog w) A (forIn ifs true fun c r => if r = true then do let ok ← isTrue c cenv (eval c cenv); pure (ForInStep.yield ok) else pure (ForInStep.yield r)) (fun ok s₃ =>
          if ok = true then wpAny (model prog w) A (eval elt cenv) (fun x s₄ => CompMid b L m s I oI D ys XA CX fixed (J (i + 1) (ys ++ [x])) s₄) (fun _ _ => False) s₃
          else CompMid b L m s I oI D ys XA CX fixed (J (i + 1) ys) s₃) (fun _ _ => False) s₂) (fun _ _ => False) { s with heap := h, toks := tk })
    (done : ∀ ys led₁ X h tk, CX X → J n ys led₁ → NDL (X ++ (D, lstO ys) :: led₁) → (∀ p ∈ fixed, p ∈ led₁) → Fr b L h m → News b L h (X ++ (D, lstO ys) :: led₁) → R (.ok .next) { s with heap := h, toks := tk }) :
    codeAny (model prog w) A (.compLoop (.ListComp elt [⟨target, iter, ifs, 0⟩] scope pos) 0 (.ref I) (.ref D) cenv) R s := by
  obtain ⟨hXA, hDX, _, _⟩ := ND.unmk (hCX _ hX0)
  refine compLoop_go
    (fun k s' => ∃ h' tk led' ys X i, s' = { s with heap := h', toks := tk } ∧ St i h' ∧ Fr b L h' m ∧ News b L h' (X ++ (D, lstO ys) :: led') ∧ NDL (X ++ (D, lstO ys) :: led') ∧ (∀ p ∈ X ++ (D, lstO ys) :: led', p.1 ≠ I) ∧ CX X ∧ (∀ p ∈ fixed, p ∈ led') ∧ J i ys led' ∧ i ≤ n ∧ ys.length ≤ i ∧ k = n + 1 - i) ?_ (n + 1)
    ⟨s.heap, s.toks, led, [], X0, 0, rfl, hst, F, N, ND, hI, hX0, hfix, hJ, Nat.zero_le _, Nat.le_refl _, rfl⟩
  rintro k s' ⟨h', tk, led', ys, X, i, rfl, hst', F', N', ND', hI', hX', hfix', hJ', hi, hys, rfl⟩
  by_cases hlt : i < n
  · refine W.item i _ _ _ hlt hst' fun v h₁ tk₁ hP hst₁ hk₁ => ?_
    obtain ⟨F₁, N₁⟩ := next_off F' N' hI' hIb hIL hk₁
    obtain ⟨oI, hoI, hcI⟩ := hcls _ _ hst₁
    have N₂ : News b L h₁ ((I, oI) :: (X ++ (D, lstO ys) :: led')) := fun p hp => by
      rcases List.mem_cons.mp hp with rfl | hp
      · exact ⟨hoI, hIL, hIb⟩
      · exact N₁ p hp
    have ND₂ : NDL ((I, oI) :: (X ++ (D, lstO ys) :: led')) := ND'.of_not hI'
    refine letGo_other hoI hcI hic ?_
    have key : ∀ ys' h₄ tk₃ all X', Fr b L h₄ m → News b L h₄ (upd all D (lstO ys')) → NDL all → (I, oI) ∈ all → (D, lstO ys) ∈ all → CX X' → (∀ p ∈ X', p ∈ all) → (∀ p ∈ fixed, p ∈ all) → (∀ led', (∀ p ∈ all, p.1 ≠ I → p.1 ≠ D → p.1 ∉ XA → p ∈ led') → J (i + 1) ys' led') → ys'.length ≤ i + 1 →
        ∃ k, k < n + 1 - i ∧ ∃ h' tk led' ys X i, ({ s with heap := h₄, toks := tk₃ } : Shared) = { s with heap := h', toks := tk } ∧ St i h' ∧ Fr b L h' m ∧ News b L h' (X ++ (D, lstO ys) :: led') ∧ NDL (X ++ (D, lstO ys) :: led') ∧ (∀ p ∈ X ++ (D, lstO ys) :: led', p.1 ≠ I) ∧ CX X ∧ (∀ p ∈ fixed, p ∈ led') ∧ J i ys led' ∧ i ≤ n ∧ ys.length ≤ i ∧ k = n + 1 - i := by
      intro ys' h₄ tk₃ all X' F₄ N₄ ND₃ hIm hDm hX₃ hXm hkp hJ₃ hyl
      have hXk := hCX _ hX₃
      have hID : I ≠ D := hI' _ (List.mem_append_right _ (.head _)) |>.symm
      have hIX : I ∉ XA := fun hx => by
        rw [← hCX _ hX'] at hx
        obtain ⟨p, hp, e⟩ := List.mem_map.mp hx
        exact hI' p (List.mem_append_left _ hp) e
      refine ⟨n + 1 - (i + 1), by exact oq0 hlt, h₄, tk₃, all.filter (fun p => decide (p.1 ≠ I ∧ p.1 ≠ D ∧ p.1 ∉ XA)), ys', X', i + 1, rfl, ?_, F₄, ?_, ?_, ?_, hX₃, ?_, ?_, hlt, hyl, rfl⟩
      · refine W.frame _ _ _ hst₁ fun c hc o e => ?_
        rcases List.mem_cons.mp hc with rfl | hc
        · rw [hoI] at e; cases e; exact (N₄ _ (mem_upd_ne hIm hID)).1
        · obtain ⟨p, hp, rfl⟩ := List.mem_map.mp hc
          have := (N₁ p (List.mem_append_right _ (.tail _ (hfix' p hp)))).1
          rw [this] at e; cases e
          refine (N₄ _ (mem_upd_ne (hkp p hp) ?_)).1
          exact ((ND'.unmk (hCX _ hX')).2.2.2 p (hfix' p hp)).1
      · refine news_sub N₄ fun p hp => ?_
        rcases List.mem_append.mp hp with hp | hp
        · exact mem_upd_ne (hXm p hp) fun e => hDX (by rw [← e, ← hXk]; exact List.mem_map_of_mem hp)
        · rcases List.mem_cons.mp hp with rfl | hp
          · exact mem_upd_self hDm
          · obtain ⟨h1, h2⟩ := List.mem_filter.mp hp
            rw [decide_eq_true_eq] at h2
            exact mem_upd_ne h1 h2.2.1
      · exact NDL.mk hXk hXA hDX (ND₃.filter _) fun p hp => (of_decide_eq_true (List.mem_filter.mp hp).2).2
      · intro p hp
        rcases List.mem_append.mp hp with hp | hp
        · exact fun e => hIX (by rw [← e, ← hXk]; exact List.mem_map_of_mem hp)
        · rcases List.mem_cons.mp hp with rfl | hp
          · exact hID.symm
          · exact (of_decide_eq_true (List.mem_filter.mp hp).2).1
      · intro p hp
        obtain ⟨h1, h2⟩ := (ND'.unmk (hCX _ hX')).2.2.2 p (hfix' p hp)
        exact List.mem_filter.mpr ⟨hkp p hp, decide_eq_true ⟨hI' p (List.mem_append_right _ (.tail _ (hfix' p hp))), h1, h2⟩⟩
      · exact hJ₃ _ fun p hp h1 h2 h3 => List.mem_filter.mpr ⟨hp, decide_eq_true ⟨h1, h2, h3⟩⟩
    refine wpAny_mono (step i v ys led' X h₁ tk₁ oI hlt hP hX' hys hJ' hcI ND₂ hfix' F₁ N₂) (fun _ s₂ h₂ => wpAny_mono h₂ (fun ok s₃ h₃ => ?_) fun _ _ f => f) fun _ _ f => f
    cases ok with
    | true =>
      simp only [if_true] at h₃ ⊢
      refine wpAny_mono h₃ (fun x s₄ h₄ => ?_) fun _ _ f => f
      obtain ⟨h₃', tk₃, all, X', rfl, F₃, N₃, ND₃, hIm, hDm, c1, c2, c3, c4⟩ := h₄
      refine l_append (n := ys.length) F₃ N₃ hDm (by simp; exact oq5 hsz hys hlt) fun h₅ F₅ N₅ => ?_
      exact key (ys ++ [x]) h₅ tk₃ all X' F₅ (by rw [← lstO_snoc]; exact N₅) ND₃ hIm hDm c1 c2 c3 c4 (by simp; exact hys)
    | false =>
      simp only [Bool.false_eq_true, if_false] at h₃ ⊢
      obtain ⟨h₃', tk₃, all, X', rfl, F₃, N₃, ND₃, hIm, hDm, c1, c2, c3, c4⟩ := h₃
      refine key ys h₃' tk₃ all X' F₃ (fun p hp => ?_) ND₃ hIm hDm c1 c2 c3 c4 (by exact Nat.le_succ_of_le hys)
      obtain ⟨q, hq, e⟩ := List.mem_map.mp hp
      split at e
      · subst e; exact N₃ _ hDm
      · subst e; exact N₃ q hq
  · have hin : i = n := by exact oq1 hi hlt
    subst hin
    refine W.done _ _ _ hst' fun h₁ tk₁ hk₁ => ?_
    obtain ⟨F₁, N₁⟩ := next_off F' N' hI' hIb hIL hk₁
    exact done ys led' X h₁ tk₁ hX' hJ' ND' hfix' F₁ N₁
/-- the end of a comprehension's turn, its frame at C -/
inductive CompEndI (b : Heap) (L : Addr) (m : Str → Option Value) (gs : Array GenState) (dr : Drawn) (os : OsState) (I : Addr) (oI : Obj) (D : Addr) (ys : List Value) (C : Addr) (fixed : Led) (J : Led → Prop) (s₃ : Shared) : Prop
  | mk (h' : Heap) (tk' : Tok) (all : Led) (oC : Obj) (mC : Str → Option Value) (x0 : s₃ = { heap := h', gens := gs, drawn := dr, toks := tk', os := os }) (x1 : Fr b L h' m) (x2 : News b L h' all) (x3 : NDL all) (x4 : (I, oI) ∈ all) (x5 : (D, lstO ys) ∈ all) (x6 : (C, oC) ∈ all) (x7 : NsO oC mC) (x8 : (∀ p ∈ fixed, p ∈ all)) (x9 : ∀ led', (∀ p ∈ all, p.1 ≠ I → p.1 ≠ D → p.1 ≠ C → p ∈ led') → J led') : CompEndI b L m gs dr os I oI D ys C fixed J s₃
noncomputable def CompEnd (b : Heap) (L : Addr) (m : Str → Option Value) (s : Shared) (I : Addr) (oI : Obj) (D : Addr) (ys : List Value) (C : Addr) (fixed : Led) (J : Led → Prop) (s₃ : Shared) : Prop := CompEndI b L m s.gens s.drawn s.os I oI D ys C fixed J s₃
theorem CompEnd.mid {I D C : Addr} {oI : Obj} {ys : List Value} {fixed : Led} {J : Led → Prop} {s₃ : Shared} (h : CompEnd b L m s I oI D ys C fixed J s₃) : CompMid b L m s I oI D ys [C] (fun X => ∃ oC mC, X = [(C, oC)] ∧ NsO oC mC) fixed J s₃ := by
  obtain ⟨h', tk', all, oC, mC, e, F, N, ND, hI, hD, hC, hn, hf, hJ⟩ := h
  exact ⟨h', tk', all, [(C, oC)], e, F, N, ND, hI, hD, ⟨oC, mC, rfl, hn⟩, fun p hp => by rw [List.mem_singleton.mp hp]; exact hC, hf, fun led' k => hJ led' fun p hp h1 h2 h3 => k p hp h1 h2 (by simpa using h3)⟩
theorem comp_block {env : Env} {elt target iter : Expr} {ifs : List Expr} {scope : Scope} {pos : Pos} {cl : List (Str × Addr)} {v : Value} {fixed : Led} {n : Nat} {PV : Nat → Value → Prop} {RR : Value → Addr → Result → Shared → Prop}
    (hcell : ∀ x ∈ scope.names, x.2 ≠ .cell) (hkind : scope.kind = .function) (hsz : n ≤ sizeLine)
    (hsrc : wpAny (model prog w) A (pyIter v) (Src prog w A b L m led fixed n PV s) E s) (ND : NDL led) (hfix : ∀ p ∈ fixed, p ∈ led)
    (J : Nat → List Value → Led → Prop) (hJ : J 0 [] led)
    (step : ∀ i v ys led₁ h tk I oI ic D C oC mC, i < n → PV i v → J i ys led₁ → ys.length ≤ i → oI.cls = .type ic → (ic ≠ "list" ∧ ic ≠ "dict" ∧ ic ≠ "tuple" ∧ ic ≠ "cell" ∧ ic ≠ "set") → NsO oC mC → NDL ((I, oI) :: (C, oC) :: (D, lstO ys) :: led₁) → (∀ p ∈ fixed, p ∈ led₁) → Fr b L h m → News b L h ((I, oI) :: (C, oC) :: (D, lstO ys) :: led₁) →
      wpAny (model prog w) A (assign target (compEnvC scope cl C env) v) (fun _ s₂ =>
        wpAny (model prog w) A (forIn ifs true fun c r => if r = true then do let ok ← isTrue c (compEnvC scope cl C env) (eval c (compEnvC scope cl C env)); pure (ForInStep.yield ok) else pure (ForInStep.yield r)) (fun ok s₃ =>
          if ok = true then wpAny (model prog w) A (eval elt (compEnvC scope cl C env)) (fun x s₄ => CompEnd b L m s I oI D ys C fixed (J (i + 1) (ys ++ [x])) s₄) (fun _ _ => False) s₃
          else CompEnd b L m s I oI D ys C fixed (J (i + 1) ys) s₃) (fun _ _ => False) s₂) (fun _ _ => False) { s with heap := h, toks := tk })
    (done : ∀ ys led₁ h tk D C oC mC, J n ys led₁ → NsO oC mC → NDL ((C, oC) :: (D, lstO ys) :: led₁) → (∀ p ∈ fixed, p ∈ led₁) → Fr b L h m → News b L h ((C, oC) :: (D, lstO ys) :: led₁) → RR (.ref D) C (.ok .next) { s with heap := h, toks := tk }) :
    wpAny (model prog w) A (pyIter v) (fun it s₂ => wpAny (model prog w) A (newList []) (fun acc s₃ => wpAny (model prog w) A (newFunctionEnv scope env.globals cl [] env.qual none .none (some env)) (fun cenv s₄ =>
      codeAny (model prog w) A (.compStart (.ListComp elt [⟨target, iter, ifs, 0⟩] scope pos) 0 it acc { cenv with scope := relabel scope env }) (RR acc cenv.locals) s₄) E s₃) E s₂) E s := by
  refine src_of hsrc fun it s₂ hs => ?_
  obtain ⟨I, ic, St, h', rfl, rfl, W, hc, hn1, n1, n2, n3, n4, n5, h0, F', N', hI, hIb, hIL, hIlt⟩ := hs
  refine wpAny_newObj_type (wpAny_newFunctionEnv hcell (by intro y hy; simp at hy) (fun h₁ hns₁ hsb₁ => ?_) hkind)
  dsimp only at hns₁ hsb₁ ⊢
  generalize hH2 : h'.push { cls := .type "list", dict := none, data := .seq ([] : List Value).toArray } = H2 at hns₁ hsb₁ ⊢
  have hC : H2.objs.size = h'.objs.size + 1 := by rw [← hH2, Heap.size_push]
  have old : ∀ c o, h'.get? c = some o → h₁.get? c = some o := fun c o e => hsb₁.extBut c o (by rw [hC]; exact Nat.ne_of_lt (Nat.lt_succ_of_lt (Heap.lt_size e))) (Heap.get?_push_of_some _ (hH2 ▸ Heap.get?_push_of_some _ e))
  have hDC : h'.objs.size ≠ H2.objs.size := by rw [hC]; exact Nat.ne_of_lt (Nat.lt_succ_self _)
  have hD : h₁.get? h'.objs.size = some (lstO []) := hsb₁.extBut _ _ hDC (Heap.get?_push_of_some _ (hH2 ▸ Heap.get?_push_size _ rfl))
  obtain ⟨oC, hoC, hnC⟩ := ns_obj hns₁
  have hlt : ∀ p ∈ led, p.1 < h'.objs.size := fun p hp => Heap.lt_size (N' p hp).1
  have F₁ : Fr b L h₁ m := F'.keeps old
  have hLlt := F'.ns.lt
  have fresh : ∀ a, h'.objs.size ≤ a → b.get? a = none := fun a ha => Heap.get?_none_of_le (Nat.le_trans (Nat.le_trans F'.above (Nat.le_of_lt hLlt)) ha)
  have N₁ : News b L h₁ ([(H2.objs.size, oC)] ++ (h'.objs.size, lstO []) :: led) := fun p hp => by
    rcases List.mem_cons.mp hp with rfl | hp
    · exact ⟨hoC, fun e => absurd (show h'.objs.size + 1 < h'.objs.size by have h1 : L < h'.objs.size := hLlt; have e' : h'.objs.size + 1 = L := hC.symm.trans e; exact (show h'.objs.size + 1 < h'.objs.size from e'.symm ▸ h1)) (Nat.not_lt.mpr (Nat.le_succ _)), fresh _ (by simp only; rw [hC]; exact Nat.le_succ _)⟩
    · rcases List.mem_cons.mp hp with rfl | hp
      · exact ⟨hD, fun e => by simp only at e; rw [← e] at hLlt; exact absurd hLlt (Nat.lt_irrefl _), fresh _ (Nat.le_refl _)⟩
      · exact ⟨old _ _ (N' p hp).1, (N' p hp).2⟩
  have ND₁ : NDL ([(H2.objs.size, oC)] ++ (h'.objs.size, lstO []) :: led) := (ND.cons hlt).cons fun p hp => by
    rcases List.mem_cons.mp hp with rfl | hp
    · rw [hC]; exact Nat.lt_succ_self _
    · rw [hC]; exact Nat.lt_succ_of_lt (hlt p hp)
  have hI₁ : ∀ p ∈ [(H2.objs.size, oC)] ++ (h'.objs.size, lstO []) :: led, p.1 ≠ I := fun p hp => by
    rcases List.mem_cons.mp hp with rfl | hp
    · exact fun e => absurd (show h'.objs.size + 1 < h'.objs.size by have h1 : I < h'.objs.size := hIlt; have e' : h'.objs.size + 1 = I := hC.symm.trans e; exact (show h'.objs.size + 1 < h'.objs.size from e'.symm ▸ h1)) (Nat.not_lt.mpr (Nat.le_succ _))
    · rcases List.mem_cons.mp hp with rfl | hp
      · exact fun e => absurd hIlt (by simp only at e; rw [← e]; exact Nat.lt_irrefl _)
      · exact hI p hp
  have hst₁ : St 0 h₁ := W.frame _ _ _ h0 fun c _ o e => old c o e
  have loop : ∀ s₃ : Shared, s₃ = { { s with heap := h' } with heap := h₁, toks := s.toks + ([] : List (Str × Value)).length } →
      codeAny (model prog w) A (.compLoop (.ListComp elt [⟨target, iter, ifs, 0⟩] scope pos) 0 (.ref I) (.ref h'.objs.size) (compEnvC scope cl H2.objs.size env)) (RR (.ref h'.objs.size) H2.objs.size) s₃ := by
    rintro s₃ rfl
    refine comp_core (s := { { s with heap := h' } with heap := h₁, toks := s.toks + ([] : List (Str × Value)).length }) (XA := [H2.objs.size]) (CX := fun X => ∃ oC mC, X = [(H2.objs.size, oC)] ∧ NsO oC mC) W hc hn1 (fun X hX => by obtain ⟨_, _, rfl, _⟩ := hX; rfl) ⟨oC, _, rfl, hnC⟩ hsz hst₁ F₁ N₁ ND₁ hI₁ hIb hIL hfix J hJ ?_ ?_
    · rintro i v ys led₁ X h tk oI hi hP ⟨oC, mC, rfl, hn⟩ hys hj hcI nd hf F N
      refine wpAny_mono (step i v ys led₁ h tk I oI ic _ _ oC mC hi hP hj hys hcI ⟨n1, n2, n3, n4, n5⟩ hn nd hf F N) (fun _ s₂ h₂ => wpAny_mono h₂ (fun ok s₃ h₃ => ?_) fun _ _ f => f) fun _ _ f => f
      cases ok with
      | true =>
        simp only [if_true] at h₃ ⊢
        exact wpAny_mono h₃ (fun x s₄ h₄ => h₄.mid) fun _ _ f => f
      | false =>
        simp only [Bool.false_eq_true, if_false] at h₃ ⊢
        exact h₃.mid
    · rintro ys led₁ X h tk ⟨oC, mC, rfl, hn⟩ hj nd hf F N
      exact done ys led₁ h tk _ _ oC mC hj hn nd hf F N
  exact codeAny_compStart_list (loop _ rfl) (W.self 0 _ _ _ hst₁ (loop _ rfl))
theorem comp_eval {M : Model} {env : Env} {elt target iter : Expr} {ifs : List Expr} {scope : Scope} {pos : Pos} {cl : List (Str × Addr)} {Q : Value → Shared → Prop}
    (hclos : closureFor scope env = pure cl) (hkind : scope.kind = .function) (hnames : ∀ y ∈ scope.names, y.2 = .local → scope.names.lookup y.1 = some .local)
    (h : wpAny M A (eval iter env) (fun x s₁ => wpAny M A (pyIter x) (fun it s₂ => wpAny M A (newList []) (fun acc s₃ =>
      wpAny M A (newFunctionEnv scope env.globals cl [] env.qual none .none (some env)) (fun cenv s₄ =>
        codeAny M A (.compStart (.ListComp elt [⟨target, iter, ifs, 0⟩] scope pos) 0 it acc { cenv with scope := relabel scope env }) (compPost M A E none Q acc cenv.locals) s₄) E s₃) E s₂) E s₁) E s)
    (hs : ∀ x, foldedSetIterable iter env x = pure x) : wpAny M A (eval (.ListComp elt [⟨target, iter, ifs, 0⟩] scope pos) env) Q E s := by
  rw [eval_ListComp]
  exact wpAny_comprehension_free (use := none) rfl hs hclos hkind hnames h
theorem comp_src {env : Env} {elt target iter : Expr} {ifs : List Expr} {scope : Scope} {pos : Pos} {cl : List (Str × Addr)} {v : Value} {fixed : Led} {n : Nat} {PV : Nat → Value → Prop} {Q : Value → Shared → Prop}
    (hsrc : wpAny (model prog w) A (pyIter v) (Src prog w A b L m led fixed n PV s) E s) (ND : NDL led) (hfix : ∀ p ∈ fixed, p ∈ led) (hcell : ∀ x ∈ scope.names, x.2 ≠ .cell) (hkind : scope.kind = .function) (hsz : n ≤ sizeLine)
    (J : Nat → List Value → Led → Prop) (hJ : J 0 [] led)
    (step : ∀ i v ys led₁ h tk I oI ic D C oC mC, i < n → PV i v → J i ys led₁ → ys.length ≤ i → oI.cls = .type ic → (ic ≠ "list" ∧ ic ≠ "dict" ∧ ic ≠ "tuple" ∧ ic ≠ "cell" ∧ ic ≠ "set") → NsO oC mC → NDL ((I, oI) :: (C, oC) :: (D, lstO ys) :: led₁) → (∀ p ∈ fixed, p ∈ led₁) → Fr b L h m → News b L h ((I, oI) :: (C, oC) :: (D, lstO ys) :: led₁) →
      wpAny (model prog w) A (assign target (compEnvC scope cl C env) v) (fun _ s₂ =>
        wpAny (model prog w) A (forIn ifs true fun c r => if r = true then do let ok ← isTrue c (compEnvC scope cl C env) (eval c (compEnvC scope cl C env)); pure (ForInStep.yield ok) else pure (ForInStep.yield r)) (fun ok s₃ =>
          if ok = true then wpAny (model prog w) A (eval elt (compEnvC scope cl C env)) (fun x s₄ => CompEnd b L m s I oI D ys C fixed (J (i + 1) (ys ++ [x])) s₄) (fun _ _ => False) s₃
          else CompEnd b L m s I oI D ys C fixed (J (i + 1) ys) s₃) (fun _ _ => False) s₂) (fun _ _ => False) { s with heap := h, toks := tk })
    (done : ∀ ys led₁ h tk D, J n ys led₁ → NDL ((D, lstO ys) :: led₁) → (∀ p ∈ fixed, p ∈ led₁) → Fr b L h m → News b L h ((D, lstO ys) :: led₁) → Q (.ref D) { s with heap := h, toks := tk }) :
    wpAny (model prog w) A (pyIter v) (fun it s₂ => wpAny (model prog w) A (newList []) (fun acc s₃ => wpAny (model prog w) A (newFunctionEnv scope env.globals cl [] env.qual none .none (some env)) (fun cenv s₄ =>
      codeAny (model prog w) A (.compStart (.ListComp elt [⟨target, iter, ifs, 0⟩] scope pos) 0 it acc { cenv with scope := relabel scope env }) (compPost (model prog w) A E none Q acc cenv.locals) s₄) E s₃) E s₂) E s := by
  refine comp_block (RR := fun acc C => compPost (model prog w) A E none Q acc C) hcell hkind hsz hsrc ND hfix J hJ step ?_
  intro ys led₁ h tk D C oC mC hj hn nd hf F N
  refine ⟨mC, hn.at (N _ (.head _)).1, fun h' hs => ?_⟩
  have hC := N _ (List.mem_cons_self (a := (C, oC)))
  refine done ys led₁ h' tk D hj nd.tail hf (F.change hs hC.2.1 hC.2.2) fun p hp => ⟨(hs.2 _ (nd.head p hp)).trans (N p (.tail _ hp)).1, (N p (.tail _ hp)).2⟩
theorem comp_assign {M : Model} {env : Env} {elt target iter : Expr} {ifs : List Expr} {scope : Scope} {pos spos py : Pos} {y : Str} {cl : List (Str × Addr)} {Q : Flow → Shared → Prop}
    (hsw : swapsWith (.ListComp elt [⟨target, iter, ifs, 0⟩] scope pos) (some (.Name y py)) spos.line env = pure true)
    (hclos : closureFor scope env = pure cl) (hkind : scope.kind = .function) (hnames : ∀ y ∈ scope.names, y.2 = .local → scope.names.lookup y.1 = some .local)
    (h : wpAny M A (eval iter env) (fun x s₁ => wpAny M A (pyIter x) (fun it s₂ => wpAny M A (newList []) (fun acc s₃ =>
      wpAny M A (newFunctionEnv scope env.globals cl [] env.qual none .none (some env)) (fun cenv s₄ =>
        codeAny M A (.compStart (.ListComp elt [⟨target, iter, ifs, 0⟩] scope pos) 0 it acc { cenv with scope := relabel scope env }) (compPost M A E (some (assign (.Name y py) env)) (fun _ s' => Q .next s') acc cenv.locals) s₄) E s₃) E s₂) E s₁) E s)
    (hs : ∀ x, foldedSetIterable iter env x = pure x) : wpAny M A (exec (.Assign [.Name y py] (.ListComp elt [⟨target, iter, ifs, 0⟩] scope pos) spos) env) Q E s := by
  rw [exec_Assign_Name_used _ _ _ _ hsw]
  refine wpAny_bind (wpAny_standAt (wpAny_bind ?_))
  show wpAny _ A (do let _ ← comprehension (.ListComp elt [⟨target, iter, ifs, 0⟩] scope pos) scope env _ (newList []) false (eval iter env) (some (assign (.Name y py) env))) _ _ s
  exact wpAny_bind (wpAny_mono (wpAny_comprehension_free (use := some (assign (.Name y py) env)) (Q := fun _ s' => Q .next s') rfl hs hclos hkind hnames h) (fun _ s' hq => wpAny_pure (wpAny_pure hq)) fun _ _ e => e)
theorem comp_srcA {env : Env} {elt target iter : Expr} {ifs : List Expr} {scope : Scope} {pos py : Pos} {y : Str} {cl : List (Str × Addr)} {v : Value} {fixed : Led} {n : Nat} {PV : Nat → Value → Prop} {Q : Flow → Shared → Prop}
    (hsrc : wpAny (model prog w) A (pyIter v) (Src prog w A b L m led fixed n PV s) E s) (ND : NDL led) (hfix : ∀ p ∈ fixed, p ∈ led) (hcell : ∀ x ∈ scope.names, x.2 ≠ .cell) (hkind : scope.kind = .function) (hsz : n ≤ sizeLine)
    (hy : env.kindOf y = some .local) (hp : (env.scope.kind == .class || (env.scope.kind == .module && env.locals != env.globals)) = false) (hL : env.locals = L)
    (J : Nat → List Value → Led → Prop) (hJ : J 0 [] led)
    (step : ∀ i v ys led₁ h tk I oI ic D C oC mC, i < n → PV i v → J i ys led₁ → ys.length ≤ i → oI.cls = .type ic → (ic ≠ "list" ∧ ic ≠ "dict" ∧ ic ≠ "tuple" ∧ ic ≠ "cell" ∧ ic ≠ "set") → NsO oC mC → NDL ((I, oI) :: (C, oC) :: (D, lstO ys) :: led₁) → (∀ p ∈ fixed, p ∈ led₁) → Fr b L h m → News b L h ((I, oI) :: (C, oC) :: (D, lstO ys) :: led₁) →
      wpAny (model prog w) A (assign target (compEnvC scope cl C env) v) (fun _ s₂ =>
        wpAny (model prog w) A (forIn ifs true fun c r => if r = true then do let ok ← isTrue c (compEnvC scope cl C env) (eval c (compEnvC scope cl C env)); pure (ForInStep.yield ok) else pure (ForInStep.yield r)) (fun ok s₃ =>
          if ok = true then wpAny (model prog w) A (eval elt (compEnvC scope cl C env)) (fun x s₄ => CompEnd b L m s I oI D ys C fixed (J (i + 1) (ys ++ [x])) s₄) (fun _ _ => False) s₃
          else CompEnd b L m s I oI D ys C fixed (J (i + 1) ys) s₃) (fun _ _ => False) s₂) (fun _ _ => False) { s with heap := h, toks := tk })
    (done : ∀ ys led₁ h tk D, J n ys led₁ → NDL ((D, lstO ys) :: led₁) → (∀ p ∈ fixed, p ∈ led₁) → Fr b L h (fun z => if z = y then some (.ref D) else m z) → News b L h ((D, lstO ys) :: led₁) → Q .next { s with heap := h, toks := tk }) :
    wpAny (model prog w) A (pyIter v) (fun it s₂ => wpAny (model prog w) A (newList []) (fun acc s₃ => wpAny (model prog w) A (newFunctionEnv scope env.globals cl [] env.qual none .none (some env)) (fun cenv s₄ =>
      codeAny (model prog w) A (.compStart (.ListComp elt [⟨target, iter, ifs, 0⟩] scope pos) 0 it acc { cenv with scope := relabel scope env }) (compPost (model prog w) A E (some (assign (.Name y py) env)) (fun _ s' => Q .next s') acc cenv.locals) s₄) E s₃) E s₂) E s := by
  subst hL
  refine comp_block (RR := fun acc C => compPost (model prog w) A E (some (assign (.Name y py) env)) (fun _ s' => Q .next s') acc C) hcell hkind hsz hsrc ND hfix J hJ step ?_
  intro ys led₁ h tk D C oC mC hj hn nd hf F N
  show wpAny _ A (assign (.Name y py) env (.ref D)) _ _ _
  refine wpAny_assign_Name (wpAny_storeName_local hy F.ns (fun h₂ hn₂ hs₂ => ?_) hp)
  have hC := N _ (List.mem_cons_self (a := (C, oC)))
  have F₂ : Fr b env.locals h₂ (fun z => if z = y then some (.ref D) else m z) := ⟨hn₂, fun c o e => (hs₂.2 c (fun q => by rw [q, kts_self F] at e; cases e)).trans (F.keep c o e), F.above⟩
  have N₂ : News b env.locals h₂ ((C, oC) :: (D, lstO ys) :: led₁) := fun p hp => ⟨(hs₂.2 _ (N p hp).2.1).trans (N p hp).1, (N p hp).2⟩
  refine ⟨mC, hn.at (N₂ _ (.head _)).1, fun h₃ hs₃ => ?_⟩
  exact done ys led₁ h₃ _ D hj nd.tail hf (F₂.change hs₃ hC.2.1 hC.2.2) fun p hp => ⟨(hs₃.2 _ (nd.head p hp)).trans (N₂ p (.tail _ hp)).1, (N₂ p (.tail _ hp)).2⟩
end

theorem rst_IterNext : True := by
  w_top off
  trivial
theorem entry_obj_ga : entryFor table "object.__getattribute__" = some Builtin.«object.__getattribute__» := entryFor_of_tree (by kernel_rfl)
theorem slot_li_ga : Slot "list_iterator" "__getattribute__" "object.__getattribute__" :=
  .of (owner := "object") (n := "__getattribute__") (by rw [typeLookup_type, builtinLookup_eq_fast]; kernel_rfl) (by decide +kernel) (by decide +kernel) (by decide +kernel)
    (by first | exact .inl (by decide +kernel) | exact .inr (by decide +kernel)) (by rw [isSubtype_type]; kernel_rfl)
theorem args_li_ga (a b : Value) : argsOk "object.__getattribute__" ⟨[a, b], []⟩ := by unfold argsOk; kernel_rfl
theorem lk_li_next : typeLookup (.type "list_iterator") (Str.ofString "__next__") = pure (some (.builtin "list_iterator.__next__")) := by rw [typeLookup_type, builtinLookup_eq_fast]; kernel_rfl
theorem type_li_next : typeOf (.builtin "list_iterator.__next__") = pure (.type "wrapper_descriptor") := by show builtinType _ = _; rw [builtinType_eq_fast]; kernel_rfl
theorem slot_wd_get : Slot "wrapper_descriptor" "__get__" "wrapper_descriptor.__get__" :=
  .of (owner := "wrapper_descriptor") (n := "__get__") (by rw [typeLookup_type, builtinLookup_eq_fast]; kernel_rfl) (by decide +kernel) (by decide +kernel) (by decide +kernel)
    (by first | exact .inl (by decide +kernel) | exact .inr (by decide +kernel)) (by rw [isSubtype_type]; kernel_rfl)
theorem lk_wd_set : typeLookup (.type "wrapper_descriptor") (Str.ofString "__set__") = pure none := by rw [typeLookup_type, builtinLookup_eq_fast]; kernel_rfl
theorem lk_wd_del : typeLookup (.type "wrapper_descriptor") (Str.ofString "__delete__") = pure none := by rw [typeLookup_type, builtinLookup_eq_fast]; kernel_rfl
theorem entry_wd_get : entryFor table "wrapper_descriptor.__get__" = some Builtin.«wrapper_descriptor.__get__» := entryFor_of_tree (by kernel_rfl)
theorem args_wd_get (a b c : Value) : argsOk "wrapper_descriptor.__get__" ⟨[a, b, c], []⟩ := by unfold argsOk; kernel_rfl
theorem owner_li_next : (".".intercalate ("list_iterator.__next__".cutAt '.').dropLast) = "list_iterator" := by
  have e0 : "list_iterator.__next__".cutAt '.' = ["list_iterator", "__next__"] := by first | rfl | decide +kernel
  rw [e0]; decide +kernel
theorem sub_li : isSubtype (.type "list_iterator") (.type (".".intercalate ("list_iterator.__next__".cutAt '.').dropLast)) = pure true := by rw [owner_li_next, isSubtype_type]; kernel_rfl
noncomputable abbrev nextObj (it : Addr) : Obj := { cls := .type "method-wrapper", data := .fields #[.builtin "list_iterator.__next__", .ref it] }
section
variable {prog : Program} {w : World} {A : Around} {E : Value → Shared → Prop} {h : Heap} {g : Array GenState} {d : Drawn} {t : Nat} {os : OsState} {a : Addr} {o : Obj}
theorem next_get {R : Result → Shared → Prop} (hx : h.get? a = some o) (hc : o.cls = .type "list_iterator") (hq : R (.ok (.ret (.ref h.objs.size))) ⟨h.push (nextObj a), g, d, t, os⟩) :
    codeAny (model prog w) A (.call (.builtin "wrapper_descriptor.__get__") ⟨[.builtin "list_iterator.__next__", .ref a, .type "list_iterator"], []⟩) R ⟨h, g, d, t, os⟩ := by
  have hT : (⟨h, g, d, t, os⟩ : Shared).TypeIs (.ref a) "list_iterator" := ⟨_, hx, hc⟩
  have hT5 : (⟨h, g, d, t, os⟩ : Shared).TypeIs (.builtin "list_iterator.__next__") "wrapper_descriptor" := type_li_next
  have f8 := sub_li
  refine codeAny_call_builtin slot_wd_get.plain entry_wd_get (slot_wd_get.check _ _ _ _ _ _ _ _ hT5 (args_wd_get _ _ _) ?_)
  repeat (any_goals (first | assumption | wp_step))
theorem next_entry {tk : Tok} {vs : Array Value} {Q : Fin → Shared → Prop} (hx : h.get? a = some { cls := .type "list_iterator", data := .fields vs }) (hq : Q (.done (.ret (.ref h.objs.size))) ⟨h.push (nextObj a), g, d, t, os⟩) :
    wpAny (model prog w) A (Builtin.«object.__getattribute__» ⟨[.ref a, .str (Str.ofString "__next__") tk], []⟩) Q E ⟨h, g, d, t, os⟩ := by
  have hT : (⟨h, g, d, t, os⟩ : Shared).TypeIs (.ref a) "list_iterator" := ⟨_, hx, rfl⟩
  have hT5 : (⟨h, g, d, t, os⟩ : Shared).TypeIs (.builtin "list_iterator.__next__") "wrapper_descriptor" := type_li_next
  have f4 := lk_li_next
  have f5 := type_li_next
  have f6 := slot_wd_get.lookup
  have f7 := lk_wd_set
  have f8 := lk_wd_del
  repeat (any_goals (first | assumption | wp_step))
  refine next_get hx rfl ?_
  repeat (any_goals (first | assumption | wp_step))
theorem next_call {tk : Tok} {vs : Array Value} {R : Result → Shared → Prop} (hx : h.get? a = some { cls := .type "list_iterator", data := .fields vs }) (hq : R (.ok (.ret (.ref h.objs.size))) ⟨h.push (nextObj a), g, d, t, os⟩) :
    codeAny (model prog w) A (.call (.builtin "object.__getattribute__") ⟨[.ref a, .str (Str.ofString "__next__") tk], []⟩) R ⟨h, g, d, t, os⟩ :=
  codeAny_call_builtin slot_li_ga.plain entry_obj_ga (slot_li_ga.check _ _ _ _ _ _ _ _ (show (⟨h, g, d, t, os⟩ : Shared).TypeIs (.ref a) "list_iterator" from ⟨_, hx, rfl⟩) (args_li_ga _ _) (next_entry hx hq))
theorem next_by {tk : Tok} {vs : Array Value} {fill expr : Bool} {Q : Value → Shared → Prop} (hx : h.get? a = some { cls := .type "list_iterator", data := .fields vs }) (hq : Q (.ref h.objs.size) ⟨h.push (nextObj a), g, d, t, os⟩) :
    wpAny (model prog w) A (getAttrBy (.ref a) (.str (Str.ofString "__next__") tk) fill expr) Q E ⟨h, g, d, t, os⟩ := by
  have hT : (⟨h, g, d, t, os⟩ : Shared).TypeIs (.ref a) "list_iterator" := ⟨_, hx, rfl⟩
  have f2 := slot_li_ga.lookup
  have f3 := slot_li_ga.bind (.ref a)
  have hx0 : (expr && onTheHeap (Value.builtin "object.__getattribute__")) = false := by cases expr <;> rfl
  repeat (any_goals (first | assumption | wp_step))
  refine next_call hx ?_
  repeat (any_goals (first | assumption | wp_step))
theorem next_attr {vs : Array Value} {expr : Bool} {Q : Value → Shared → Prop} (hx : h.get? a = some { cls := .type "list_iterator", data := .fields vs }) (hq : Q (.ref h.objs.size) ⟨h.push (nextObj a), g, d, t + 1, os⟩) :
    wpAny (model prog w) A (getAttr (.ref a) (Str.ofString "__next__") expr) Q E ⟨h, g, d, t, os⟩ := by
  unfold getAttr
  repeat (any_goals (first | assumption | with_reducible apply next_by hx | wp_step))
end
section
variable {prog : Program} {w : World} {A : Around} {E : Value → Shared → Prop} {s : Shared} {b : Heap} {L l a : Addr} {m : Str → Option Value} {led : Led}
noncomputable abbrev iterObj (l : Addr) (i : Nat) : Obj := { cls := .type "list_iterator", data := .fields #[.ref l, .int i 0] }
theorem li_iter {its : Array Value} {n : Nat} {Q : Value → Shared → Prop} (F : Fr b L s.heap m) (N : News b L s.heap led) (hl : (l, listOf its n) ∈ led)
    (h : ∀ (I : Addr) h', Fr b L h' m → News b L h' ((I, iterObj l 0) :: led) → (∀ p ∈ led, p.1 < I) → Q (.ref I) { s with heap := h' }) :
    wpAny (model prog w) A (call (.builtin "iter") [.ref l]) Q E s := by
  refine PySem.Calls.call_function_entry (by decide +kernel) (by decide +kernel) kdk_entry_iter (kdk_args_iter _) ?_
  unfold Builtin.«iter»
  refine wpAny_bind (m := someArgs "iter" 1 2 _) (wpAny_of_eq (a := [Value.ref l]) (by first | rfl | kernel_rfl!) ?_)
  show wpAny _ _ (pyIter (.ref l) >>= _) _ _ _
  refine wpAny_bind (wpAny_pyIter_list (items := its) ⟨_, (N _ hl).1, rfl, _, rfl⟩ ?_)
  exact wpAny_pure ⟨_, rfl, h _ _ (F.push _) (News.push F N _ rfl) (fun q hq => Heap.lt_size (N q hq).1)⟩
theorem li_next {vs : Array Value} {expr : Bool} {Q : Value → Shared → Prop} (F : Fr b L s.heap m) (N : News b L s.heap led) (hl : (a, ({ cls := .type "list_iterator", data := .fields vs } : Obj)) ∈ led)
    (h : ∀ (q : Addr) h', Fr b L h' m → News b L h' ((q, nextObj a) :: led) → (∀ p ∈ led, p.1 < q) → Q (.ref q) { s with heap := h', toks := s.toks + 1 }) :
    wpAny (model prog w) A (getAttr (.ref a) (Str.ofString "__next__") expr) Q E s := by
  obtain ⟨hp, g, d, t, os⟩ := s
  exact next_attr (N _ hl).1 (h _ _ (F.push _) (News.push F N _ rfl) (fun q hq => Heap.lt_size (N q hq).1))
end

theorem rst_IterCall : True := by
  w_top off
  trivial
section
variable {prog : Program} {w : World} {M : Model} {A : Around} {E : Value → Shared → Prop} {s : Shared} {b : Heap} {L l q it : Addr} {m : Str → Option Value} {led : Led}
theorem nx_check {x : Value} : checkBoundCall "list_iterator.__next__" ⟨[x], []⟩ = pure () := by first | kernel_rfl | rfl
theorem nx_quiet {as : Args} : (Code.builtin "list_iterator.__next__" as).quiet = true := Code.quiet_builtin _ (by decide +kernel)
theorem nx_callWith {pos : Pos} {env : Env} {Q : Value → Shared → Prop} (N : News b L s.heap led) (hm : (q, nextObj it) ∈ led) (h : wpAny M A (call (.ref q) []) Q E s) :
    wpAny M A (callWith pos (.ref q) [] (backTo pos (starEach [] env)) []) Q E s := by
  unfold callWith
  refine wpAny_bind (wpAny_holding ?_)
  refine wpAny_of_eq (a := (⟨[], []⟩ : Args)) (by first | rfl | kernel_rfl!) ?_
  refine wpAny_bind (wpAny_standAt ?_)
  refine wpAny_bind (m := keeperOf (.ref q)) ?_
  unfold keeperOf
  refine wpAny_bind (wpAny_load (N _ hm).1 ?_)
  simp only [show (Value.type "method-wrapper" != Value.type "method") = true by decide, show (Value.type "method-wrapper" == Value.type "builtin_function_or_method" || Value.type "method-wrapper" == Value.type "method-wrapper") = true by decide, if_true]
  refine wpAny_pure ?_
  exact wpAny_bind (wpAny_mono h (fun r s₂ hr => wpAny_bind (wpAny_holding (wpAny_point (wpAny_pure hr)))) fun _ _ x => x)
theorem nx_enter {Q : Value → Shared → Prop} (hq : s.heap.get? q = some (nextObj it)) (h : wpAny (model prog w) A.in1 (Builtin.«list_iterator.__next__» ⟨[.ref it], []⟩) (fun fin s' => ∃ v, fin = Fin.done (Flow.ret v) ∧ Q v s') E s) :
    wpAny (model prog w) A (call (.ref q) []) Q E s := by
  refine wpAny_call (codeAny_of_tree ?_)
  show wpAny _ A.in1 (callAny (.ref q) ⟨[], []⟩) _ _ s
  simp only [callAny]
  refine wpAny_bind (wpAny_load hq ?_)
  simp only [show (Value.type "method-wrapper" == Value.type "method" || Value.type "method-wrapper" == Value.type "builtin_function_or_method" || Value.type "method-wrapper" == Value.type "method-wrapper") = true by decide, if_true]
  refine KFB.if_so (by decide) ?_
  refine wpAny_bind (wpAny_of_eq (a := ()) nx_check ?_)
  refine wpAny_bind (wpAny_pure (wpAny_pure ?_))
  refine ⟨nx_quiet, codeAny_builtin entry_listiter_next ?_⟩
  refine wpAny_mono h (fun fin s' hf => ?_) fun _ _ x => x
  obtain ⟨v, rfl, hv⟩ := hf
  exact hv
theorem nx_item {its : Array Value} {n i : Nat} {v : Value} {Q : Value → Shared → Prop} (F : Fr b L s.heap m) (N : News b L s.heap led) (hm : (q, nextObj it) ∈ led) (hi : (it, iterObj l i) ∈ led) (hl : (l, listOf its n) ∈ led) (hv : its[i]? = some v)
    (h : ∀ h', Fr b L h' m → News b L h' (upd led it (iterObj l (i + 1))) → Q v { s with heap := h' }) : wpAny (model prog w) A (call (.ref q) []) Q E s := by
  refine nx_enter (N _ hm).1 ?_
  have ho := (N _ hi).1
  have hol := (N _ hl).1
  show wpAny _ _ (field (.ref it) 0 >>= _) _ _ s
  refine wpAny_bind (wpAny_field ho rfl (x := .ref l) rfl ?_)
  show wpAny _ _ (if (Value.ref l == Value.none) = true then _ else _) _ _ s
  rw [if_neg (show ¬ ((Value.ref l == Value.none) = true) from Bool.false_ne_true)]
  show wpAny _ _ (field (.ref it) 1 >>= _) _ _ s
  refine wpAny_bind (wpAny_field ho rfl (x := .int i 0) rfl ?_)
  show wpAny _ _ (seqItems? (.ref l) >>= _) _ _ s
  refine wpAny_bind (wpAny_seqItems hol rfl ?_)
  simp only [Int.toNat_natCast, hv]
  have hs : Heap.SameBut it s.heap (s.heap.update it (Obj.mapFields (·.setIfInBounds 1 (rawInt (i + 1))))) := Heap.SameBut.update ..
  refine wpAny_bind (wpAny_setField ho rfl (by simp) (wpAny_pure ⟨v, rfl, h _ (fr_upd F N hi hs) (news_upd N hi hs (Heap.get?_update_self _ ho rfl))⟩))
theorem nx_end {its : Array Value} {n i : Nat} {Q : Value → Shared → Prop} (hh : A.handled = none) (F : Fr b L s.heap m) (N : News b L s.heap led) (hm : (q, nextObj it) ∈ led) (hi : (it, iterObj l i) ∈ led) (hl : (l, listOf its n) ∈ led) (hv : its[i]? = none)
    (h : ∀ h₁ h' e o, o.cls = .type "list_iterator" → Fr b L h₁ m → News b L h₁ (upd led it o) → Heap.NewExc h₁ h' e "StopIteration" → E (.ref e) { s with heap := h' }) : wpAny (model prog w) A (call (.ref q) []) Q E s := by
  refine nx_enter (N _ hm).1 ?_
  have ho := (N _ hi).1
  have hol := (N _ hl).1
  show wpAny _ _ (field (.ref it) 0 >>= _) _ _ s
  refine wpAny_bind (wpAny_field ho rfl (x := .ref l) rfl ?_)
  show wpAny _ _ (if (Value.ref l == Value.none) = true then _ else _) _ _ s
  rw [if_neg (show ¬ ((Value.ref l == Value.none) = true) from Bool.false_ne_true)]
  show wpAny _ _ (field (.ref it) 1 >>= _) _ _ s
  refine wpAny_bind (wpAny_field ho rfl (x := .int i 0) rfl ?_)
  show wpAny _ _ (seqItems? (.ref l) >>= _) _ _ s
  refine wpAny_bind (wpAny_seqItems hol rfl ?_)
  simp only [Int.toNat_natCast, hv]
  have hs : ∀ f, Heap.SameBut it s.heap (s.heap.update it f) := fun f => Heap.SameBut.update ..
  refine wpAny_bind (wpAny_rule (wpAny_bind (wpAny_setField ho rfl (by simp) ?_)))
  show wpAny _ _ (newExc (.type "StopIteration") [] >>= _) _ _ _
  refine wpAny_bind ?_
  simp only [newExc, newTuple]
  refine wpAny_bind (wpAny_newObj_type ?_ (by size_fits))
  refine wpAny_bind (m := firstArgMember _ _) (wpAny_of_eq (a := Value.none) (by first | rfl | (simp only [firstArgMember]; rfl)) ?_)
  refine wpAny_newObj_type ?_ (by size_fits)
  simp only [raiseNew]
  refine wpAny_bind (wpAny_handled ?_)
  rw [show A.in1.handled = none from hh]
  refine wpAny_bind (wpAny_pure (wpAny_throw ?_))
  refine h _ _ _ _ ?_ (fr_upd F N hi (hs _)) (news_upd N hi (hs _) (Heap.get?_update_self _ ho rfl)) ⟨fun c o' e => Heap.get?_push_of_some _ (Heap.get?_push_of_some _ e), ?_, ⟨_, _, Heap.get?_push_size _ rfl, rfl, rfl⟩⟩
  · rfl
  · refine Heap.get?_none_of_le ?_
    rw [Heap.size_push]; exact Nat.le_succ _
end

theorem rst_Turn : True := by
  w_top off
  trivial
noncomputable def NewsG (g h : Heap) (led : Led) : Prop := ∀ p ∈ led, h.get? p.1 = some p.2 ∧ g.get? p.1 = none
/-- a contract whose call may note the frames below it: they stand in the ledger, up to their slots -/
noncomputable abbrev SpecT (w : World) (k : Nat) (f : Addr) (args : List Value) (Pre : Led → Prop) (Post : Led → Value → Led → Prop) : Prop :=
  ∀ (p : Program) (loose : List Str) (mean : ExcName → Option Value) (mg mb : Str → Option Value) (A : Around) (l : List Env) (g : Heap) (s : Shared) (frs led : Led) (R : Result → Shared → Prop),
    A.handled = none → A.frames = some l → A.depth + k < recursionLimit → A.units + 16 * k < cLine →
    TI.Frs l frs → g.StaysIn s.heap → g.objs.size ≤ s.heap.objs.size → (hd.heap_1 w.params).In g → Top p loose mean mg mb g → NewsG g s.heap (led ++ frs) → NDL (led ++ frs) → Pre led →
    (∀ v h' tk' led' frs', TI.SameUp frs frs' → g.StaysIn h' → NewsG g h' (led' ++ frs') → NDL (led' ++ frs') → Post led v led' → R (.ok (.ret v)) { s with heap := h', toks := tk' }) →
    codeAny (model P w) A (.call (.ref f) ⟨args, []⟩) R s
theorem sameUp_keys : ∀ {a b : Led}, TI.SameUp a b → b.map (·.1) = a.map (·.1)
  | [], [], _ => rfl
  | _ :: _, _ :: _, ⟨e, _, r⟩ => by rw [List.map_cons, List.map_cons, e, sameUp_keys r]
  | [], _ :: _, h => h.elim
  | _ :: _, [], h => h.elim
theorem NDL.sameUp {led a b : Led} (h : NDL (led ++ a)) (u : TI.SameUp a b) : NDL (led ++ b) := by
  unfold NDL at h ⊢; rw [List.map_append, sameUp_keys u, ← List.map_append]; exact h
theorem sameUp_head {L : Addr} {o : Obj} {frs b : Led} (u : TI.SameUp ((L, o) :: frs) b) : ∃ sl frs', b = (L, { o with slots := sl }) :: frs' ∧ TI.SameUp frs frs' := by
  cases b with
  | nil => exact u.elim
  | cons q r =>
    obtain ⟨e, ⟨sl, e2⟩, u'⟩ := u
    obtain ⟨a, c⟩ := q
    simp only at e e2
    subst e; subst e2
    exact ⟨sl, r, rfl, u'⟩
theorem NDL.insert {led frs : Led} {q : Addr × Obj} (h : NDL (led ++ frs)) (hn : ∀ p ∈ led ++ frs, p.1 ≠ q.1) : NDL (led ++ q :: frs) := by
  unfold NDL at h ⊢
  have : ((led ++ q :: frs).map (·.1)).Perm ((q :: (led ++ frs)).map (·.1)) := (List.perm_middle).map _
  rw [this.nodup_iff, List.map_cons, List.nodup_cons]
  exact ⟨fun hm => let ⟨p, hp, e⟩ := List.mem_map.mp hm; hn p hp e, h⟩
theorem NDL.drop {led frs : Led} {q : Addr × Obj} (h : NDL (led ++ q :: frs)) : NDL (led ++ frs) ∧ ∀ p ∈ led ++ frs, p.1 ≠ q.1 := by
  have hp : (led ++ q :: frs).Perm (q :: (led ++ frs)) := List.perm_middle
  unfold NDL at h ⊢
  rw [(hp.map (·.1)).nodup_iff, List.map_cons, List.nodup_cons] at h
  exact ⟨h.2, fun p hp e => h.1 (List.mem_map.mpr ⟨p, hp, e⟩)⟩
theorem SpecT.use {w : World} {k : Nat} {f : Addr} {args : List Value} {Pre : Led → Prop} {Post : Led → Value → Led → Prop} (S : SpecT w k f args Pre Post)
    {p : Program} {loose : List Str} {mean : ExcName → Option Value} {mg mb : Str → Option Value} {A : Around} {env' : Env} {l : List Env} {g : Heap} {L : Addr} {m : Str → Option Value} {s : Shared} {led frs : Led} {Q E : Value → Shared → Prop}
    (hh : A.handled = none) (hA : A.frames = some l) (hf : env'.frame = some L) (hke : env'.scope.kind = .function) (hdp : A.depth + 1 + k < recursionLimit) (hu : A.units + 3 + 16 * k < cLine)
    (Fs : TI.Frs l frs) (F : Fr g L s.heap m) (X : (hd.heap_1 w.params).In g) (N : News g L s.heap (led ++ frs)) (ND : NDL (led ++ frs)) (T : Top p loose mean mg mb g) (pre : Pre led)
    (ret : ∀ v h' tk' led' frs', TI.SameUp frs frs' → Fr g L h' m → News g L h' (led' ++ frs') → NDL (led' ++ frs') → Post led v led' → Q v { s with heap := h', toks := tk' }) :
    wpAny (model P w) (A.deeper env') (call (.ref f) args) Q E s := by
  obtain ⟨oL, es, ep, hL, hLd, hLk, hLf⟩ := F.ns
  have gL : g.get? L = none := kts_self F
  refine wpAny_call (S p loose mean mg mb (A.deeper env') (env' :: l) g s ((L, oL) :: frs) led _ hh (Around.frames_deeper hA) hdp hu ⟨by rw [hke]; decide, hf, ⟨es, ep, hLd⟩, Fs⟩ F.keep (Nat.le_trans F.above (Nat.le_of_lt F.ns.lt)) X T ?_ (ND.insert fun q hq => (N q hq).2.1) pre ?_)
  · intro q hq
    rcases List.mem_append.mp hq with hq | hq
    · have := N q (List.mem_append_left _ hq); exact ⟨this.1, this.2.2⟩
    · rcases List.mem_cons.mp hq with rfl | hq
      · exact ⟨hL, gL⟩
      · have := N q (List.mem_append_right _ hq); exact ⟨this.1, this.2.2⟩
  · intro v h' tk' led' frs' su st N' ND' post
    obtain ⟨sl, frs1, rfl, su'⟩ := sameUp_head su
    obtain ⟨nd1, nd2⟩ := ND'.drop
    have hL' := (N' _ (List.mem_append_right _ List.mem_cons_self)).1
    refine ret v h' tk' led' frs1 su' ⟨⟨_, es, ep, hL', hLd, hLk, hLf⟩, st, F.above⟩ (fun q hq => ?_) nd1 post
    have hq' : q ∈ led' ++ (L, { oL with slots := sl }) :: frs1 := by
      rcases List.mem_append.mp hq with h | h
      · exact List.mem_append_left _ h
      · exact List.mem_append_right _ (List.mem_cons_of_mem _ h)
    exact ⟨(N' q hq').1, nd2 q hq, (N' q hq').2⟩
section
variable {prog : Program} {w : World} {A : Around} {s : Shared} {g : Heap} {l : List Env} {K : Frag} {led frs : Led}
  {p : Program} {loose : List Str} {mean : ExcName → Option Value} {mg mb : Str → Option Value}
  {R : Result → Shared → Prop} {name qual : Str} {params : Arguments} {body : List Stmt} {scope : Scope} {dV kV doc pm cdv ct oc : Value} {an od : Option Addr} {osl : Array (Option Value)} {f : Addr} {args : Args} {binds : List (Str × Value)}
theorem enterT (st : g.StaysIn s.heap) (hsz : g.objs.size ≤ s.heap.objs.size) (X : K.In g) (T : Top p loose mean mg mb g) (N : NewsG g s.heap (led ++ frs))
    (ho : K.lookup f = some ⟨oc, od, .func (fnOf name qual params body scope dV kV doc pm an cdv ct), osl⟩) (hcd : codeIn K cdv qual = true) (hroom : A.depth < recursionLimit)
    (hbind : BindsTo s (fnOf name qual params body scope dV kV doc pm an cdv ct) args binds) (hloc : ∀ y ∈ binds, scope.names.lookup y.1 = some .local)
    (h : ∀ L' h₁, Fr g L' h₁ (fun y => binds.reverse.lookup y) → News g L' h₁ (led ++ frs) → (∀ q ∈ led ++ frs, q.1 < L') →
      wpAny (model prog w) (A.deeper (envOf qual scope L' f cdv)) (execs body (envOf qual scope L' f cdv))
        (fun fl s' => R (.ok (.ret (match fl with | .ret v => v | _ => .none))) s')
        (fun e s' => wpAny (model prog w) (A.deeper (envOf qual scope L' f cdv)) (leaving (envOf qual scope L' f cdv) e) (fun _ s'' => R (.error e) s'') (fun e' s'' => R (.error e') s'') s')
        { s with heap := h₁, toks := s.toks + binds.length })
    (hco : scope.isCoroutine = false) (hgen : scope.isGenerator = false) (hk : scope.kind = .function)
    (hcell : ∀ x ∈ scope.names, x.2 ≠ .cell) : codeAny (model prog w) A (.call (.ref f) args) R s := by
  have X' : K.In s.heap := X.keeps st
  refine codeAny_call_def (fd := fnOf name qual params body scope dV kV doc pm an cdv ct) (body := body) (binds := binds) hroom (X' _ _ ho) rfl (T.nolimit.keeps st) (codeRec_of X' hcd) rfl hbind hcell hloc (fun h₁ hns hk₁ => ?_) hco hgen hk
  exact h _ _ ⟨hns, fun b o e => hk₁ b o (st b o e), hsz⟩ (fun q hq => ⟨hk₁ _ _ (N q hq).1, Nat.ne_of_lt (Heap.lt_size (N q hq).1), (N q hq).2⟩) fun q hq => Heap.lt_size (N q hq).1
theorem caughtT {L a e : Addr} {m : Str → Option Value} {cd : Value} {b₀ : Stmt} {suite : List Stmt} {pos np : Pos} {rest : List ExceptHandler} {Q : Flow → Shared → Prop} {E : Value → Shared → Prop} {h : Heap} {x : Str} {Xc T' : String}
    (hfr : A.frames = some l) (Fs : TI.Frs l frs) (hx : Heap.NewExc h s.heap e Xc) (F : Fr g L h m) (N : News g L h (led ++ frs)) (ND : NDL (led ++ frs)) (X : K.In g) (T : Top p loose mean mg mb g)
    (ex : nsIn K mainGlobals x = some none) (hv : bootBuiltins x = some (.type T')) (hn' : x ≠ "__name__")
    (hexc : isSubtype (.type T') (.type "BaseException") = pure true) (hnt : isSubtype (.type ((Manifest.find? T').elim "type" fun y => y.metatype)) (.type "tuple") = pure false) (hsub : isSubtype (.type Xc) (.type T') = pure true)
    (k : ∀ h' frs', TI.SameUp frs frs' → TI.Frs l frs' → Fr g L h' m → News g L h' (led ++ frs') → NDL (led ++ frs') →
      wpAny (model prog w) ((A.deeper (envOf name scope L a cd)).mark (some (.ref e))) (execs (b₀ :: suite) (envOf name scope L a cd)) Q (fun _ _ => False) { s with heap := h' })
    (hk : scope.kind = .function := by rfl) (hxk : (envOf name scope L a cd).kindOf x = some .globalImplicit := by rfl) (hdb : (x == ("__debug__" : Str)) = false := by decide) :
    wpAny (model prog w) (A.deeper (envOf name scope L a cd)) (noteFrame (.ref e) (envOf name scope L a cd))
      (fun _ s₂ => wpAny (model prog w) (A.deeper (envOf name scope L a cd)) (setFlight (.ref e) none) (fun _ s₃ =>
        wpAny (model prog w) (A.deeper (envOf name scope L a cd)) (handleBy (.ref e) (envOf name scope L a cd) (.ExceptHandler (some (.Name x np)) none (b₀ :: suite) pos :: rest)) Q E s₃) E s₂) E s := by
  have hap : ∀ q ∈ led, q.1 ∉ L :: frs.map (·.1) := fun q hq hm => by
    rcases List.mem_cons.mp hm with e | hm
    · exact (N q (List.mem_append_left _ hq)).2.1 e
    · unfold NDL at ND; rw [List.map_append, List.nodup_append] at ND
      exact ND.2.2 _ (List.mem_map_of_mem hq) _ hm rfl
  refine TLg.noted_newA hfr Fs hx F N hap (fun h1 frs1 su1 Fs1 H1 => ?_) hk
  refine TT.HeldNA.land H1 fun h2 H2 => ?_
  refine wpAny_handleBy_builtin (X := Xc) (T := T') (b := true) hexc hnt hsub (name_B H2.held.fr X (topRead_of T) ex hv hn' ⟨rfl, H2.isA, ?_⟩ hk hxk hdb)
  rw [if_pos rfl]
  refine TT.HeldNA.lands H2 fun h3 F3 N3 => ?_
  exact wpAny_mono (k h3 frs1 su1 Fs1 F3 N3 (ND.sameUp su1)) (fun _ _ q => q) fun _ _ f => f.elim
end
theorem news_sub' {b h : Heap} {L : Addr} {l l' : Led} (N : News b L h l) (k : ∀ p ∈ l', p ∈ l) : News b L h l' := fun p hp => N p (k p hp)
theorem split_frs {cur f : Led} (ND : NDL cur) (hs : ∀ q ∈ f, q ∈ cur) (hf : NDL f) :
    ∃ new, NDL (new ++ f) ∧ (∀ q ∈ new ++ f, q ∈ cur) ∧ ∀ q ∈ cur, q.1 ∉ f.map (·.1) → q ∈ new := by
  refine ⟨cur.filter fun q => decide (q.1 ∉ f.map (·.1)), ?_, fun q hq => ?_, fun q hq hn => List.mem_filter.mpr ⟨hq, by simpa using hn⟩⟩
  · unfold NDL at ND hf ⊢
    rw [List.map_append, List.nodup_append]
    refine ⟨List.Nodup.sublist (List.Sublist.map _ List.filter_sublist) ND, hf, fun a ha b hb e => ?_⟩
    obtain ⟨q, hq, rfl⟩ := List.mem_map.mp ha
    have := (List.mem_filter.mp hq).2
    rw [decide_eq_true_eq] at this
    exact this (e ▸ hb)
  · rcases List.mem_append.mp hq with h | h
    · exact (List.mem_filter.mp h).1
    · exact hs q h
theorem caughtL {prog : Program} {w : World} {A : Around} {s : Shared} {g : Heap} {l : List Env} {K : Frag} {cur frs : Led}
    {p : Program} {loose : List Str} {mean : ExcName → Option Value} {mg mb : Str → Option Value} {name : Str} {scope : Scope} {L a e : Addr} {m : Str → Option Value} {cd : Value} {b₀ : Stmt} {suite : List Stmt} {pos np : Pos} {rest : List ExceptHandler} {Q : Flow → Shared → Prop} {E : Value → Shared → Prop} {h : Heap} {x : Str} {Xc T' : String}
    (hfr : A.frames = some l) (Fs : TI.Frs l frs) (NDf : NDL frs) (hx : Heap.NewExc h s.heap e Xc) (F : Fr g L h m) (N : News g L h cur) (ND : NDL cur) (hf : ∃ f, TI.SameUp frs f ∧ ∀ q ∈ f, q ∈ cur) (X : K.In g) (T : Top p loose mean mg mb g)
    (ex : nsIn K mainGlobals x = some none) (hv : bootBuiltins x = some (.type T')) (hn' : x ≠ "__name__")
    (hexc : isSubtype (.type T') (.type "BaseException") = pure true) (hnt : isSubtype (.type ((Manifest.find? T').elim "type" fun y => y.metatype)) (.type "tuple") = pure false) (hsub : isSubtype (.type Xc) (.type T') = pure true)
    (k : ∀ h' led', (∃ f, TI.SameUp frs f ∧ ∀ q ∈ f, q ∈ led') → Keep (frs.map (·.1)) cur led' → Fr g L h' m → News g L h' led' → NDL led' →
      wpAny (model prog w) ((A.deeper (envOf name scope L a cd)).mark (some (.ref e))) (execs (b₀ :: suite) (envOf name scope L a cd)) Q (fun _ _ => False) { s with heap := h' })
    (hk : scope.kind = .function := by rfl) (hxk : (envOf name scope L a cd).kindOf x = some .globalImplicit := by rfl) (hdb : (x == ("__debug__" : Str)) = false := by decide) :
    wpAny (model prog w) (A.deeper (envOf name scope L a cd)) (noteFrame (.ref e) (envOf name scope L a cd))
      (fun _ s₂ => wpAny (model prog w) (A.deeper (envOf name scope L a cd)) (setFlight (.ref e) none) (fun _ s₃ =>
        wpAny (model prog w) (A.deeper (envOf name scope L a cd)) (handleBy (.ref e) (envOf name scope L a cd) (.ExceptHandler (some (.Name x np)) none (b₀ :: suite) pos :: rest)) Q E s₃) E s₂) E s := by
  obtain ⟨f, su, hs⟩ := hf
  have NDf' : NDL f := by unfold NDL at NDf ⊢; rw [sameUp_keys su]; exact NDf
  obtain ⟨new, n1, n2, n3⟩ := split_frs ND hs NDf'
  refine caughtT hfr (Fs.up su) hx F (news_sub' N n2) n1 X T ex hv hn' hexc hnt hsub (fun h' f' su' _ F' N' ND' => ?_) hk hxk hdb
  refine k h' _ ⟨f', su.trans su', fun q hq => List.mem_append_right _ hq⟩ (fun q hq hn => List.mem_append_left _ (n3 q hq (by rw [sameUp_keys su]; exact hn))) F' N' ND'
/-- the end of a walk whose frames stand in the ledger -/
theorem endT {g h' : Heap} {L : Addr} {cur frs led0 : Led} (N : News g L h' cur) (ND : NDL cur) (hf : ∃ f, TI.SameUp frs f ∧ ∀ q ∈ f, q ∈ cur) (ND0 : NDL (led0 ++ frs)) :
    ∃ new f, TI.SameUp frs f ∧ NewsG g h' (new ++ f) ∧ NDL (new ++ f) ∧ (∀ q ∈ led0, q ∈ cur → q ∈ new) ∧ (∀ q ∈ cur, q.1 ∉ frs.map (·.1) → q ∈ new) ∧ ∀ q ∈ new, q ∈ cur := by
  obtain ⟨f, su, hs⟩ := hf
  have nd0 : NDL frs ∧ ∀ q ∈ led0, q.1 ∉ frs.map (·.1) := by
    unfold NDL at ND0 ⊢; rw [List.map_append, List.nodup_append] at ND0
    exact ⟨ND0.2.1, fun q hq hm => ND0.2.2 _ (List.mem_map_of_mem hq) _ hm rfl⟩
  have NDf : NDL f := by have := nd0.1; unfold NDL at this ⊢; rw [sameUp_keys su]; exact this
  obtain ⟨new, n1, n2, n3⟩ := split_frs ND hs NDf
  exact ⟨new, f, su, fun q hq => ⟨(N q (n2 q hq)).1, (N q (n2 q hq)).2.2⟩, n1, fun q hq hc => n3 q hc (by rw [sameUp_keys su]; exact nd0.2 q hq), fun q hq hn => n3 q hq (by rw [sameUp_keys su]; exact hn), fun q hq => n2 q (List.mem_append_left _ hq)⟩
theorem notFrm {l : List Env} {frs cur : Led} {a : Addr} {o : Obj} (Fs : TI.Frs l frs) (hf : ∃ f, TI.SameUp frs f ∧ ∀ q ∈ f, q ∈ cur) (ND : NDL cur) (hm : (a, o) ∈ cur) (hd : ∀ es n, o.data ≠ .dict es n) : a ∉ frs.map (·.1) := by
  obtain ⟨f, su, hs⟩ := hf
  rw [← sameUp_keys su]
  intro h
  obtain ⟨q, hq, rfl⟩ := List.mem_map.mp h
  obtain ⟨es, n, e⟩ := (Fs.up su).dict q hq
  exact hd es n (ND.eq hm (hs q hq) ▸ e)

theorem rst_Fly : True := by
  w_top off
  trivial
/-- an exception of an own class on its way out, the frames below in the ledger -/
noncomputable def FlyT (g : Heap) (l : List Env) (frs led : Led) (e C : Addr) (h : Heap) : Prop :=
  ∃ B t frs', TI.SameUp frs frs' ∧ Heap.FlyingW B l e (.ref C) (.ref t) h ∧ g.StaysIn B ∧ (∀ q ∈ led, B.get? q.1 = some q.2) ∧ NewsG g h (led ++ frs') ∧ NDL (led ++ frs')
section
variable {prog : Program} {w : World} {A : Around} {E : Value → Shared → Prop} {s' : Shared} {g h : Heap} {L a e C : Addr} {m : Str → Option Value} {name : Str} {scope : Scope} {cd : Value} {l : List Env} {frs led : Led}
theorem leaveT {Q : Unit → Shared → Prop} {vs : List Value} (hfr : A.frames = some l) (Fs : TI.Frs l frs) (hx : Heap.MadeExcOf h s'.heap e (.ref C) vs) (F : Fr g L h m) (N : News g L h (led ++ frs)) (ND : NDL (led ++ frs))
    (k : ∀ h', FlyT g l frs led e C h' → Q () { s' with heap := h' }) (hk : scope.kind = .function := by rfl) :
    wpAny (model prog w) (A.deeper (envOf name scope L a cd)) (leaving (envOf name scope L a cd) (.ref e)) Q E s' := by
  have hap : ∀ q ∈ led, q.1 ∉ L :: frs.map (·.1) := fun q hq hm => by
    rcases List.mem_cons.mp hm with e | hm
    · exact (N q (List.mem_append_left _ hq)).2.1 e
    · unfold NDL at ND; rw [List.map_append, List.nodup_append] at ND
      exact ND.2.2 _ (List.mem_map_of_mem hq) _ hm rfl
  obtain ⟨hff, hNs, frs₁, SU, ht⟩ := TI.frames_at (name := name) (a := a) (cd := cd) (h' := h) (base := TI.gone h (L :: frs.map (·.1))) hk Fs F N TI.tail_sub (fun b o hb' => ⟨o.slots, hb'⟩) fun b hm => TI.gone_none hm
  refine wpAny_leaves_madeW (Around.frames_deeper hfr) rfl (fun b o eb => (TI.gone_some eb).2) hff hx fun h' t x1 x2 x3 x4 => ?_
  obtain ⟨frs₂, SU₂, ht₂⟩ := TI.sameUp_of (h' := h') (frs := frs) fun p hp => x4 p.1 p.2 (hx.keeps _ _ (N p (List.mem_append_right _ hp)).1) fun vs q => by
    obtain ⟨es, ep, hd⟩ := Fs.dict p hp
    rw [hd] at q; cases q
  have hB : ∀ q ∈ led, (TI.gone h (L :: frs.map (·.1))).get? q.1 = some q.2 := fun q hq => (TI.gone_get (hap q hq)).trans (N q (List.mem_append_left _ hq)).1
  refine k h' ⟨_, t, frs₂, SU₂, x1, fun b o ho => (TI.gone_get (TI.base_apart F N TI.tail_sub ho)).trans (F.keep b o ho), hB, fun q hq => ?_, ND.sameUp SU₂⟩
  rcases List.mem_append.mp hq with hq | hq
  · exact ⟨x1.1 _ _ (hB q hq), (N q (List.mem_append_left _ hq)).2.2⟩
  · obtain ⟨x, hx, q'⟩ := SU₂.fwd q hq
    exact ⟨ht₂ q hq, by rw [q']; exact (N x (List.mem_append_right _ hx)).2.2⟩
theorem catchT {K : Frag} {p : Program} {loose : List Str} {mean : ExcName → Option Value} {mg mb : Str → Option Value} {oL : Obj} {b₀ : Stmt} {suite : List Stmt} {pos np : Pos} {rest : List ExceptHandler} {Q : Flow → Shared → Prop} {x : Str} {h0 : Heap}
    (hfr : A.frames = some l) (Fs : TI.Frs l frs) (Fl : FlyT g (envOf name scope L a cd :: l) ((L, oL) :: frs) led e C s'.heap) (F0 : Fr g L h0 m) (hL0 : h0.get? L = some oL) (X : K.In g) (T : Top p loose mean mg mb g)
    (ex : nsIn K mainGlobals x = some (some (.ref C))) (q : ktsIn K C "BaseException" = true)
    (k : ∀ h' frs', TI.SameUp frs frs' → Fr g L h' m → News g L h' (led ++ frs') → NDL (led ++ frs') →
      wpAny (model prog w) ((A.deeper (envOf name scope L a cd)).mark (some (.ref e))) (execs (b₀ :: suite) (envOf name scope L a cd)) Q (fun _ _ => False) { s' with heap := h' })
    (hk : scope.kind = .function := by rfl) (hxk : (envOf name scope L a cd).kindOf x = some .globalImplicit := by rfl) (hdb : (x == ("__debug__" : Str)) = false := by decide) :
    wpAny (model prog w) (A.deeper (envOf name scope L a cd)) (noteFrame (.ref e) (envOf name scope L a cd))
      (fun _ s₂ => wpAny (model prog w) (A.deeper (envOf name scope L a cd)) (setFlight (.ref e) none) (fun _ s₃ =>
        wpAny (model prog w) (A.deeper (envOf name scope L a cd)) (handleBy (.ref e) (envOf name scope L a cd) (.ExceptHandler (some (.Name x np)) none (b₀ :: suite) pos :: rest)) Q E s₃) E s₂) E s' := by
  obtain ⟨B, t, frs', SU, hfl, hgB, hled, hN, hND⟩ := Fl
  obtain ⟨sl, frs1, rfl, su'⟩ := sameUp_head SU
  obtain ⟨nd1, nd2⟩ := hND.drop
  obtain ⟨oL', es, ep, hL, hLd, hLk, hLf⟩ := F0.ns
  rw [hL0] at hL; cases hL
  have hLh := (hN _ (List.mem_append_right _ List.mem_cons_self)).1
  have frAt : ∀ h', B.StaysIn h' → s'.heap.UpToSlots h' → Fr g L h' m := fun h' kb sm =>
    ⟨Heap.UpToSlots.ns sm ⟨_, es, ep, hLh, hLd, hLk, hLf⟩, fun b o ho => kb b o (hgB b o ho), F0.above⟩
  refine wpAny_looks_onW (Around.frames_deeper hfr) rfl hfl fun h₄ hheld₄ hsm₄ => ?_
  refine wpAny_landsW hheld₄ fun h₅ hheld hsm₅' => ?_
  have hsm₅ := hsm₄.trans hsm₅'
  have F₅ := frAt h₅ hheld.1 hsm₅
  obtain ⟨ob, hob, hobc⟩ := hheld.there
  obtain ⟨nm, q', N, bs, bm, hdct, sn, sub, ab, col, dd, k0, k1, k2, k3, k5, newId, hC, hbase, hbT⟩ := kts_cls X q
  have hC₅ := F₅.keep _ _ hC
  refine wpAny_handleBy_cons (codeAny_handlers_test (name_K F₅ X (topRead_of T) ex ?_ hk hxk hdb)) (by intro q; cases q)
  refine wpAny_excMatches_sub_self hC₅ hob hobc hbase (codeAny_handlers_suite ?_)
  refine lands_againW hheld fun h₆ hfl₆ hsm₆ => ?_
  have hsm := hsm₅.trans hsm₆
  obtain ⟨frs₂, SU₂, ht₂⟩ := TI.sameUp_of (h' := h₆) (frs := frs1) fun p hp => by
    have h1 := (hN p (List.mem_append_right _ (List.mem_cons_of_mem _ hp))).1
    refine hsm p.1 p.2 h1 fun vs hv => ?_
    obtain ⟨es', ep', hd'⟩ := (Fs.up su').dict p hp
    rw [hd'] at hv; cases hv
  refine wpAny_mono (k h₆ frs₂ (su'.trans SU₂) (frAt h₆ hfl₆.1 hsm) (fun r hr => ?_) (nd1.sameUp SU₂)) (fun _ _ q => q) fun _ _ f => f.elim
  rcases List.mem_append.mp hr with hr | hr
  · exact ⟨hfl₆.1 _ _ (hled r hr), nd2 r (List.mem_append_left _ hr), (hN r (List.mem_append_left _ hr)).2⟩
  · obtain ⟨x, hx, e2⟩ := SU₂.fwd r hr
    exact ⟨ht₂ r hr, by rw [e2]; exact nd2 x (List.mem_append_right _ hx), by rw [e2]; exact (hN x (List.mem_append_right _ (List.mem_cons_of_mem _ hx))).2⟩
end

theorem rst_NodeOps : True := by
  w_top off
  trivial
/-- the plain view of the nodes: name, number of predecessors, successors -/
noncomputable abbrev NV := Str × Int × List Str
noncomputable def nv (nds : List Nd) : List NV := nds.map fun nd => (nd.name, nd.np, nd.succ)
noncomputable def vEnsure (y : Str) (l : List NV) : List NV := if y ∈ l.map (·.1) then l else l ++ [(y, 0, [])]
noncomputable def vInc (y : Str) (k : Int) (l : List NV) : List NV := l.map fun n => if n.1 = y then (n.1, n.2.1 + k, n.2.2) else n
noncomputable def vPush (v y : Str) (l : List NV) : List NV := l.map fun n => if n.1 = v then (n.1, n.2.1, n.2.2 ++ [y]) else n
noncomputable def addEdge (y v : Str) (l : List NV) : List NV := vPush v y (vEnsure v (vInc y 1 (vEnsure y l)))
theorem nv_name (nds : List Nd) : (nv nds).map (·.1) = nds.map (·.name) := by unfold nv; rw [List.map_map]; rfl
theorem nv_setNp {nds : List Nd} (hn : (nds.map (·.name)).Nodup) {nd : Nd} (h : nd ∈ nds) (k : Int) : nv (setNp nd.name (nd.np + k) nds) = vInc nd.name k (nv nds) := by
  unfold nv setNp vInc
  rw [List.map_map, List.map_map]
  refine List.map_congr_left fun q hq => ?_
  simp only [Function.comp]
  by_cases e : q.name = nd.name
  · rw [eq_of_name hn hq h e]; simp
  · simp [e]
noncomputable def pushSucc (v y : Str) (nds : List Nd) : List Nd := nds.map fun nd => if nd.name = v then { nd with succ := nd.succ ++ [y] } else nd
theorem nv_push (v y : Str) (nds : List Nd) : nv (pushSucc v y nds) = vPush v y (nv nds) := by
  unfold nv pushSucc vPush
  rw [List.map_map, List.map_map]
  refine List.map_congr_left fun q hq => ?_
  simp only [Function.comp]
  split <;> rfl
theorem pushSucc_map {α : Type} (f : Nd → α) (hf : ∀ nd s, f { nd with succ := s } = f nd) (v y : Str) (nds : List Nd) : (pushSucc v y nds).map f = nds.map f := by
  unfold pushSucc; rw [List.map_map]; exact List.map_congr_left fun nd _ => by simp only [Function.comp]; split <;> first | rfl | exact hf _ _
theorem eq_of_lst {nds : List Nd} (hnm : (nds.map (·.lst)).Nodup) {q nd : Nd} (hq : q ∈ nds) (hn : nd ∈ nds) (e : q.lst = nd.lst) : q = nd := by
  induction nds with
  | nil => cases hq
  | cons y r ih =>
    rw [List.map_cons, List.nodup_cons] at hnm
    rcases List.mem_cons.mp hq with e1 | hq <;> rcases List.mem_cons.mp hn with e2 | hn
    · rw [e1, e2]
    · exact absurd (by rw [← e1, e]; exact List.mem_map_of_mem (f := (·.lst)) hn) hnm.1
    · exact absurd (by rw [← e2, ← e]; exact List.mem_map_of_mem (f := (·.lst)) hq) hnm.1
    · exact ih hnm.2 hq hn
theorem NodesIn.push {w : World} {led : Led} {d2 : Addr} {nds : List Nd} (h : NodesIn w led d2 nds) (ND : NDL led) {nd : Nd} (hn : nd ∈ nds) {vs : List Value} {n n' : Nat} {y : Str} {t : Tok} (hm : (nd.lst, listOf vs.toArray n) ∈ led) (hv : StrsAre vs nd.succ) :
    NodesIn w (upd led nd.lst (listOf (vs.toArray.push (.str y t)) n')) d2 (pushSucc nd.name y nds) := by
  obtain ⟨⟨hs, o, ho, hd⟩, hall, hnm, hls⟩ := h
  refine ⟨?_, ?_, by rw [pushSucc_map _ (fun _ _ => rfl)]; exact hnm, by rw [pushSucc_map _ (fun _ _ => rfl)]; exact hls⟩
  · have : nkv (pushSucc nd.name y nds) = nkv nds := by unfold nkv; exact pushSucc_map _ (fun _ _ => rfl) _ _ _
    rw [this]
    exact ⟨hs, o, mem_upd_ne ho (ND.neC ho hm (by rw [isDict_cls hd]; simp)), hd⟩
  intro nd' hn'
  obtain ⟨q, hq, rfl⟩ := List.mem_map.mp hn'
  obtain ⟨⟨⟨u1, u2, M⟩, ⟨vs', n1, Ml, hv'⟩, Md⟩, hqd⟩ := hall q hq
  by_cases e : q.name = nd.name
  · have hqn : q = nd := eq_of_name hnm hq hn e
    subst hqn
    simp only [if_true]
    exact ⟨⟨⟨u1, u2, mem_upd_ne M (ND.neC M hm (by simp))⟩, ⟨vs ++ [.str y t], n', by have := mem_upd_self (o := listOf (vs.toArray.push (.str y t)) n') hm; simpa using this, hv.push⟩, mem_upd_ne Md (ND.neC Md hm (by simp))⟩, hqd⟩
  · simp only [e, if_false]
    have hl : q.lst ≠ nd.lst := fun e' => by
      have hne : q ≠ nd := fun h => e (by rw [h])
      exact hne (eq_of_lst hls hq hn e')
    exact ⟨⟨⟨u1, u2, mem_upd_ne M (ND.neC M hm (by simp))⟩, ⟨vs', n1, mem_upd_ne Ml hl, hv'⟩, mem_upd_ne Md (ND.neC Md hm (by simp))⟩, hqd⟩
/-- what stands beside the sorter, and is not its own -/
noncomputable def Frm (Fm led : Led) (dx d2 : Addr) (nds : List Nd) : Prop := ∀ p ∈ Fm, p ∈ led ∧ p.1 ≠ dx ∧ p.1 ≠ d2 ∧ p.1 ∉ nds.map (·.at_) ∧ p.1 ∉ nds.map (·.lst)
theorem Frm.mono {Fm led led' : Led} {dx d2 : Addr} {nds : List Nd} (h : Frm Fm led dx d2 nds) (k : ∀ p ∈ led, p ∈ led') : Frm Fm led' dx d2 nds := fun p hp => ⟨k p (h p hp).1, (h p hp).2⟩
theorem Frm.upd {Fm led : Led} {dx d2 a : Addr} {o : Obj} {nds : List Nd} (h : Frm Fm led dx d2 nds) (ha : a = dx ∨ a = d2 ∨ a ∈ nds.map (·.at_) ∨ a ∈ nds.map (·.lst)) : Frm Fm (upd led a o) dx d2 nds := fun p hp => by
  obtain ⟨h1, h2, h3, h4, h5⟩ := h p hp
  refine ⟨mem_upd_ne h1 ?_, h2, h3, h4, h5⟩
  rintro rfl
  rcases ha with e | e | e | e
  · exact h2 e
  · exact h3 e
  · exact h4 e
  · exact h5 e
theorem Frm.same {Fm led : Led} {dx d2 : Addr} {nds nds' : List Nd} (h : Frm Fm led dx d2 nds) (h1 : nds'.map (·.at_) = nds.map (·.at_)) (h2 : nds'.map (·.lst) = nds.map (·.lst)) : Frm Fm led dx d2 nds' := fun p hp => by
  rw [h1, h2]; exact h p hp
/-- what _get_nodeinfo tells of the nodes -/
noncomputable def GotNode (led : Led) (y : Str) (nds nds' : List Nd) (nd : Nd) : Prop := y ∈ nds.map (·.name) ∧ nds' = nds ∨ y ∉ nds.map (·.name) ∧ nds' = nds ++ [nd] ∧ nd.np = 0 ∧ nd.succ = [] ∧ (∀ p ∈ led, p.1 ≠ nd.lst ∧ p.1 ≠ nd.at_)
theorem GotNode.nv {led : Led} {y : Str} {nds nds' : List Nd} {nd : Nd} (h : GotNode led y nds nds' nd) (hn : nd.name = y) : nv nds' = vEnsure y (nv nds) := by
  unfold vEnsure
  rw [nv_name]
  rcases h with ⟨a, rfl⟩ | ⟨a, rfl, b, c, _⟩
  · rw [if_pos a]
  · rw [if_neg a]; unfold Mine.nv; rw [List.map_append]; simp [b, c, hn]
theorem GotNode.frm {Fm led led' : Led} {dx d2 : Addr} {y : Str} {nds nds' : List Nd} {nd : Nd} (h : GotNode led y nds nds' nd) (k : Keep [d2] led led') (f : Frm Fm led dx d2 nds) : Frm Fm led' dx d2 nds' := fun p hp => by
  obtain ⟨h1, h2, h3, h4, h5⟩ := f p hp
  have h1' := k p h1 (by simpa using h3)
  rcases h with ⟨a, rfl⟩ | ⟨a, rfl, b, c, d⟩
  · exact ⟨h1', h2, h3, h4, h5⟩
  · have := d p h1
    exact ⟨h1', h2, h3, by rw [List.map_append]; simpa using ⟨by simpa using h4, this.2⟩, by rw [List.map_append]; simpa using ⟨by simpa using h5, this.1⟩⟩
theorem GotNode.length {led : Led} {y : Str} {nds nds' : List Nd} {nd : Nd} (h : GotNode led y nds nds' nd) : nds'.length ≤ nds.length + 1 := by
  rcases h with ⟨_, rfl⟩ | ⟨_, rfl, _⟩ <;> simp
theorem SorterIn.keepD2 {led led' : Led} {x dx d2 : Addr} {rdy : Value} {np nf : Int} {o : Obj} (h : SorterIn led x dx d2 rdy np nf) (ND : NDL led) (hm : (d2, o) ∈ led) (hc : o.cls = .type "dict") (k : Keep [d2] led led') : SorterIn led' x dx d2 rdy np nf :=
  h.keep k (by simpa using ND.neC h.1 hm (by rw [hc]; simp)) (by simpa using fun e => h.2.1 e.symm)
theorem SorterIn.updNode {w : World} {led : Led} {x dx d2 a : Addr} {rdy : Value} {np nf : Int} {nds : List Nd} {o : Obj} (h : SorterIn led x dx d2 rdy np nf) (HN : NodesIn w led d2 nds) (ND : NDL led) (ha : a ∈ nds.map (·.at_) ∨ a ∈ nds.map (·.lst)) : SorterIn (upd led a o) x dx d2 rdy np nf := by
  obtain ⟨es, n, Mdx⟩ := h.dxMem
  refine h.keep (S := [a]) (Keep.refl.upd (by simp)) ?_ ?_
  · simp only [List.mem_singleton]; rintro rfl
    exact ha.elim (HN.notAt ND h.1 (by simp)) (HN.notLst ND h.1 (by simp))
  · simp only [List.mem_singleton]; rintro rfl
    exact ha.elim (HN.notAt ND Mdx (by simp)) (HN.notLst ND Mdx (by simp))
theorem SorterIn.keepCls {led led' : Led} {x dx d2 : Addr} {rdy : Value} {np nf : Int} {ic : String} (h : SorterIn led x dx d2 rdy np nf) (k : ∀ p ∈ led, p.2.cls ≠ .type ic → p ∈ led') (h2 : "dict" ≠ ic) : SorterIn led' x dx d2 rdy np nf := by
  obtain ⟨M1, hdd, t1, t2, t3, t4, t5, t6, k1, k2, k3, k4, n, M2⟩ := h
  exact ⟨k _ M1 (by intro e; cases e), hdd, t1, t2, t3, t4, t5, t6, k1, k2, k3, k4, n, k _ M2 (by intro e; cases e; exact h2 rfl)⟩
noncomputable def SuccLe (B : Nat) (l : List NV) : Prop := ∀ n ∈ l, n.2.2.length ≤ B
theorem SuccLe.ensure {B : Nat} {l : List NV} (h : SuccLe B l) (y : Str) : SuccLe B (vEnsure y l) := fun n hn => by
  unfold vEnsure at hn
  split at hn
  · exact h n hn
  · rcases List.mem_append.mp hn with hn | hn
    · exact h n hn
    · rw [List.mem_singleton.mp hn]; exact Nat.zero_le _
theorem SuccLe.inc {B : Nat} {l : List NV} (h : SuccLe B l) (y : Str) (k : Int) : SuccLe B (vInc y k l) := fun n hn => by
  obtain ⟨q, hq, rfl⟩ := List.mem_map.mp hn
  split <;> exact h q hq
theorem SuccLe.push {B : Nat} {l : List NV} (h : SuccLe B l) (v y : Str) : SuccLe (B + 1) (vPush v y l) := fun n hn => by
  obtain ⟨q, hq, rfl⟩ := List.mem_map.mp hn
  have := h q hq
  split
  · simp only [List.length_append, List.length_singleton]; exact oq6 this
  · exact oq7 this
theorem SuccLe.add {B : Nat} {l : List NV} (h : SuccLe B l) (y v : Str) : SuccLe (B + 1) (addEdge y v l) := (((h.ensure y).inc y 1).ensure v).push v y
theorem SuccLe.nd {B : Nat} {nds : List Nd} (h : SuccLe B (nv nds)) {nd : Nd} (hn : nd ∈ nds) : nd.succ.length ≤ B := h _ (List.mem_map.mpr ⟨nd, hn, rfl⟩)

theorem rst_CycIn : True := by
  w_top off
  trivial
structure FE where
  name : Str
  t : Tok
  ti : Tok
  it : Addr
  q : Addr
  lst : Addr
  pos : Nat
  succ : List Str
noncomputable def ikvF : Nat → List FE → List (Str × Value)
  | _, [] => []
  | k, f :: r => (f.name, .int k f.ti) :: ikvF (k + 1) r
noncomputable abbrev ikv (fs : List FE) : List (Str × Value) := ikvF 0 fs
theorem ikvF_append (k : Nat) (a c : List FE) : ikvF k (a ++ c) = ikvF k a ++ ikvF (k + a.length) c := by
  induction a generalizing k with
  | nil => rfl
  | cons f r ih => simp only [List.cons_append, ikvF, ih, List.length_cons]; rw [show k + 1 + r.length = k + (r.length + 1) from by exact oq8]
theorem ikvF_keys (k : Nat) (a : List FE) : (ikvF k a).map (·.1) = a.map (·.name) := by
  induction a generalizing k with
  | nil => rfl
  | cons f r ih => simp only [ikvF, List.map_cons, ih]
theorem ikvF_length (k : Nat) (a : List FE) : (ikvF k a).length = a.length := by
  have := congrArg List.length (ikvF_keys k a); simpa using this
theorem ikv_stored {fs : List FE} {f : FE} (h : f.name ∉ fs.map (·.name)) : stored (ikv fs) f.name (.int fs.length f.ti) = ikv (fs ++ [f]) := by
  unfold stored
  rw [if_neg, ikv, ikv, ikvF_append]
  · simp [ikvF]
  · intro hc
    obtain ⟨kv, hkv, e⟩ := List.any_eq_true.mp hc
    rw [← ikvF_keys 0 fs] at h
    exact h (List.mem_map.mpr ⟨kv, hkv, by simpa using e⟩)
theorem ikv_without {fs : List FE} {f : FE} (h : f.name ∉ fs.map (·.name)) : without (ikv (fs ++ [f])) f.name = ikv fs := by
  have h0 : f.name ∉ (ikv fs).map (·.1) := by rw [ikvF_keys]; exact h
  rw [ikv, ikvF_append]
  unfold without
  rw [List.filter_append]
  have := without_of_not_mem (ikv fs) f.name h0
  unfold without at this
  rw [this]
  simp [ikvF]
theorem ikvF_none {k : Nat} {fs : List FE} {y : Str} (h : y ∉ fs.map (·.name)) : valueAt (ikvF k fs) y = none := by
  unfold valueAt
  rw [Option.map_eq_none_iff, List.find?_eq_none]
  intro kv hkv
  rw [← ikvF_keys k] at h
  simpa using fun e => h (List.mem_map.mpr ⟨kv, hkv, e⟩)
theorem ikvF_get {k i : Nat} {fs : List FE} {f : FE} (hn : (fs.map (·.name)).Nodup) (h : fs[i]? = some f) : valueAt (ikvF k fs) f.name = some (.int (k + i : Nat) f.ti) := by
  induction fs generalizing k i with
  | nil => simp at h
  | cons x r ih =>
    rw [List.map_cons, List.nodup_cons] at hn
    cases i with
    | zero => simp at h; subst h; simp [valueAt, ikvF]
    | succ i =>
      simp at h
      have hne : x.name ≠ f.name := fun e => hn.1 (e ▸ List.mem_map_of_mem (f := (·.name)) (List.mem_of_getElem? h))
      have := ih (k := k + 1) hn.2 h
      simp only [valueAt, ikvF, List.find?_cons, hne, decide_false] at this ⊢
      rw [this]; congr 2; exact oq9
noncomputable abbrev stkVs (fs : List FE) : List Value := fs.map fun f => Value.str f.name f.t
noncomputable abbrev itVs (fs : List FE) : List Value := fs.map fun f => Value.ref f.q
noncomputable def FrmIn (frs led : Led) : Prop := ∃ f, TI.SameUp frs f ∧ ∀ q ∈ f, q ∈ led
theorem FrmIn.mono {frs led led' : Led} (h : FrmIn frs led) (k : ∀ p ∈ led, p ∈ led') : FrmIn frs led' := let ⟨f, a, c⟩ := h; ⟨f, a, fun q hq => k q (c q hq)⟩
theorem FrmIn.self {frs led : Led} (h : ∀ q ∈ frs, q ∈ led) : FrmIn frs led := ⟨frs, TI.SameUp.refl _, h⟩
/-- the state of the walk over the nodes -/
structure StkIn (w : World) (led : Led) (S0 T0 Z Dn : Addr) (fs : List FE) (seen : List Str) : Prop where
  stk : ∃ n, (S0, listOf (stkVs fs).toArray n) ∈ led
  its : ∃ n, (T0, listOf (itVs fs).toArray n) ∈ led
  set : SetIn w led Z seen
  dic : DictIn w led Dn (ikv fs)
  fr : ∀ f ∈ fs, (f.q, nextObj f.it) ∈ led ∧ (f.it, iterObj f.lst f.pos) ∈ led
theorem StkIn.mono {w : World} {led led' : Led} {S0 T0 Z Dn : Addr} {fs : List FE} {seen : List Str} (h : StkIn w led S0 T0 Z Dn fs seen) (k : ∀ p ∈ led, p ∈ led') : StkIn w led' S0 T0 Z Dn fs seen :=
  ⟨let ⟨n, a⟩ := h.stk; ⟨n, k _ a⟩, let ⟨n, a⟩ := h.its; ⟨n, k _ a⟩, h.set.mono fun o ho _ => k _ ho, h.dic.sub k, fun f hf => ⟨k _ (h.fr f hf).1, k _ (h.fr f hf).2⟩⟩
theorem DictIn.keepCls {w : World} {led led' : Led} {d : Addr} {kvs : List (Str × Value)} (h : DictIn w led d kvs) (k : ∀ o, (d, o) ∈ led → o.cls = .type "dict" → (d, o) ∈ led') : DictIn w led' d kvs :=
  let ⟨a, o, M, hv⟩ := h; ⟨a, o, k o M (isDict_cls hv), hv⟩
noncomputable def Lnk (t : Str → Option Str) (l : List Str) : Prop := ∀ i a c, l[i]? = some a → l[i + 1]? = some c → t c = some a
noncomputable def Con (Cyc : Str → Prop) (fs : List FE) (nxt : List Str) : Prop := ∀ i f, fs[i]? = some f → ∀ j, j < f.pos → ∀ s, f.succ[j]? = some s → ¬ Cyc s ∨ (fs.map (·.name) ++ nxt)[i + 1]? = some s
/-- what holds of the walk at every time -/
structure CI (t : Str → Option Str) (Cyc : Str → Prop) (nds : List Nd) (fs : List FE) (seen : List Str) : Prop where
  nodup : (fs.map (·.name)).Nodup
  inSeen : ∀ f ∈ fs, f.name ∈ seen
  seenN : seen.Nodup
  seenS : ∀ y ∈ seen, y ∈ nds.map (·.name)
  off : ∀ u ∈ seen, u ∉ fs.map (·.name) → ¬ Cyc u
  nd : ∀ f ∈ fs, ∃ nd ∈ nds, nd.name = f.name ∧ nd.lst = f.lst ∧ nd.succ = f.succ
  pos : ∀ f ∈ fs, f.pos ≤ f.succ.length
  lnk : Lnk t (fs.map (·.name))
noncomputable def restOf (nds : List Nd) (seen : List Str) : Nat := (nds.map fun nd => if nd.name ∈ seen then 0 else nd.succ.length + 1).sum
noncomputable def leftOf (fs : List FE) : Nat := (fs.map fun f => f.succ.length - f.pos).sum
noncomputable abbrev meas (nds : List Nd) (fs : List FE) (seen : List Str) : Nat := restOf nds seen + leftOf fs
theorem restOf_new {nds : List Nd} {seen : List Str} {nd : Nd} (hn : (nds.map (·.name)).Nodup) (h : nd ∈ nds) (hs : nd.name ∉ seen) : restOf nds (nd.name :: seen) + nd.succ.length + 1 = restOf nds seen := by
  unfold restOf
  induction nds with
  | nil => cases h
  | cons x r ih =>
    rw [List.map_cons, List.nodup_cons] at hn
    simp only [List.map_cons, List.sum_cons]
    rcases List.mem_cons.mp h with rfl | h
    · have : (r.map fun n => if n.name ∈ nd.name :: seen then 0 else n.succ.length + 1) = r.map fun n => if n.name ∈ seen then 0 else n.succ.length + 1 := by
        refine List.map_congr_left fun q hq => ?_
        have hne : q.name ≠ nd.name := fun e => hn.1 (e ▸ List.mem_map_of_mem (f := (·.name)) hq)
        simp [hne]
      rw [this]; simp [hs]; exact oq10
    · have hne : x.name ≠ nd.name := fun e => hn.1 (e ▸ List.mem_map_of_mem (f := (·.name)) h)
      have := ih hn.2 h
      simp only [List.mem_cons, hne, false_or] at this ⊢
      split <;> (first | exact oq11 this | exact oq12 this)
theorem leftOf_snoc (fs : List FE) (f : FE) : leftOf (fs ++ [f]) = leftOf fs + (f.succ.length - f.pos) := by unfold leftOf; simp
theorem nodup_len {α : Type} [DecidableEq α] {a c : List α} (hn : a.Nodup) (h : ∀ x ∈ a, x ∈ c) : a.length ≤ c.length := by
  induction a generalizing c with
  | nil => simp
  | cons x r ih =>
    rw [List.nodup_cons] at hn
    have hx := h x (.head _)
    have := ih (c := c.erase x) hn.2 fun y hy => by
      have hne : y ≠ x := fun e => hn.1 (e ▸ hy)
      exact (List.mem_erase_of_ne hne).mpr (h y (.tail _ hy))
    rw [List.length_erase_of_mem hx] at this
    have := List.length_pos_of_mem hx
    simp only [List.length_cons]; (rename_i u0; exact oq13 u0 this)
theorem CI.seenLe {t : Str → Option Str} {Cyc : Str → Prop} {nds : List Nd} {fs : List FE} {seen : List Str} (h : CI t Cyc nds fs seen) : seen.length ≤ nds.length := by
  have := nodup_len h.seenN h.seenS; simpa using this
theorem CI.fsLe {t : Str → Option Str} {Cyc : Str → Prop} {nds : List Nd} {fs : List FE} {seen : List Str} (h : CI t Cyc nds fs seen) : fs.length ≤ nds.length := by
  have h1 := nodup_len h.nodup fun x hx => by obtain ⟨f, hf, rfl⟩ := List.mem_map.mp hx; exact h.inSeen f hf
  have := h.seenLe; simp at h1; exact Nat.le_trans h1 this
theorem getElem?_snoc {α : Type} (l : List α) (x : α) (i : Nat) : (l ++ [x])[i]? = if i < l.length then l[i]? else if i = l.length then some x else none := by
  by_cases h : i < l.length
  · rw [if_pos h, List.getElem?_append_left h]
  · rw [if_neg h, List.getElem?_append_right (by exact Nat.le_of_not_lt h)]
    by_cases h2 : i = l.length
    · rw [if_pos h2]; subst h2; simp
    · rw [if_neg h2, List.getElem?_eq_none]; simp; exact oq14 h h2
section
variable {t : Str → Option Str} {Cyc : Str → Prop} {nds : List Nd} {fs : List FE} {seen : List Str}
theorem CI.push (h : CI t Cyc nds fs seen) {f : FE} {nd : Nd} (hnd : nd ∈ nds) (e1 : nd.name = f.name) (e2 : nd.lst = f.lst) (e3 : nd.succ = f.succ) (hp : f.pos = 0) (hs : f.name ∉ seen) (hl : Lnk t (fs.map (·.name) ++ [f.name])) :
    CI t Cyc nds (fs ++ [f]) (f.name :: seen) := by
  have hf : f.name ∉ fs.map (·.name) := fun hm => by obtain ⟨g, hg, e⟩ := List.mem_map.mp hm; exact hs (e ▸ h.inSeen g hg)
  refine ⟨?_, ?_, List.nodup_cons.mpr ⟨hs, h.seenN⟩, ?_, ?_, ?_, ?_, ?_⟩
  · rw [List.map_append, List.nodup_append]
    refine ⟨h.nodup, by simp, fun a ha b hb e => ?_⟩
    simp at hb; subst hb; subst e; exact hf ha
  · intro g hg
    rcases List.mem_append.mp hg with hg | hg
    · exact .tail _ (h.inSeen g hg)
    · rw [List.mem_singleton.mp hg]; exact .head _
  · intro y hy
    rcases List.mem_cons.mp hy with rfl | hy
    · rw [← e1]; exact List.mem_map_of_mem (f := (·.name)) hnd
    · exact h.seenS y hy
  · intro u hu hn
    rw [List.map_append] at hn
    simp only [List.mem_append, not_or] at hn
    rcases List.mem_cons.mp hu with rfl | hu
    · exact absurd (by simp) hn.2
    · exact h.off u hu hn.1
  · intro g hg
    rcases List.mem_append.mp hg with hg | hg
    · exact h.nd g hg
    · rw [List.mem_singleton.mp hg]; exact ⟨nd, hnd, e1, e2, e3⟩
  · intro g hg
    rcases List.mem_append.mp hg with hg | hg
    · exact h.pos g hg
    · rw [List.mem_singleton.mp hg, hp]; exact Nat.zero_le _
  · rw [List.map_append]; exact hl
theorem Con.push {f : FE} (h : Con Cyc fs [f.name]) (hp : f.pos = 0) : Con Cyc (fs ++ [f]) [] := by
  intro i g hg j hj s hs
  rw [List.append_nil, List.map_append]
  rw [getElem?_snoc] at hg
  split at hg
  · exact h i g hg j hj s hs
  · split at hg
    · cases hg; omega
    · cases hg
theorem meas_push (hn : (nds.map (·.name)).Nodup) {f : FE} {nd : Nd} (hnd : nd ∈ nds) (e1 : nd.name = f.name) (e3 : nd.succ = f.succ) (hp : f.pos = 0) (hs : f.name ∉ seen) : meas nds (fs ++ [f]) (f.name :: seen) + 1 = meas nds fs seen := by
  have := restOf_new hn hnd (by rw [e1]; exact hs)
  unfold meas
  rw [leftOf_snoc, hp, ← e1, ← e3]; exact oq15 this
theorem Con.skip {y : Str} (h : Con Cyc fs [y]) (hy : ¬ Cyc y) : Con Cyc fs [] := by
  intro i g hg j hj s hs
  rcases h i g hg j hj s hs with h | h
  · exact .inl h
  · rw [List.append_nil]
    rw [getElem?_snoc] at h
    split at h
    · exact .inr h
    · split at h
      · cases h; exact .inl hy
      · cases h
noncomputable abbrev FE.up (f : FE) : FE := { f with pos := f.pos + 1 }
theorem CI.take {f : FE} {y : Str} (h : CI t Cyc nds (fs ++ [f]) seen) (hy : f.succ[f.pos]? = some y) : CI t Cyc nds (fs ++ [f.up]) seen := by
  have hm : (fs ++ [f.up]).map (·.name) = (fs ++ [f]).map (·.name) := by simp
  refine ⟨by rw [hm]; exact h.nodup, ?_, h.seenN, h.seenS, by rw [hm]; exact h.off, ?_, ?_, by rw [hm]; exact h.lnk⟩
  · intro g hg
    rcases List.mem_append.mp hg with hg | hg
    · exact h.inSeen g (List.mem_append_left _ hg)
    · rw [List.mem_singleton.mp hg]; exact h.inSeen f (List.mem_append_right _ (.head _))
  · intro g hg
    rcases List.mem_append.mp hg with hg | hg
    · exact h.nd g (List.mem_append_left _ hg)
    · rw [List.mem_singleton.mp hg]; exact h.nd f (List.mem_append_right _ (.head _))
  · intro g hg
    rcases List.mem_append.mp hg with hg | hg
    · exact h.pos g (List.mem_append_left _ hg)
    · rw [List.mem_singleton.mp hg]
      have := (List.getElem?_eq_some_iff.mp hy).1
      exact this
theorem Con.take {f : FE} {y : Str} (h : Con Cyc (fs ++ [f]) []) (hy : f.succ[f.pos]? = some y) : Con Cyc (fs ++ [f.up]) [y] := by
  intro i g hg j hj s hs
  rw [getElem?_snoc] at hg
  split at hg
  · rename_i hi
    rcases h i g (by rw [List.getElem?_append_left hi]; exact hg) j hj s hs with h | h
    · exact .inl h
    · refine .inr ?_
      rw [List.append_nil] at h
      rw [List.getElem?_append_left (by simp; exact hi)]
      simpa using h
  · split at hg
    · rename_i hi1 hi
      cases hg
      by_cases hj2 : j < f.pos
      · rcases h i f (by rw [hi]; simp) j hj2 s hs with h | h
        · exact .inl h
        · rw [List.append_nil, List.getElem?_eq_none (by simp; exact oq16 hi)] at h; cases h
      · have : j = f.pos := by simp only [FE.up] at hj; exact Nat.eq_of_lt_succ_of_not_lt hj hj2
        subst this
        simp only [FE.up] at hs
        rw [hy] at hs; cases hs
        refine .inr ?_
        rw [List.getElem?_append_right (by simp; exact oq16 hi)]
        simp [hi]
    · cases hg
theorem meas_take {f : FE} {y : Str} (hy : f.succ[f.pos]? = some y) : meas nds (fs ++ [f.up]) seen + 1 = meas nds (fs ++ [f]) seen := by
  unfold meas
  rw [leftOf_snoc, leftOf_snoc]
  have := (List.getElem?_eq_some_iff.mp hy).1
  simp only [FE.up]; exact oq17 this
theorem Lnk.take {f : FE} {y : Str} (h : Lnk t ((fs ++ [f]).map (·.name))) (ht : t y = some f.name) : Lnk t ((fs ++ [f.up]).map (·.name) ++ [y]) := by
  have hm : (fs ++ [f.up]).map (·.name) = (fs ++ [f]).map (·.name) := by simp
  rw [hm]
  intro i a c ha hc
  rw [getElem?_snoc] at ha hc
  split at hc
  · rename_i hi
    rw [if_pos (by exact oq18 hi)] at ha
    exact h i a c ha hc
  · split at hc
    · rename_i h1 h2
      cases hc
      rw [if_pos (by exact oq19 h2)] at ha
      have : i = fs.length := by simp at h2; exact h2
      subst this
      simp at ha; rw [← ha]; exact ht
    · cases hc
theorem CI.pop {f : FE} (h : CI t Cyc nds (fs ++ [f]) seen) (hc : Con Cyc (fs ++ [f]) []) (hp : f.succ[f.pos]? = none) (hG : ∀ nd ∈ nds, (∀ s ∈ nd.succ, ¬ Cyc s) → ¬ Cyc nd.name) : CI t Cyc nds fs seen ∧ Con Cyc fs [] := by
  have hlast : ¬ Cyc f.name := by
    obtain ⟨nd, hnd, e1, e2, e3⟩ := h.nd f (List.mem_append_right _ (.head _))
    rw [← e1]
    refine hG nd hnd fun s hs => ?_
    rw [e3] at hs
    obtain ⟨j, hj⟩ := List.getElem?_of_mem hs
    have h1 := (List.getElem?_eq_some_iff.mp hj).1
    have h2 : f.succ.length ≤ f.pos := List.getElem?_eq_none_iff.mp hp
    rcases hc fs.length f (by simp) j (by exact Nat.lt_of_lt_of_le h1 h2) s hj with h | h
    · exact h
    · rw [List.append_nil, List.getElem?_eq_none (by simp)] at h; cases h
  have hnd := h.nodup
  rw [List.map_append, List.nodup_append] at hnd
  refine ⟨⟨hnd.1, fun g hg => h.inSeen g (List.mem_append_left _ hg), h.seenN, h.seenS, ?_, fun g hg => h.nd g (List.mem_append_left _ hg), fun g hg => h.pos g (List.mem_append_left _ hg), ?_⟩, ?_⟩
  · intro u hu hn
    by_cases e : u = f.name
    · rw [e]; exact hlast
    · exact h.off u hu (by simp at hn ⊢; exact ⟨hn, e⟩)
  · intro i a c ha hc
    refine h.lnk i a c ?_ ?_
    · rw [List.map_append, List.getElem?_append_left (List.getElem?_eq_some_iff.mp ha).1]; exact ha
    · rw [List.map_append, List.getElem?_append_left (List.getElem?_eq_some_iff.mp hc).1]; exact hc
  · intro i g hg j hj s hs
    have hi := (List.getElem?_eq_some_iff.mp hg).1
    rcases hc i g (by rw [List.getElem?_append_left hi]; exact hg) j hj s hs with h | h
    · exact .inl h
    · rw [List.append_nil, List.map_append, List.map_singleton, getElem?_snoc] at h
      rw [List.append_nil]
      split at h
      · exact .inr h
      · split at h
        · cases h; exact .inl hlast
        · cases h
theorem leftOf_pop {f : FE} : meas nds fs seen ≤ meas nds (fs ++ [f]) seen := by unfold meas; rw [leftOf_snoc]; exact oq20
/-- a name of the stack that is met again is its root -/
theorem Lnk.ring {l : List Str} {y : Str} (h : Lnk t (l ++ [y])) (hn : l.Nodup) (hy : y ∈ l) : l[0]? = some y := by
  obtain ⟨i, hi⟩ := List.getElem?_of_mem hy
  have hlt := (List.getElem?_eq_some_iff.mp hi).1
  cases i with
  | zero => exact hi
  | succ i =>
    have h1 := h i l[i] y (by rw [List.getElem?_append_left (by exact Nat.lt_of_succ_lt hlt)]; simp) (by rw [List.getElem?_append_left hlt]; exact hi)
    have h2 := h (l.length - 1) (l[l.length - 1]'(by exact oq21 hlt)) y (by rw [List.getElem?_append_left (by exact oq21 hlt)]; simp) (by rw [show l.length - 1 + 1 = l.length by exact oq22 hlt]; simp)
    rw [h1] at h2
    have := (List.getElem_inj hn).mp (Option.some.inj h2)
    omega
end
theorem DictIn.up {w : World} {led : Led} {d a : Addr} {o : Obj} {kvs : List (Str × Value)} (hne : d ≠ a) (h : DictIn w led d kvs) : DictIn w (upd led a o) d kvs := h.mono fun _ ho => mem_upd_ne ho hne
theorem DictIn.cons {w : World} {led : Led} {d : Addr} {q : Addr × Obj} {kvs : List (Str × Value)} (h : DictIn w led d kvs) : DictIn w (q :: led) d kvs := h.mono fun _ ho => .tail _ ho
theorem SetIn.up {w : World} {led : Led} {d a : Addr} {o : Obj} {seen : List Str} (hne : d ≠ a) (h : SetIn w led d seen) : SetIn w (upd led a o) d seen := h.mono fun _ ho _ => mem_upd_ne ho hne
theorem SetIn.cons {w : World} {led : Led} {d : Addr} {q : Addr × Obj} {seen : List Str} (h : SetIn w led d seen) : SetIn w (q :: led) d seen := h.mono fun _ ho _ => .tail _ ho
theorem FrmIn.keep {S : List Addr} {frs led led' : Led} (h : FrmIn frs led) (k : Keep S led led') (hd : ∀ q ∈ frs, q.1 ∉ S) : FrmIn frs led' := by
  obtain ⟨f, su, hf⟩ := h
  refine ⟨f, su, fun q hq => k q (hf q hq) ?_⟩
  obtain ⟨x, hx, e⟩ := su.fwd q hq
  rw [e]; exact hd x hx
theorem StkIn.push {w : World} {led : Led} {S0 T0 Z Dn : Addr} {fs : List FE} {seen : List Str} (SK : StkIn w led S0 T0 Z Dn fs seen) (ND : NDL led) {f : FE} (hp : f.pos = 0) (hn : f.name ∉ fs.map (·.name))
    (q4 : T0 ≠ Z) (q5 : S0 ≠ Z) (q6 : S0 ≠ T0) (q8 : Z ≠ Dn) (q9 : T0 ≠ Dn) (q10 : S0 ≠ Dn) {oZ oDn oZ' oD' : Obj} (MZ : (Z, oZ) ∈ led) (hcZ : oZ.cls = .type "set") (MDn : (Dn, oDn) ∈ led) (hcD : oDn.cls = .type "dict") {nS nT : Nat}
    (MS : (S0, listOf (stkVs fs).toArray nS) ∈ led) (MT : (T0, listOf (itVs fs).toArray nT) ∈ led)
    (lI : ∀ p ∈ upd led Z oZ', p.1 < f.it) (lq : ∀ p ∈ (f.it, iterObj f.lst 0) :: upd led Z oZ', p.1 < f.q) (Z5 : SetIn w (upd led Z oZ') Z (f.name :: seen))
    (D1 : DictIn w (upd (upd ((f.q, nextObj f.it) :: (f.it, iterObj f.lst 0) :: upd led Z oZ') T0 (listOf ((itVs fs).toArray.push (.ref f.q)) (nT + 1))) Dn oD') Dn (stored (ikv fs) f.name (.int (((stkVs fs).toArray.size : Nat) : Int) f.ti))) :
    StkIn w (upd (upd (upd ((f.q, nextObj f.it) :: (f.it, iterObj f.lst 0) :: upd led Z oZ') T0 (listOf ((itVs fs).toArray.push (.ref f.q)) (nT + 1))) Dn oD') S0 (listOf ((stkVs fs).toArray.push (.str f.name f.t)) (nS + 1))) S0 T0 Z Dn (fs ++ [f]) (f.name :: seen)
    ∧ Keep [Z, T0, Dn, S0] led (upd (upd (upd ((f.q, nextObj f.it) :: (f.it, iterObj f.lst 0) :: upd led Z oZ') T0 (listOf ((itVs fs).toArray.push (.ref f.q)) (nT + 1))) Dn oD') S0 (listOf ((stkVs fs).toArray.push (.str f.name f.t)) (nS + 1)))
    ∧ NDL (upd (upd (upd ((f.q, nextObj f.it) :: (f.it, iterObj f.lst 0) :: upd led Z oZ') T0 (listOf ((itVs fs).toArray.push (.ref f.q)) (nT + 1))) Dn oD') S0 (listOf ((stkVs fs).toArray.push (.str f.name f.t)) (nS + 1))) := by
  have m0 : ∀ {a : Addr} {o : Obj}, (a, o) ∈ led → a ≠ Z → (a, o) ∈ (f.q, nextObj f.it) :: (f.it, iterObj f.lst 0) :: upd led Z oZ' := fun h n => .tail _ (.tail _ (mem_upd_ne h n))
  have cS := m0 MS q5
  have cT := m0 MT q4
  have cD := m0 MDn q8.symm
  have low : ∀ {a : Addr} {o : Obj}, (a, o) ∈ led → a ≠ Z → a ≠ f.it ∧ a ≠ f.q := fun h n => ⟨Nat.ne_of_lt (lI _ (mem_upd_ne h n)), Nat.ne_of_lt (lq _ (.tail _ (mem_upd_ne h n)))⟩
  have lowS := low MS q5
  have lowT := low MT q4
  have lowD := low MDn q8.symm
  have lowZ : Z ≠ f.it ∧ Z ≠ f.q := ⟨Nat.ne_of_lt (lI _ (mem_upd_self MZ)), Nat.ne_of_lt (lq _ (.tail _ (mem_upd_self MZ)))⟩
  have kp : Keep [Z, T0, Dn, S0] led (upd (upd (upd ((f.q, nextObj f.it) :: (f.it, iterObj f.lst 0) :: upd led Z oZ') T0 (listOf ((itVs fs).toArray.push (.ref f.q)) (nT + 1))) Dn oD') S0 (listOf ((stkVs fs).toArray.push (.str f.name f.t)) (nS + 1))) :=
    ((((Keep.refl.upd (by simp)).cons.cons).upd (by simp)).upd (by simp)).upd (by simp)
  refine ⟨⟨⟨nS + 1, ?_⟩, ⟨nT + 1, ?_⟩, ?_, ?_, ?_⟩, kp, ?_⟩
  · have : stkVs (fs ++ [f]) = stkVs fs ++ [.str f.name f.t] := by simp
    rw [this]
    have h1 := mem_upd_self (o := listOf ((stkVs fs).toArray.push (.str f.name f.t)) (nS + 1)) (mem_upd_ne (o := oD') (mem_upd_ne (o := listOf ((itVs fs).toArray.push (.ref f.q)) (nT + 1)) cS q6) q10)
    simpa using h1
  · have : itVs (fs ++ [f]) = itVs fs ++ [.ref f.q] := by simp
    rw [this]
    have h1 := mem_upd_ne (a := S0) (o := listOf ((stkVs fs).toArray.push (.str f.name f.t)) (nS + 1)) (mem_upd_ne (o := oD') (mem_upd_self (o := listOf ((itVs fs).toArray.push (.ref f.q)) (nT + 1)) cT) q9) q6.symm
    simpa using h1
  · exact Z5.mono fun o ho _ => mem_upd_ne (mem_upd_ne (mem_upd_ne (.tail _ (.tail _ ho)) q4.symm) q8) q5.symm
  · rw [← ikv_stored hn]
    have e : (((stkVs fs).toArray.size : Nat) : Int) = fs.length := by simp
    rw [e] at D1
    exact D1.mono fun o ho => mem_upd_ne ho q10.symm
  · intro g hg
    rcases List.mem_append.mp hg with hg | hg
    · obtain ⟨h1, h2⟩ := SK.fr g hg
      refine ⟨kp _ h1 ?_, kp _ h2 ?_⟩
      · simp only [List.mem_cons, List.not_mem_nil, or_false, not_or]
        exact ⟨ND.neC h1 MZ (by rw [hcZ]; simp), ND.neC h1 MT (by simp), ND.neC h1 MDn (by rw [hcD]; simp), ND.neC h1 MS (by simp)⟩
      · simp only [List.mem_cons, List.not_mem_nil, or_false, not_or]
        exact ⟨ND.neC h2 MZ (by rw [hcZ]; simp), ND.neC h2 MT (by simp), ND.neC h2 MDn (by rw [hcD]; simp), ND.neC h2 MS (by simp)⟩
    · rw [List.mem_singleton.mp hg, hp]
      exact ⟨mem_upd_ne (mem_upd_ne (mem_upd_ne (.head _) lowT.2.symm) lowD.2.symm) lowS.2.symm, mem_upd_ne (mem_upd_ne (mem_upd_ne (.tail _ (.head _)) lowT.1.symm) lowD.1.symm) lowS.1.symm⟩
  · exact (((((ND.upd).cons lI).cons lq).upd).upd).upd
theorem StkIn.keepNil {w : World} {led led' : Led} {S0 T0 Z Dn I : Addr} {seen : List Str} {oI : Obj} {ic : String} (SK : StkIn w led S0 T0 Z Dn [] seen) (ND : NDL led) (hI : (I, oI) ∈ led) (hc : oI.cls = .type ic) (h1 : ic ≠ "list") (h2 : ic ≠ "dict") (h3 : ic ≠ "set")
    (k : ∀ p ∈ led, p.1 ≠ I → p ∈ led') : StkIn w led' S0 T0 Z Dn [] seen := by
  obtain ⟨⟨nS, MS⟩, ⟨nT, MT⟩, ZI, D, _⟩ := SK
  refine ⟨⟨nS, k _ MS (ND.neC MS hI (by rw [hc]; simpa using fun e => h1 e.symm))⟩, ⟨nT, k _ MT (ND.neC MT hI (by rw [hc]; simpa using fun e => h1 e.symm))⟩, ?_, ?_, by simp⟩
  · exact ZI.mono fun o ho hcz => k _ ho (ND.neC ho hI (by rw [hc, hcz]; simpa using fun e => h3 e.symm))
  · exact D.keepCls fun o ho hcd => k _ ho (ND.neC ho hI (by rw [hc, hcd]; simpa using fun e => h2 e.symm))
theorem StkIn.pieces {w : World} {led led' : Led} {S0 T0 Z Dn : Addr} {fs : List FE} {f : FE} {seen : List Str} {S : List Addr} (SK : StkIn w led S0 T0 Z Dn (fs ++ [f]) seen) (kp : Keep S led led') (hS : S0 ∉ S ∧ T0 ∉ S ∧ Z ∉ S ∧ Dn ∉ S) (hfs : ∀ g ∈ fs, g.q ∉ S ∧ g.it ∉ S) :
    (∃ n, (S0, listOf (stkVs fs ++ [Value.str f.name f.t]).toArray n) ∈ led') ∧ (∃ n, (T0, listOf (itVs fs ++ [Value.ref f.q]).toArray n) ∈ led') ∧ SetIn w led' Z seen ∧ DictIn w led' Dn (ikv (fs ++ [f])) ∧ ∀ g ∈ fs, (g.q, nextObj g.it) ∈ led' ∧ (g.it, iterObj g.lst g.pos) ∈ led' := by
  obtain ⟨⟨nS, MS⟩, ⟨nT, MT⟩, ZI, D, fr⟩ := SK
  have hs5 : stkVs (fs ++ [f]) = stkVs fs ++ [.str f.name f.t] := by simp
  have hi5 : itVs (fs ++ [f]) = itVs fs ++ [.ref f.q] := by simp
  rw [hs5] at MS
  rw [hi5] at MT
  exact ⟨⟨nS, kp _ MS hS.1⟩, ⟨nT, kp _ MT hS.2.1⟩, ZI.mono fun o ho _ => kp _ ho hS.2.2.1, D.mono fun o ho => kp _ ho hS.2.2.2, fun g hg => ⟨kp _ (fr g (List.mem_append_left _ hg)).1 (hfs g hg).1, kp _ (fr g (List.mem_append_left _ hg)).2 (hfs g hg).2⟩⟩
theorem CI.itNe {w : World} {led : Led} {S0 T0 Z Dn : Addr} {t : Str → Option Str} {Cyc : Str → Prop} {nds : List Nd} {fs : List FE} {f : FE} {seen : List Str} (h : CI t Cyc nds (fs ++ [f]) seen) (SK : StkIn w led S0 T0 Z Dn (fs ++ [f]) seen) (ND : NDL led) (hl : (nds.map (·.lst)).Nodup) : ∀ g ∈ fs, g.q ≠ f.it ∧ g.it ≠ f.it ∧ g.q ≠ f.it := by
  intro g hg
  obtain ⟨m1, m2⟩ := SK.fr g (List.mem_append_left _ hg)
  obtain ⟨_, m4⟩ := SK.fr f (List.mem_append_right _ (.head _))
  refine ⟨ND.neC m1 m4 (by simp), fun e => ?_, ND.neC m1 m4 (by simp)⟩
  rw [e] at m2
  have := ND.eq m2 m4
  have hlst : g.lst = f.lst := by injection this with _ _ h3; injection h3 with h4; simp at h4; exact h4.1
  obtain ⟨n1, k1, a1, b1, _⟩ := h.nd g (List.mem_append_left _ hg)
  obtain ⟨n2, k2, a2, b2, _⟩ := h.nd f (List.mem_append_right _ (.head _))
  have : n1 = n2 := eq_of_lst hl k1 k2 (by rw [b1, b2, hlst])
  have hn := h.nodup
  rw [List.map_append, List.nodup_append] at hn
  exact hn.2.2 g.name (List.mem_map_of_mem (f := (·.name)) hg) f.name (by simp) (by rw [← a1, ← a2, this])
theorem StkIn.take {w : World} {led : Led} {S0 T0 Z Dn : Addr} {t : Str → Option Str} {Cyc : Str → Prop} {nds : List Nd} {fs : List FE} {f : FE} {seen : List Str} (SK : StkIn w led S0 T0 Z Dn (fs ++ [f]) seen) (h : CI t Cyc nds (fs ++ [f]) seen) (ND : NDL led) (hl : (nds.map (·.lst)).Nodup) :
    StkIn w (upd led f.it (iterObj f.lst (f.pos + 1))) S0 T0 Z Dn (fs ++ [f.up]) seen := by
  have ne := h.itNe SK ND hl
  obtain ⟨Mq, Mi⟩ := SK.fr f (List.mem_append_right _ (.head _))
  obtain ⟨⟨nS, MS⟩, ⟨nT, MT⟩, ZI, D, fr⟩ := SK
  have e1 : stkVs (fs ++ [f.up]) = stkVs (fs ++ [f]) := by simp
  have e2 : itVs (fs ++ [f.up]) = itVs (fs ++ [f]) := by simp
  have e3 : ikv (fs ++ [f.up]) = ikv (fs ++ [f]) := by rw [ikv, ikv, ikvF_append, ikvF_append]; rfl
  refine ⟨⟨nS, ?_⟩, ⟨nT, ?_⟩, ?_, ?_, ?_⟩
  · rw [e1]; exact mem_upd_ne MS (ND.neC MS Mi (by simp))
  · rw [e2]; exact mem_upd_ne MT (ND.neC MT Mi (by simp))
  · exact ZI.mono fun o ho hc => mem_upd_ne ho (ND.neC ho Mi (by rw [hc]; simp))
  · rw [e3]; exact D.keepCls fun o ho hc => mem_upd_ne ho (ND.neC ho Mi (by rw [hc]; simp))
  · intro g hg
    rcases List.mem_append.mp hg with hg | hg
    · obtain ⟨m1, m2⟩ := fr g (List.mem_append_left _ hg)
      exact ⟨mem_upd_ne m1 (ne g hg).1, mem_upd_ne m2 (ne g hg).2.1⟩
    · rw [List.mem_singleton.mp hg]
      exact ⟨mem_upd_ne Mq (ND.neC Mq Mi (by simp)), mem_upd_self Mi⟩
theorem StkIn.pop' {w : World} {led : Led} {S0 T0 Z Dn : Addr} {fs : List FE} {f : FE} {seen : List Str} {nS nT nS' nT' : Nat} {oD' : Obj} {vs1 vs2 : List Value} {kvs : List (Str × Value)} (ND : NDL led) (q6 : S0 ≠ T0) (q9 : T0 ≠ Dn) (q10 : S0 ≠ Dn) (q4 : T0 ≠ Z) (q5 : S0 ≠ Z) (q8 : Z ≠ Dn)
    (MS : (S0, listOf vs1.toArray nS) ∈ led) (MT : (T0, listOf vs2.toArray nT) ∈ led) (ZI : SetIn w led Z seen) (DC : DictIn w led Dn kvs) (hf : ∀ g ∈ fs, (g.q, nextObj g.it) ∈ led ∧ (g.it, iterObj g.lst g.pos) ∈ led) (hn : f.name ∉ fs.map (·.name))
    (D' : DictIn w (upd (upd led S0 (listOf (stkVs fs).toArray nS')) Dn oD') Dn (without (ikv (fs ++ [f])) f.name)) :
    StkIn w (upd (upd (upd led S0 (listOf (stkVs fs).toArray nS')) Dn oD') T0 (listOf (itVs fs).toArray nT')) S0 T0 Z Dn fs seen := by
  obtain ⟨_, oD, MD, hD⟩ := id DC
  refine ⟨⟨nS', mem_upd_ne (mem_upd_ne (mem_upd_self MS) q10) q6⟩, ⟨nT', mem_upd_self (mem_upd_ne (mem_upd_ne MT q6.symm) q9)⟩, ?_, ?_, fun g hg => ?_⟩
  · exact ZI.mono fun o ho _ => mem_upd_ne (mem_upd_ne (mem_upd_ne ho q5.symm) q8) q4.symm
  · rw [ikv_without hn] at D'
    exact D'.mono fun o ho => mem_upd_ne ho q9.symm
  · obtain ⟨m1, m2⟩ := hf g hg
    have c1 := ND.neC m1 MS (by simp)
    have c2 := ND.neC m1 MD (by rw [isDict_cls hD]; simp)
    have c3 := ND.neC m1 MT (by simp)
    have c4 := ND.neC m2 MS (by simp)
    have c5 := ND.neC m2 MD (by rw [isDict_cls hD]; simp)
    have c6 := ND.neC m2 MT (by simp)
    exact ⟨mem_upd_ne (mem_upd_ne (mem_upd_ne m1 c1) c2) c3, mem_upd_ne (mem_upd_ne (mem_upd_ne m2 c4) c5) c6⟩

theorem rst_FlyL : True := by
  w_top off
  trivial
theorem FlyT.back {g h : Heap} {l : List Env} {frs f led : Led} {e C : Addr} (u : TI.SameUp frs f) (F : FlyT g l f led e C h) : FlyT g l frs led e C h :=
  let ⟨B, t, frs', SU, r⟩ := F; ⟨B, t, frs', u.trans SU, r⟩
theorem leaveL {prog : Program} {w : World} {A : Around} {E : Value → Shared → Prop} {s' : Shared} {g h : Heap} {L a e C : Addr} {m : Str → Option Value} {name : Str} {scope : Scope} {cd : Value} {l : List Env} {frs cur : Led}
    {Q : Unit → Shared → Prop} {vs : List Value} (hfr : A.frames = some l) (Fs : TI.Frs l frs) (NDf : NDL frs) (hx : Heap.MadeExcOf h s'.heap e (.ref C) vs) (F : Fr g L h m) (N : News g L h cur) (ND : NDL cur) (hf : FrmIn frs cur)
    (k : ∀ h' new, (∀ q ∈ new, q ∈ cur) → (∀ q ∈ cur, q.1 ∉ frs.map (·.1) → q ∈ new) → FlyT g l frs new e C h' → Q () { s' with heap := h' }) (hk : scope.kind = .function := by rfl) :
    wpAny (model prog w) (A.deeper (envOf name scope L a cd)) (leaving (envOf name scope L a cd) (.ref e)) Q E s' := by
  obtain ⟨f, su, hs⟩ := hf
  have NDf' : NDL f := by unfold NDL at NDf ⊢; rw [sameUp_keys su]; exact NDf
  obtain ⟨new, n1, n2, n3⟩ := split_frs ND hs NDf'
  refine leaveT hfr (Fs.up su) hx F (news_sub' N n2) n1 (fun h' Fl => ?_) hk
  exact k h' new (fun q hq => n2 q (List.mem_append_left _ hq)) (fun q hq hn => n3 q hq (by rw [sameUp_keys su]; exact hn)) (Fl.back su)
theorem SpecT.useL {w : World} {k : Nat} {f : Addr} {args : List Value} {Pre : Led → Prop} {Post : Led → Value → Led → Prop} (S : SpecT w k f args Pre Post)
    {p : Program} {loose : List Str} {mean : ExcName → Option Value} {mg mb : Str → Option Value} {A : Around} {env' : Env} {l : List Env} {g : Heap} {L : Addr} {m : Str → Option Value} {s : Shared} {cur frs : Led} {Q E : Value → Shared → Prop}
    (hh : A.handled = none) (hA : A.frames = some l) (hf : env'.frame = some L) (hke : env'.scope.kind = .function) (hdp : A.depth + 1 + k < recursionLimit) (hu : A.units + 3 + 16 * k < cLine)
    (Fs : TI.Frs l frs) (NDf : NDL frs) (F : Fr g L s.heap m) (X : (hd.heap_1 w.params).In g) (N : News g L s.heap cur) (ND : NDL cur) (T : Top p loose mean mg mb g) (hfi : FrmIn frs cur) (pre : ∀ new, (∀ q ∈ cur, q.1 ∉ frs.map (·.1) → q ∈ new) → Pre new)
    (ret : ∀ v h' tk' new led' f, (∀ q ∈ new, q ∈ cur) → (∀ q ∈ cur, q.1 ∉ frs.map (·.1) → q ∈ new) → TI.SameUp frs f → Fr g L h' m → News g L h' (led' ++ f) → NDL (led' ++ f) → FrmIn frs (led' ++ f) → Post new v led' → Q v { s with heap := h', toks := tk' }) :
    wpAny (model P w) (A.deeper env') (call (.ref f) args) Q E s := by
  obtain ⟨fr, su, hs⟩ := hfi
  have NDf' : NDL fr := by unfold NDL at NDf ⊢; rw [sameUp_keys su]; exact NDf
  obtain ⟨new, n1, n2, n3⟩ := split_frs ND hs NDf'
  have n3' : ∀ q ∈ cur, q.1 ∉ frs.map (·.1) → q ∈ new := fun q hq hn => n3 q hq (by rw [sameUp_keys su]; exact hn)
  refine SpecT.use S hh hA hf hke hdp hu (Fs.up su) F X (news_sub' N n2) n1 T (pre new n3') fun v h' tk' led' f' su' F' N' ND' post => ?_
  exact ret v h' tk' new led' f' (fun q hq => n2 q (List.mem_append_left _ hq)) n3' (su.trans su') F' N' ND' ⟨f', su.trans su', fun q hq => List.mem_append_right _ hq⟩ post

theorem rst_LBase : True := by
  w_top off
  trivial
/-- a dict of texts under texts -/
noncomputable abbrev Tab := List (Str × Str)
noncomputable def lk (tab : Tab) (y : Str) : Option Str := (tab.find? fun p => p.1 = y).map (·.2)
noncomputable def StrD (w : World) (led : Led) (d : Addr) (tab : Tab) : Prop := ∃ kvs, DictIn w led d kvs ∧ kvs.map (fun p => (p.1, sv p.2)) = tab.map fun p => (p.1, some p.2)
theorem StrD.at {kvs : List (Str × Value)} {tab : Tab} (h : kvs.map (fun p => (p.1, sv p.2)) = tab.map fun p => (p.1, some p.2)) (y : Str) : (lk tab y = none ∧ valueAt kvs y = none) ∨ ∃ s t, lk tab y = some s ∧ valueAt kvs y = some (.str s t) := by
  induction kvs generalizing tab with
  | nil => cases tab with
    | nil => exact .inl ⟨rfl, rfl⟩
    | cons => simp at h
  | cons p r ih => cases tab with
    | nil => simp at h
    | cons q tr =>
      simp only [List.map_cons, List.cons.injEq, Prod.mk.injEq] at h
      obtain ⟨⟨h1, h2⟩, h3⟩ := h
      by_cases e : q.1 = y
      · obtain ⟨t, ht⟩ := sv_some h2
        refine .inr ⟨q.2, t, ?_, ?_⟩
        · simp [lk, e]
        · simp [valueAt, h1, e, ht]
      · have e2 : p.1 ≠ y := by rw [h1]; exact e
        simp only [lk, valueAt, List.find?_cons, e, e2, decide_false]
        exact ih h3
theorem StrD.keys {kvs : List (Str × Value)} {tab : Tab} (h : kvs.map (fun p => (p.1, sv p.2)) = tab.map fun p => (p.1, some p.2)) : kvs.map (·.1) = tab.map (·.1) := by
  have := congrArg (List.map Prod.fst) h; simpa [Function.comp_def] using this
theorem StrD.len {kvs : List (Str × Value)} {tab : Tab} (h : kvs.map (fun p => (p.1, sv p.2)) = tab.map fun p => (p.1, some p.2)) : kvs.length = tab.length := by
  have := congrArg List.length h; simpa using this
noncomputable def stepsN (t : Str → Option Str) : Nat → Str → Nat
  | 0, _ => 0
  | n + 1, y => match t y with
    | none => 0
    | some z => stepsN t n z + 1
section
variable {prog : Program} {w : World} {A : Around} {E : Value → Shared → Prop} {s : Shared} {b : Heap} {L D : Addr} {led : Led} {n : Nat} {vs : List Value} {ss : List Str} {k : Str} {t : Tok} {Q : Value → Shared → Prop}
theorem l_in_yes (N : News b L s.heap led) (M : (D, listOf vs.toArray n) ∈ led) (hv : StrsAre vs ss) (hk : k ∈ ss) (h : Q (.bool true) s) : wpAny (model prog w) A (compareOp .In (.str k t) (.ref D)) Q E s := by
  refine in_list_strs (isList_of N M) (strsAre_lib hv) ?_
  rw [List.any_eq_true.mpr ⟨k, hk, by simp⟩]; exact h
theorem l_in_no (N : News b L s.heap led) (M : (D, listOf vs.toArray n) ∈ led) (hv : StrsAre vs ss) (hk : k ∉ ss) (h : Q (.bool false) s) : wpAny (model prog w) A (compareOp .In (.str k t) (.ref D)) Q E s := by
  refine in_list_strs (isList_of N M) (strsAre_lib hv) ?_
  rw [List.any_eq_false.mpr fun x hx e => hk (by simp at e; exact e ▸ hx)]; exact h
theorem l_nin_yes (N : News b L s.heap led) (M : (D, listOf vs.toArray n) ∈ led) (hv : StrsAre vs ss) (hk : k ∉ ss) (h : Q (.bool true) s) : wpAny (model prog w) A (compareOp .NotIn (.str k t) (.ref D)) Q E s := by
  refine notin_list_strs (isList_of N M) (strsAre_lib hv) ?_
  rw [List.any_eq_false.mpr fun x hx e => hk (by simp at e; exact e ▸ hx)]; exact h
theorem l_nin_no (N : News b L s.heap led) (M : (D, listOf vs.toArray n) ∈ led) (hv : StrsAre vs ss) (hk : k ∈ ss) (h : Q (.bool false) s) : wpAny (model prog w) A (compareOp .NotIn (.str k t) (.ref D)) Q E s := by
  refine notin_list_strs (isList_of N M) (strsAre_lib hv) ?_
  rw [List.any_eq_true.mpr ⟨k, hk, by simp⟩]; exact h
end
theorem ldn {M : Model} {A : Around} {E : Value → Shared → Prop} {s : Shared} {b : Heap} {L a : Addr} {m : Str → Option Value} {cn x : Str} {cs : Scope} {ccd v : Value} {Q : Value → Shared → Prop} (F : Fr b L s.heap m) (hv : m x = some v) (h : Q v s)
    (hk : cs.kind = .function) (hx : (envOf cn cs L a ccd).kindOf x = some .local) : wpAny M A (loadName (envOf cn cs L a ccd) x) Q E s := wpAny_loadName_local hk hx F.ns hv h
/-- a tuple of two texts -/
noncomputable def PairAt (led : Led) (v : Value) (p : Str × Str) : Prop := ∃ T t1 t2, v = .ref T ∧ (T, tupOf #[.str p.1 t1, .str p.2 t2] 0) ∈ led
noncomputable def PairsAre (led : Led) (vs : List Value) (ps : List (Str × Str)) : Prop := vs.length = ps.length ∧ ∀ (i : Nat) v p, vs[i]? = some v → ps[i]? = some p → PairAt led v p
noncomputable def PairsL (led : Led) (a : Addr) (ps : List (Str × Str)) : Prop := ∃ vs n, (a, listOf vs.toArray n) ∈ led ∧ PairsAre led vs ps
theorem PairAt.mono {led led' : Led} {v : Value} {p : Str × Str} (h : PairAt led v p) (k : ∀ q ∈ led, q ∈ led') : PairAt led' v p := let ⟨T, t1, t2, e, m⟩ := h; ⟨T, t1, t2, e, k _ m⟩
theorem PairsAre.mono {led led' : Led} {vs : List Value} {ps : List (Str × Str)} (h : PairsAre led vs ps) (k : ∀ q ∈ led, q ∈ led') : PairsAre led' vs ps := ⟨h.1, fun i v p a b => (h.2 i v p a b).mono k⟩
theorem PairsL.mono {led led' : Led} {a : Addr} {ps : List (Str × Str)} (h : PairsL led a ps) (k : ∀ q ∈ led, q ∈ led') : PairsL led' a ps := let ⟨vs, n, m, r⟩ := h; ⟨vs, n, k _ m, r.mono k⟩
theorem PairsAre.get {led : Led} {vs : List Value} {ps : List (Str × Str)} (h : PairsAre led vs ps) {i : Nat} {v : Value} (hv : vs[i]? = some v) : ∃ p, ps[i]? = some p ∧ PairAt led v p := by
  have hi := (List.getElem?_eq_some_iff.mp hv).1
  rw [h.1] at hi
  have hp : ps[i]? = some (ps[i]'hi) := List.getElem?_eq_getElem hi
  exact ⟨_, hp, h.2 i v _ hv hp⟩
theorem PairsAre.nil {led : Led} : PairsAre led [] [] := ⟨rfl, fun i v p a => by simp at a⟩
theorem PairsAre.snoc {led : Led} {vs : List Value} {ps : List (Str × Str)} {v : Value} {p : Str × Str} (h : PairsAre led vs ps) (hp : PairAt led v p) : PairsAre led (vs ++ [v]) (ps ++ [p]) := by
  refine ⟨by simp [h.1], fun i v' p' a b => ?_⟩
  rw [getElem?_snoc] at a b
  rw [← h.1] at b
  split at a
  · rename_i hi
    rw [if_pos hi] at b
    exact h.2 i v' p' a b
  · rename_i hi
    rw [if_neg hi] at b
    split at a
    · rename_i he
      rw [if_pos he] at b
      cases a; cases b; exact hp
    · cases a
noncomputable def ins (acc : List Str) (y : Str) : List Str := if y ∈ acc then acc else acc ++ [y]
noncomputable def namedOf (ps : List (Str × Str)) : List Str := ps.foldl (fun acc p => ins (ins acc p.1) p.2) []
theorem ins_len (acc : List Str) (y : Str) : (ins acc y).length ≤ acc.length + 1 := by unfold ins; split <;> simp
theorem namedOf_take {ps : List (Str × Str)} {i : Nat} {p : Str × Str} (h : ps[i]? = some p) : namedOf (ps.take (i + 1)) = ins (ins (namedOf (ps.take i)) p.1) p.2 := by
  unfold namedOf; rw [List.take_add_one, h, List.foldl_append]; rfl
/-- the way that a name's pointers go, till they come back or end -/
noncomputable def wayF (t : Str → Option Str) : Nat → List Str → List Str
  | 0, l => l
  | n + 1, l => match l.getLast? with
    | none => l
    | some x => match t x with
      | none => l
      | some z => if z ∈ l then l else wayF t n (l ++ [z])
noncomputable def ringAt (t : Str → Option Str) (n : Nat) (y : Str) : Option (List Str) := if (wayF t n [y]).getLast?.bind t = some y then some (y :: (wayF t n [y]).reverse) else none
noncomputable def ringOf (t : Str → Option Str) (n : Nat) (names : List Str) : Option (List Str) := names.findSome? (ringAt t n)
/-- a list of texts, or None -/
noncomputable def OptL (led : Led) (v : Value) : Option (List Str) → Prop
  | none => v = .none
  | some l => ∃ r, v = .ref r ∧ StrL led r l
theorem lk_mem {tab : Tab} {y z : Str} (h : lk tab y = some z) : y ∈ tab.map (·.1) := by
  unfold lk at h
  rw [Option.map_eq_some_iff] at h
  obtain ⟨p, hp, _⟩ := h
  have h1 := List.mem_of_find?_eq_some hp
  have h2 := List.find?_some hp
  exact List.mem_map.mpr ⟨p, h1, by simpa using h2⟩
section
variable {prog : Program} {w : World} {A : Around} {E : Value → Shared → Prop} {s : Shared} {b : Heap} {L D : Addr} {m : Str → Option Value} {led : Led} {n : Nat} {vs : List Value} {value slice : Expr}
theorem l_rev {t : Tok} {ops : List Value} {Q : Value → Shared → Prop} (F : Fr b L s.heap m) (N : News b L s.heap led) (M : (D, listOf vs.toArray n) ∈ led) (hz : vs.length ≤ sizeLine)
    (h : ∀ (D' : Addr) h', Fr b L h' m → News b L h' ((D', listOf vs.reverse.toArray 0) :: led) → (∀ p ∈ led, p.1 < D') → Q (.ref D') { s with heap := h' })
    (hs : subscripted slice false (.ref D) (.ref s.heap.objs.size) = operate ops (getItem (.ref D) (.ref s.heap.objs.size))) (ht : ∀ r, letTemporaryGo value (.ref D) r = pure ()) :
    wpAny (model prog w) A (subscriptTail value slice (.ref D) (.ref s.heap.objs.size)) Q E { s with heap := s.heap.push { cls := .type "slice", data := .fields #[.none, .none, .int (-1) t] } } :=
  kmk_slice3_lit F N (isList_of N M) .none .none (.int (-1) t) (by decide) (by rw [krv_pick]) h hs ht (by rw [List.size_toArray]; exact hz)
end
theorem wayF_none {t : Str → Option Str} {k : Nat} {pre : List Str} {x : Str} (h : t x = none) : wayF t k (pre ++ [x]) = pre ++ [x] := by
  cases k <;> simp [wayF, h]
theorem wayF_in {t : Str → Option Str} {k : Nat} {pre : List Str} {x z : Str} (h : t x = some z) (hz : z ∈ pre ++ [x]) : wayF t k (pre ++ [x]) = pre ++ [x] := by
  cases k with
  | zero => rfl
  | succ k =>
    have e : (pre ++ [x]).getLast? = some x := by simp
    simp only [wayF, e, h]
    rw [if_pos hz]
theorem wayF_next {t : Str → Option Str} {k : Nat} {pre : List Str} {x z : Str} (h : t x = some z) (hz : z ∉ pre ++ [x]) : wayF t (k + 1) (pre ++ [x]) = wayF t k (pre ++ [x] ++ [z]) := by
  have e : (pre ++ [x]).getLast? = some x := by simp
  simp only [wayF, e, h]
  rw [if_neg hz]
theorem ringAt_no {t : Str → Option Str} {n : Nat} {y x : Str} {pre : List Str} (h : wayF t n [y] = pre ++ [x]) (hx : t x ≠ some y) : ringAt t n y = none := by
  unfold ringAt; rw [h, if_neg]; simpa using hx
theorem ringAt_yes {t : Str → Option Str} {n : Nat} {y x : Str} {pre : List Str} (h : wayF t n [y] = pre ++ [x]) (hx : t x = some y) : ringAt t n y = some (y :: (pre ++ [x]).reverse) := by
  unfold ringAt; rw [h, if_pos]; simpa using hx
theorem ringOf_some {t : Str → Option Str} {n : Nat} {names : List Str} {i : Nat} {y : Str} {l : List Str} (h : names[i]? = some y) (hno : ∀ (j : Nat) u, j < i → names[j]? = some u → ringAt t n u = none) (hr : ringAt t n y = some l) : ringOf t n names = some l := by
  unfold ringOf
  induction names generalizing i with
  | nil => simp at h
  | cons a r ih =>
    cases i with
    | zero => simp at h; subst h; simp [hr]
    | succ i =>
      rw [List.findSome?_cons, hno 0 a (by exact Nat.succ_pos _) rfl]
      exact ih (i := i) (by simpa using h) fun j u hj hu => hno (j + 1) u (by exact Nat.succ_lt_succ hj) (by simpa using hu)
theorem ringOf_none {t : Str → Option Str} {n : Nat} {names : List Str} (hno : ∀ u ∈ names, ringAt t n u = none) : ringOf t n names = none := by
  unfold ringOf; rw [List.findSome?_eq_none_iff]; exact hno
theorem rep1 {prog : Program} {w : World} {A : Around} {E : Value → Shared → Prop} {s : Shared} {x y z : Str} {t u v : Tok} {Q : Value → Shared → Prop} (hu : u ≠ 0) (hv : v ≠ 0) (huv : u ≠ v) (hyz : (y == z) = false) (hb : x.length + (x.length + 1) * z.length ≤ 16777216)
    (hq : ∀ t' k, s.toks ≤ k → Q (.str (Txt.replace x y z) t') { s with toks := k }) : wpAny (model prog w) A (call (.builtin "str.replace") [.str x t, .str y u, .str z v]) Q E s :=
  wpAny_with_toks (Nat.le_refl _) (SC.replace hu hv huv hyz hb fun t' k hk => hq t' k hk)
theorem l_join {prog : Program} {w : World} {A : Around} {E : Value → Shared → Prop} {s : Shared} {b : Heap} {L D : Addr} {led : Led} {n : Nat} {vs : List Value} {ss : List Str} {x : Str} {t : Tok} {Q : Value → Shared → Prop} (N : News b L s.heap led) (M : (D, listOf vs.toArray n) ∈ led) (hv : StrsAre vs ss)
    (hok : (ss.map (·.length)).sum + ss.length * x.length ≤ 16777216) (h : ∀ t' k, Q (.str (Txt.join x ss) t') { s with toks := k }) : wpAny (model prog w) A (call (.builtin "str.join") [.str x t, .ref D]) Q E s :=
  join_list (isList_of N M) (by have := strsAre_lib hv; simpa using this) hok h
/-- the names of the law -/
noncomputable def nms : List Str := [Str.ofString "", Str.ofString "a", Str.ofString "A b", Str.ofString "\"c,d\"e", Str.ofString "it's", Str.ofString "\\", Str.ofString "z=\"x\""]
noncomputable def dressed (x : Str) : List Str := x.cps.toList.map fun c => Str.ofString "\\" ++ ⟨#[c]⟩
noncomputable def wr (x : Str) (dr : Nat) : Str :=
  if dr = 0 ∧ x ≠ Str.ofString "" then x
  else if dr = 1 then Str.ofString "\"" ++ Txt.join (Str.ofString "") (dressed x) ++ Str.ofString "\""
  else Str.ofString "\"" ++ Txt.replace (Txt.replace x (Str.ofString "\\") (Str.ofString "\\\\")) (Str.ofString "\"") (Str.ofString "\\\"") ++ Str.ofString "\""
theorem nms_len : ∀ x ∈ nms, x.length ≤ 8 ∧ (Txt.replace x (Str.ofString "\\") (Str.ofString "\\\\")).length ≤ 100 ∧ (Txt.replace (Txt.replace x (Str.ofString "\\") (Str.ofString "\\\\")) (Str.ofString "\"") (Str.ofString "\\\"")).length ≤ 100
    ∧ (Str.ofString "\"" ++ Txt.replace (Txt.replace x (Str.ofString "\\") (Str.ofString "\\\\")) (Str.ofString "\"") (Str.ofString "\\\"")).length ≤ 100 ∧ ((dressed x).map (·.length)).sum + (dressed x).length * (Str.ofString "").length ≤ 100
    ∧ (Txt.join (Str.ofString "") (dressed x)).length ≤ 100 ∧ (Str.ofString "\"" ++ Txt.join (Str.ofString "") (dressed x)).length ≤ 100 ∧ (wr x 0).length ≤ 100 ∧ (wr x 1).length ≤ 100 ∧ (wr x 2).length ≤ 100 := by decide +kernel
/-- an entry as parse_http_list hands it on -/
noncomputable def rhs (v : Str) (q : Bool) : Str := if q then Str.ofString "\"" ++ v ++ Str.ofString "\"" else v
noncomputable def ent (k v : Str) (q : Bool) : Str := k ++ Str.ofString "=" ++ rhs v q
noncomputable def keys6 : List Str := nms.take 6
theorem ent_split : ∀ k ∈ keys6, ∀ v ∈ nms, ∀ q : Bool, (ent k v q).length ≤ 50 ∧ (rhs v q).length ≤ 20 ∧ Txt.splitMax (ent k v q) (Str.ofString "=") 1 = [k, rhs v q] := by decide +kernel
theorem rhs_q : ∀ v ∈ nms, (seqIndex? 0 (rhs v true).length).bind ((rhs v true).cps[·]?) = some 34 ∧ (seqIndex? (-1) (rhs v true).length).bind ((rhs v true).cps[·]?) = some 34 ∧ Txt.slice (rhs v true) (some 1) (some (-1)) = v := by decide +kernel
theorem rhs_n : ∀ v ∈ nms, v ≠ Str.ofString "" → (∃ c, (seqIndex? 0 (rhs v false).length).bind ((rhs v false).cps[·]?) = some c ∧ c ≠ 34) ∨ ((seqIndex? 0 (rhs v false).length).bind ((rhs v false).cps[·]?) = some 34 ∧ ∃ c, (seqIndex? (-1) (rhs v false).length).bind ((rhs v false).cps[·]?) = some c ∧ c ≠ 34) := by
  intro v hv hne
  simp only [nms, List.mem_cons, List.not_mem_nil, or_false] at hv
  rcases hv with rfl | rfl | rfl | rfl | rfl | rfl | rfl
  · exact absurd rfl hne
  · exact .inl ⟨97, by decide +kernel, by decide⟩
  · exact .inl ⟨65, by decide +kernel, by decide⟩
  · exact .inr ⟨by decide +kernel, 101, by decide +kernel, by decide⟩
  · exact .inl ⟨105, by decide +kernel, by decide⟩
  · exact .inl ⟨92, by decide +kernel, by decide⟩
  · exact .inl ⟨122, by decide +kernel, by decide⟩
noncomputable def tset (tab : Tab) (k v : Str) : Tab := if tab.any (fun p => p.1 = k) then tab.map (fun p => if p.1 = k then (p.1, v) else p) else tab ++ [(k, v)]
theorem tset_stored {kvs : List (Str × Value)} {tab : Tab} (h : kvs.map (fun p => (p.1, sv p.2)) = tab.map fun p => (p.1, some p.2)) (k v : Str) (t : Tok) : (stored kvs k (.str v t)).map (fun p => (p.1, sv p.2)) = (tset tab k v).map fun p => (p.1, some p.2) := by
  have hany : kvs.any (fun kv => decide (kv.1 = k)) = tab.any fun p => decide (p.1 = k) := by
    have := StrD.keys h
    have h2 := congrArg (fun l : List Str => l.any fun x => decide (x = k)) this
    simpa [List.any_map, Function.comp_def] using h2
  unfold stored tset
  rw [hany]
  split
  · rw [List.map_map, List.map_map]
    have h3 : kvs.map ((fun p : Str × Value => (p.1, sv p.2)) ∘ fun kv => if kv.1 = k then (kv.1, Value.str v t) else kv) = (kvs.map fun p => (p.1, sv p.2)).map fun p => if p.1 = k then (p.1, some v) else p := by
      rw [List.map_map]; exact List.map_congr_left fun p _ => by simp only [Function.comp]; split <;> simp [sv]
    have h4 : tab.map ((fun p : Str × Str => (p.1, some p.2)) ∘ fun p => if p.1 = k then (p.1, v) else p) = (tab.map fun p => (p.1, some p.2)).map fun p => if p.1 = k then (p.1, some v) else p := by
      rw [List.map_map]; exact List.map_congr_left fun p _ => by simp only [Function.comp]; split <;> simp
    rw [h3, h4, h]
  · rw [List.map_append, List.map_append, h]; simp [sv]
section
variable {prog : Program} {w : World} {A : Around} {E : Value → Shared → Prop} {s : Shared} {b : Heap} {L : Addr} {m : Str → Option Value} {led : Led} {x y : Str} {t u v : Tok} {value slice : Expr} {Q : Value → Shared → Prop}
theorem s_split {k : Int} {a c : Str} (F : Fr b L s.heap m) (N : News b L s.heap led) (hsz : x.length + 2 ≤ sizeLine) (hy : (y.length == 0) = false) (hk : (decide (k < -(2 ^ 63 : Int)) || decide (k ≥ 2 ^ 63)) = false) (e : Txt.splitMax x y k = [a, c])
    (h : ∀ (D : Addr) h' tk t1 t2, Fr b L h' m → News b L h' ((D, listOf #[.str a t1, .str c t2] 0) :: led) → (∀ p ∈ led, p.1 < D) → Q (.ref D) { s with heap := h', toks := tk }) : wpAny (model prog w) A (call (.builtin "str.split") [.str x t, .str y u, .int k v]) Q E s := by
  refine splitN2A (hsz := hsz) F N hy hk fun l h' tk hl _ _ _ F' N' => ?_
  rw [e] at hl
  obtain ⟨p, q, rfl⟩ : ∃ p q, l = [p, q] := by
    rcases l with _ | ⟨p, _ | ⟨q, _ | ⟨r, l⟩⟩⟩ <;> simp at hl
    exact ⟨p, q, rfl⟩
  simp at hl
  obtain ⟨h1, h2⟩ := hl
  refine h _ h' tk p.2 q.2 F' ?_ fun p hp => Heap.lt_size (N p hp).1
  rw [← h1, ← h2]
  exact N'
theorem s_item {i : Int} {c : Nat} (hr : (decide (i < -(2 ^ 63 : Int)) || decide (i ≥ 2 ^ 63)) = false) (hc : (seqIndex? i x.length).bind (x.cps[·]?) = some c) (h : ∀ t' k, Q (.str ⟨#[c]⟩ t') { s with toks := k })
    (hs : subscripted slice false (.str x t) (.int i u) = operate [.str x t, .int i u] (getItem (.str x t) (.int i u)) := by with_unfolding_all rfl) : wpAny (model prog w) A (subscriptTail value slice (.str x t) (.int i u)) Q E s :=
  tail_any (typeIs_str s x t) F.slot_str_getitem.lookup (P.getItem_str hr hc (h _ _)) hs
end
structure HS where
  res : List Str
  part : Str
  esc : Bool
  quo : Bool
noncomputable def sgn (c : Nat) : Str := ⟨#[c]⟩
noncomputable def hstep (st : HS) (c : Nat) : HS :=
  if st.esc then { st with part := st.part ++ sgn c, esc := false }
  else if st.quo then
    if c = 92 then { st with esc := true }
    else if c = 34 then { st with quo := false, part := st.part ++ sgn c }
    else { st with part := st.part ++ sgn c }
  else if c = 44 then { st with res := st.res ++ [st.part], part := Str.ofString "" }
  else if c = 34 then { st with quo := true, part := st.part ++ sgn c }
  else { st with part := st.part ++ sgn c }
noncomputable def hs0 : HS := ⟨[], Str.ofString "", false, false⟩
noncomputable def hrun (l : List Nat) : HS := l.foldl hstep hs0
noncomputable def httpRes (st : HS) : List Str := if st.part = Str.ofString "" then st.res else st.res ++ [st.part]
noncomputable def httpOf (x : Str) : List Str := (httpRes (hrun x.cps.toList)).map Txt.strip
theorem hrun_take {l : List Nat} {i c : Nat} (h : l[i]? = some c) : hrun (l.take (i + 1)) = hstep (hrun (l.take i)) c := by unfold hrun; rw [List.take_add_one, h, List.foldl_append]; rfl
noncomputable def HBound (i : Nat) (st : HS) : Prop := st.part.length ≤ i ∧ st.res.length ≤ i ∧ ∀ r ∈ st.res, r.length ≤ i
theorem HBound.step {i : Nat} {st : HS} (h : HBound i st) (c : Nat) : HBound (i + 1) (hstep st c) := by
  have hl : (st.part ++ sgn c).length = st.part.length + 1 := by rw [Str.length_append]; rfl
  have h0 : (Str.ofString "").length = 0 := by decide +kernel
  obtain ⟨h1, h2, h3⟩ := h
  have h3' : ∀ r ∈ st.res, r.length ≤ i + 1 := fun r hr => Nat.le_succ_of_le (h3 r hr)
  unfold hstep
  split
  · exact ⟨by simp only [hl]; exact Nat.lt_succ_of_le h1, by simp only; exact Nat.le_succ_of_le h2, h3'⟩
  · split
    · split
      · exact ⟨by simp only; exact Nat.le_succ_of_le h1, by simp only; exact Nat.le_succ_of_le h2, h3'⟩
      · split
        · exact ⟨by simp only [hl]; exact Nat.lt_succ_of_le h1, by simp only; exact Nat.le_succ_of_le h2, h3'⟩
        · exact ⟨by simp only [hl]; exact Nat.lt_succ_of_le h1, by simp only; exact Nat.le_succ_of_le h2, h3'⟩
    · split
      · refine ⟨by simp only [h0]; exact Nat.zero_le _, by simp only [List.length_append, List.length_singleton]; exact Nat.lt_succ_of_le h2, fun r hr => ?_⟩
        rcases List.mem_append.mp hr with hr | hr
        · exact h3' r hr
        · rw [List.mem_singleton.mp hr]; exact Nat.le_succ_of_le h1
      · split
        · exact ⟨by simp only [hl]; exact Nat.lt_succ_of_le h1, by simp only; exact Nat.le_succ_of_le h2, h3'⟩
        · exact ⟨by simp only [hl]; exact Nat.lt_succ_of_le h1, by simp only; exact Nat.le_succ_of_le h2, h3'⟩
theorem cxs_C {M : Model} {A : Around} {E : Value → Shared → Prop} {s : Shared} {b : Heap} {L c : Addr} {m : Str → Option Value} {led : Led} {env : Env} {x : Str} {v : Value} {o : Obj} {v₀ : Option Value} {Q : Unit → Shared → Prop} (hc : env.cells.lookup x = some c) (F : Fr b L s.heap m) (N : News b L s.heap led) (hm : (c, o) ∈ led) (ho : o.data = .cell v₀)
    (h : ∀ h' o', o'.data = .cell (some v) → Fr b L h' m → News b L h' (upd led c o') → Q () { s with heap := h' }) (hk : env.scope.kind = .function) (hx : env.kindOf x = some .cell) :
    wpAny M A (storeName env x v) Q E s := cstore_C F N hm ho h hc hk hx
theorem cx_L {M : Model} {A : Around} {E : Value → Shared → Prop} {s : Shared} {b : Heap} {L a : Addr} {m : Str → Option Value} {cn x : Str} {cs : Scope} {ccd v : Value} {pos : Pos} {Q : Value → Shared → Prop} (F : Fr b L s.heap m) (hv : m x = some v) (h : Q v s)
    (hk : cs.kind = .function) (hx : (envOfC cn cs L a ccd).kindOf x = some .local) (hd : (x == ("__debug__" : Str)) = false) : wpAny M A (eval (.Name x pos) (envOfC cn cs L a ccd)) Q E s := wpAny_Name (wpAny_loadName_local hk hx F.ns hv h) hd

theorem rst_SActive : True := by
  w_top off
  trivial
local macro_rules | `(tactic| walk_at "enter") => `(tactic| k_dflt (refine' code_def ?k1 ?k2 ?k3 ?k4 ?k5 ?kA ?kF ?kK ?k6 ?k7 ?k8 ?k9 ?kB ?_ ?c2 ?c3 ?c4 ?c5; (case kA => assumption); (case kF => assumption); (case kK => assumption); (case k1 => k_asm); (case k2 => k_asm); (case k3 => k_asm); (case k4 => k_asm); (case k5 => k_asm); (case k6 => k_is); (case k7 => k_is); (case k8 => omega); (case k9 => first | exact BindsTo.of_eq rfl | exact binds_K (by k_in) rfl (by k_is) rfl rfl rfl); (case c5 => decide); (case kB => exact locs rfl); (case c2 => exact rfl); (case c3 => exact rfl); (case c4 => exact rfl); k_whole; intro g' L' h' FG' F' N' B' X' T'; (try dsimp only); (try k_fold)))
theorem lines_1 : True := by
  k_with "nd" => (first | assumption | (refine NDL.upd ?_; walk_at "nd") | (refine NDL.cons ?_ (by assumption); walk_at "nd") | (refine NDL.consA ?_ (by assumption); walk_at "nd"))
  k_with "ne" => (first | assumption | exact Ne.symm (by assumption) | omega)
  trivial
local macro_rules | `(tactic| k_mem) => `(tactic| first | ktr_member | assumption | exact List.mem_cons_self | (refine List.mem_cons_of_mem _ ?_; k_mem) | (apply mem_upd_self; k_mem) | (refine mem_upd_ne ?_ (by walk_at "ne"); k_mem) | (refine List.mem_append_left _ ?_; k_mem) | (refine List.mem_append_right _ ?_; k_mem))
local macro_rules | `(tactic| k_upd) => `(tactic| exact updOf (by walk_at "nd") (by k_mem))
theorem lines_2 : True := by
  k_with "call type:bool" => (((with_reducible show wpAny _ _ (call (Value.type "bool") [Value.ref _]) _ _ _); refine call_bool_list (isList_of (by assumption) (by assumption)) (by first | assumption | omega) ?_))
  trivial
theorem is_active_ok (w : World) {x dx d2 r : Addr} {np nf : Int} {ss : List Str} (hss : (ss.length : Int) < 2 ^ 63) :
    Spec w 2 118 [.ref x] (fun led => SorterIn led x dx d2 (.ref r) np nf ∧ StrL led r ss) (fun led v led' => led' = led ∧ v = .bool (decide (nf < np) || !ss.isEmpty)) := by
  intro p loose mean mg mb A A₀ env outer base b L m s led R hh hA hf hke hd hu B F X N ND T hpre hret
  obtain ⟨⟨M1, hdd, t1, t2, t3, t4, t5, t6, k1, k2, k3, k4, n, M2⟩, vs, n2, M3, hvs⟩ := hpre
  have hfit : ((vs.toArray.size : Nat) : Int) < 2 ^ 63 := by rw [List.size_toArray, hvs.length]; exact hss
  walk_at "enter"
  k_steps
  · exact hret _ _ _ led (by assumption) (by assumption) ND ⟨rfl, by simp_all⟩
  · refine hret _ _ _ led (by assumption) (by assumption) ND ⟨rfl, ?_⟩
    have hl := hvs.length
    have : ¬ nf < np := by assumption
    cases vs <;> cases ss <;> simp_all

theorem rst_SReady : True := by
  w_top off
  trivial
local macro_rules | `(tactic| walk_at "pyIter ref") => `(tactic| ((with_reducible show wpAny _ _ (pyIter (Value.ref _)) _ _ _); refine halt ?_))
theorem lines_3 : True := by
  k_with "exec For" => (((with_reducible show wpAny _ _ (exec (Stmt.For _ _ _ _ _) _) _ _ _); refine wpAny_For ?_ (by intro _; rfl)))
  k_with "sz" => (first | assumption | omega | (simp only [List.size_toArray] at *; omega))
  trivial
local macro_rules | `(tactic| walk_at "call type:tuple") => `(tactic| (k_here; (with_reducible show wpAny _ _ (call (Value.type "tuple") [Value.ref _]) _ _ _); k_dflt (refine' kde_tupleOf ?k1 ?k2 ?k3 ?k4 ?k5 ?_; (case k1 => k_asm); (case k2 => k_asm); (case k3 => exact isList_of (by k_asm) (by k_mem)); (case k4 => walk_at "sz"); (case k5 => rfl); k_whole); intro D' h' F' N' l1))
theorem lines_4 : True := by
  k_with "lk" => (first | assumption | (refine ite_ne (by decide) ?_; walk_at "lk") | exact ite_pos' rfl rfl)
  k_with "eval Name" => (((with_reducible show wpAny _ _ (eval (Expr.Name _ _) (envOf _ _ _ _ _)) _ _ _); (with_reducible refine ld (by assumption) (by walk_at "lk") ?_ (by kernel_rfl!) (by kernel_rfl!) (by decide +kernel))))
  k_with "sub" => (first | exact sub_self | assumption | (refine sub_cons ?_; walk_at "sub"))
  k_with "so" => (first | assumption | (refine SorterIn.mono (by assumption) ?_; walk_at "sub") | exact (show ∀ o, SorterIn (upd _ _ o) _ _ _ _ _ _ by assumption) _)
  k_with "di" => (first | assumption | (refine DictIn.sub (by assumption) ?_; walk_at "sub") | exact (show ∀ o, DictIn _ (upd _ _ o) _ _ by assumption) _)
  k_with "subscriptTail" => (((with_reducible show wpAny _ _ (subscriptTail _ _ (Value.ref _) (Value.str _ _)) _ _ _); with_reducible first | refine d_item (by assumption) (by walk_at "di") (by assumption) ?_ (by with_unfolding_all rfl) | refine halt ?_))
  k_with "getAttr ref" => (((with_reducible show wpAny _ _ (getAttr (Value.ref _) (Str.ofString _) _) _ _ _); with_reducible first
     | refine so_info (by assumption) (by assumption) (by assumption) (by walk_at "so") ?_
     | refine so_ready (by assumption) (by assumption) (by assumption) (by walk_at "so") rfl ?_
     | (refine so_passed (by assumption) (by assumption) (by assumption) (by walk_at "so") ?_; intro _)
     | (refine so_finished (by assumption) (by assumption) (by assumption) (by walk_at "so") ?_; intro _)
     | refine nd_np (by assumption) (by assumption) (by assumption) (by k_mem) (by k_mem) ?_
     | refine nd_node (by assumption) (by assumption) (by assumption) (by k_mem) (by k_mem) ?_
     | refine nd_succ (by assumption) (by assumption) (by assumption) (by k_mem) (by k_mem) ?_
     | refine halt ?_))
  k_with "setAttr ref" => (((with_reducible show wpAny _ _ (setAttr (Value.ref _) (Str.ofString _) _) _ _ _); with_reducible first
     | (refine so_setReady (by assumption) (by assumption) (by assumption) (by walk_at "nd") (by walk_at "so") ?_; intro _ _ _ _ _)
     | (refine so_setPassed (by assumption) (by assumption) (by assumption) (by walk_at "nd") (by walk_at "so") ?_; intro _ _ _ _ _)
     | (refine so_setFinished (by assumption) (by assumption) (by assumption) (by walk_at "nd") (by walk_at "so") ?_; intro _ _ _ _ _)
     | (refine nd_setNp (by assumption) (by assumption) (by assumption) (by walk_at "nd") (by k_mem) (by k_mem) ?_; intro _ _ _)
     | refine halt ?_))
  k_with "call builtin:list.clear" => (((with_reducible show wpAny _ _ (call (Value.builtin "list.clear") _) _ _ _); first | ((refine l_clear (by assumption) (by assumption) (by k_mem) (by walk_at "sz") ?_); intro _ _ _ _) | refine halt ?_))
  k_with "call builtin:len" => (((with_reducible show wpAny _ _ (call (Value.builtin "len") [Value.ref _]) _ _ _); first
     | (refine len_tuple (isTup_of (by assumption) (by k_mem)) (by walk_at "sz") ?_)
     | (refine Calls.call_len_list (isList_of (by assumption) (by k_mem)) (by walk_at "sz") ?_)
     | (refine d_len (by assumption) (by walk_at "di") (by walk_at "sz") ?_)
     | refine halt ?_))
  trivial
noncomputable def outAll (ss : List Str) (nds : List Nd) : List Nd := ss.foldl (fun n y => setNp y (-1) n) nds
theorem outAll_name (ss : List Str) (nds : List Nd) : (outAll ss nds).map (·.name) = nds.map (·.name) := by
  unfold outAll
  induction ss generalizing nds with
  | nil => rfl
  | cons y r ih => rw [List.foldl_cons, ih, setNp_name]
theorem outAll_at (ss : List Str) (nds : List Nd) : (outAll ss nds).map (·.at_) = nds.map (·.at_) := by
  unfold outAll
  induction ss generalizing nds with
  | nil => rfl
  | cons y r ih => rw [List.foldl_cons, ih, setNp_at]
theorem outAll_lst (ss : List Str) (nds : List Nd) : (outAll ss nds).map (·.lst) = nds.map (·.lst) := by
  unfold outAll
  induction ss generalizing nds with
  | nil => rfl
  | cons y r ih => rw [List.foldl_cons, ih, setNp_lst]
theorem outAll_take {ss : List Str} {i : Nat} {y : Str} (h : ss[i]? = some y) (nds : List Nd) : outAll (ss.take (i + 1)) nds = setNp y (-1) (outAll (ss.take i) nds) := by
  unfold outAll
  rw [List.take_add_one, h, List.foldl_append]; rfl
theorem get_ready_ok (w : World) {x dx d2 r : Addr} {np nf : Int} {ss : List Str} {nds : List Nd} (hss : ss.length ≤ 16384) (hin : ∀ y ∈ ss, y ∈ nds.map (·.name)) (hlr : r ∉ nds.map (·.lst)) :
    Spec w 2 111 [.ref x] (fun led => SorterIn led x dx d2 (.ref r) np nf ∧ StrL led r ss ∧ NodesIn w led d2 nds)
      (fun led v led' => ∃ D vs, v = .ref D ∧ (D, tupOf vs.toArray 0) ∈ led' ∧ StrsAre vs ss ∧ SorterIn led' x dx d2 (.ref r) (np + ss.length) nf ∧ StrL led' r [] ∧ NodesIn w led' d2 (outAll ss nds) ∧ Keep (dx :: r :: nds.map (·.at_)) led led') := by
  intro p loose mean mg mb A A₀ env outer base b L m s led R hh hA hf hke hd hu B F X N ND T hpre hret
  obtain ⟨HS, ⟨vs, n2, M3, hvs⟩, HN⟩ := hpre
  have hsz : vs.toArray.size ≤ 16384 := by rw [List.size_toArray, hvs.length]; exact hss
  walk_at "enter"
  k_steps
  all_goals unfold Halt
  rename_i D h2 l1 h3 h4 F' N'
  refine for_src (src_tuple (l := D) (items := vs.toArray) (n0 := 0) hh F' N' (.head _)) (by walk_at "nd") (by intro q hq; rw [List.mem_singleton.mp hq]; exact .head _)
    (fun i m₁ led₁ => m₁ (Str.ofString "self") = some (.ref x) ∧ m₁ (Str.ofString "n2i") = some (.ref d2) ∧ m₁ (Str.ofString "result") = some (.ref D) ∧
      Keep (nds.map (·.at_)) ((D, tupOf vs.toArray 0) :: led) led₁ ∧ NodesIn w led₁ d2 (outAll (ss.take i) nds)) ⟨by rfl, by rfl, by rfl, Keep.refl, HN.mono (by walk_at "sub")⟩ ?_ ?_
  · rintro i v m₁ led₁ h tk I oI ic hi hv ⟨e1, e2, e3, K1, N1⟩ hcI hic ND1 hfx F1 Nw1
    have hD := hfx _ (.head _)
    obtain ⟨y, t, hy, rfl⟩ := hvs.get' (by simpa using hv)
    have hyn : y ∈ (outAll (ss.take i) nds).map (·.name) := by rw [outAll_name]; exact hin y (List.mem_of_getElem? hy)
    obtain ⟨nd, hnd, rfl⟩ := nd_of_name hyn
    obtain ⟨⟨⟨u1, u2, Mn⟩, _, Mdn⟩, _⟩ := N1.2.1 nd hnd
    have D1 := N1.1
    have hval := valueAt_nkv N1.2.2.1 hnd
    k_steps
    show LoopEnd _ _ _ _ _ _ _ _
    rename_i F2 N2
    have hIat : I ≠ nd.at_ := ND1.ne List.mem_cons_self (List.mem_cons_of_mem _ Mn) (by intro e; rw [e] at hcI; cases hcI)
    have hDat : D ≠ nd.at_ := ND1.ne (List.mem_cons_of_mem _ hD) (List.mem_cons_of_mem _ Mn) (by intro e; cases e)
    have hat : nd.at_ ∈ nds.map (·.at_) := by rw [← outAll_at (ss.take i)]; exact List.mem_map_of_mem (f := (·.at_)) hnd
    refine ⟨_, _, _, _, rfl, F2, N2, ND1.upd, mem_upd_ne (.head _) hIat, fun q hq => by rw [List.mem_singleton.mp hq]; exact mem_upd_ne (.tail _ hD) hDat, fun led' kk => ?_⟩
    have kc := kcls ND1.upd (mem_upd_ne (.head _) hIat) hcI kk
    refine ⟨e1, e2, e3, fun p hp hn => kk p (((K1.cons).upd hat) p hp hn) (ND1.head _ (K1 p hp hn)), ?_⟩
    rw [outAll_take hy]
    exact ((N1.mono (sub_cons sub_self)).setNp ND1 hnd (.tail _ Mn)).keepCls kc hic.1.symm hic.2.1.symm
  · rintro m₁ led₁ h tk ⟨e1, e2, e3, K1, N1⟩ ND1 hfx F1 Nw1
    have hD := hfx _ (.head _)
    have HS1 : SorterIn led₁ x dx d2 (.ref r) np nf := HS.keepAt HN ND K1.of_cons
    have M31 : (r, listOf vs.toArray n2) ∈ led₁ := K1.of_cons _ M3 (HN.notAt ND M3 (by intro e; cases e))
    have hrx : x ≠ r := ND1.ne HS1.1 M31 (by intro e; cases e)
    have hrd : dx ≠ r := by obtain ⟨_, hdd, t1, t2, t3, t4, t5, t6, k1, k2, k3, k4, n, M2⟩ := HS1; exact ND1.neC M2 M31 (by simp)
    have HS2 : ∀ o, SorterIn (upd led₁ r o) x dx d2 (.ref r) np nf := fun o => HS1.keep (S := [r]) (Keep.refl.upd (by simp)) (by simpa using hrx) (by simpa using hrd)
    have hDr : D ≠ r := ND1.neC hD M31 (by simp)
    have hfit : ((vs.toArray.size : Nat) : Int) < 2 ^ 63 := by omega
    have hsz2 : vs.toArray.size ≤ sizeLine := by rw [sizeLine_eq]; exact oq23 hsz
    k_steps
    obtain ⟨es0, n0, Mdx⟩ := HS1.dxMem
    obtain ⟨o2, Md2, hc2⟩ := N1.d2Mem
    have htk : ss.take vs.toArray.size = ss := by rw [List.size_toArray, hvs.length, List.take_length]
    rw [htk] at N1
    have hlen : ((vs.toArray.size : Nat) : Int) = ss.length := by rw [List.size_toArray, hvs.length]
    rename_i S' kF kN _ _
    rw [hlen] at S'
    have hDdx : D ≠ dx := ND1.neC hD Mdx (by simp)
    refine hret _ _ _ _ kF kN (by walk_at "nd") ⟨D, vs, rfl, mem_upd_ne (mem_upd_ne hD hDr) hDdx, hvs, S', ⟨[], _, mem_upd_ne (mem_upd_self M31) hrd.symm, .nil⟩, ?_, ?_⟩
    · refine N1.keep (S := [r, dx]) ((Keep.refl.upd (by simp)).upd (by simp)) ?_ fun nd hn => ⟨?_, ?_, ?_⟩
      · simp only [List.mem_cons, List.not_mem_nil, or_false, not_or]
        exact ⟨ND1.neC Md2 M31 (by rw [hc2]; simp), HS1.2.1⟩
      · simp only [List.mem_cons, List.not_mem_nil, or_false, not_or]
        exact ⟨(N1.2.1 nd hn).1.at_ne ND1 M31 (by simp), (N1.2.1 nd hn).1.at_ne ND1 Mdx (by simp)⟩
      · simp only [List.mem_cons, List.not_mem_nil, or_false, not_or]
        refine ⟨fun e => hlr ?_, (N1.2.1 nd hn).1.list_ne ND1 Mdx (by simp)⟩
        rw [← e, ← outAll_lst ss]; exact List.mem_map_of_mem (f := (·.lst)) hn
      · simp only [List.mem_cons, List.not_mem_nil, or_false, not_or]
        exact ⟨(N1.2.1 nd hn).1.dn_ne ND1 M31 (by simp), (N1.2.1 nd hn).1.dn_dx ND1 HS1⟩
    · refine ((K1.of_cons.more ?_).upd ?_).upd ?_ <;> simp
      intro a h1; exact .inr (.inr ⟨a, h1, rfl⟩)

theorem rst_SNode : True := by
  w_top off
  trivial
theorem lines_5 : True := by
  k_with "setAttr ref" => (((with_reducible show wpAny _ _ (setAttr (Value.ref _) (Str.ofString _) _) _ _ _); with_reducible first
     | (refine nd_init0 (by assumption) (by assumption) (by assumption) (by walk_at "nd") (by k_mem) (by k_mem) ?_; intro _ _ _)
     | (refine nd_init1 (by assumption) (by assumption) (by assumption) (by walk_at "nd") (by k_mem) (by k_mem) ?_; intro _ _ _)
     | (refine nd_init2 (by assumption) (by assumption) (by assumption) (by walk_at "nd") (by k_mem) (by k_mem) ?_; intro _ _ _)))
  k_with "getMethod ref" => (((with_reducible show wpAny _ _ (getMethod (Value.ref _) (Str.ofString "get") _) _ _ _); with_reducible refine d_getM (by assumption) (by walk_at "di") ?_))
  k_with "setItem ref" => (((with_reducible show wpAny _ _ (setItem (Value.ref _) (Value.str _ _) _) _ _ _); first | (refine d_set (by assumption) (by assumption) (by walk_at "di") (by walk_at "sz") ?_; intro _ _ _ _ _) | refine halt ?_))
  k_with "call builtin:dict.get" => (((with_reducible show wpAny _ _ (call (Value.builtin "dict.get") _) _ _ _); first
     | refine d_get_some (by assumption) (by walk_at "di") (by assumption) ?_
     | refine d_get_none (by assumption) (by walk_at "di") (by assumption) ?_
     | refine halt ?_))
  trivial
theorem init_node_ok (w : World) {x dn : Addr} {y : Str} {t : Tok} :
    Spec w 2 48 [.ref x, .str y t] (fun led => (x, instObj 52 dn) ∈ led ∧ (dn, dictOf [] 0) ∈ led) (fun led v led' => v = .none ∧ ∃ lst t1 t2 n, (x, ndObj dn y lst 0 t1 t2) ∈ led' ∧ (lst, listOf #[] n) ∈ led' ∧ (∀ p ∈ led, p.1 < lst) ∧ Keep [x] led led') := by
  intro p loose mean mg mb A A₀ env outer base b L m s led R hh hA hf hke hd hu B F X N ND T hpre hret
  obtain ⟨M, Md⟩ := hpre
  have hdx : dn ≠ x := ND.neC Md M (by simp)
  walk_at "enter"
  k_steps
  rename_i l' h1 F1 N1 l1 h2 F2 N2 kF kN _ _
  have hlt : ∀ p ∈ led, p.1 < l' := fun p hp => by
    have h0 := allLt_mem l1
    by_cases e : p.1 = x
    · exact e ▸ h0 _ (mem_upd_self (mem_upd_self M))
    · exact h0 p (mem_upd_ne (mem_upd_ne hp e) e)
  have hlx : l' ≠ x := Nat.ne_of_gt (hlt _ M)
  refine hret _ _ _ _ kF kN (by walk_at "nd") ⟨rfl, l', _, _, _, mem_upd_self (List.mem_cons_of_mem _ (mem_upd_self (mem_upd_self M))), mem_upd_ne List.mem_cons_self hlx, hlt, ?_⟩
  exact Keep.upd (Keep.cons (Keep.upd (Keep.upd Keep.refl (by simp)) (by simp))) (by simp)
theorem make_node {w : World} {p : Program} {loose : List Str} {mean : ExcName → Option Value} {mg mb : Str → Option Value} {A : Around} {env env' : Env} {outer : List Env} {base b : Heap} {L : Addr} {m : Str → Option Value} {s : Shared} {led : Led} {Q E : Value → Shared → Prop} {y : Str} {t : Tok}
    (hh : A.handled = none) (hA : A.frames = some (env :: outer)) (hf : env'.frame = some L) (hke : env'.scope.kind = .function) (hdp : A.depth + 1 + 3 < recursionLimit) (hu : A.units + 3 + 48 < cLine)
    (B : Below A base (env :: outer) b) (F : Fr b L s.heap m) (X : (hd.heap_1 w.params).In b) (N : News b L s.heap led) (ND : NDL led) (T : Top p loose mean mg mb b)
    (ret : ∀ x dn lst t1 t2 n h' tk' led', Fr b L h' m → News b L h' led' → NDL led' → (x, ndObj dn y lst 0 t1 t2) ∈ led' → (dn, dictOf [] 0) ∈ led' → (lst, listOf #[] n) ∈ led' → (∀ p ∈ led, p ∈ led') → (∀ p ∈ led, p.1 < dn ∧ p.1 < x ∧ p.1 < lst) → Q (.ref x) { s with heap := h', toks := tk' }) :
    wpAny (model P w) (A.deeper env') (call (.ref 52) [.str y t]) Q E s := by
  refine call_cls (fI := 48) F X N (by k_is) (by k_is) (by k_is) fun x dx h' F' N' l1 l2 => ?_
  have ND' : NDL ((x, instObj 52 dx) :: (dx, dictOf [] 0) :: led) := (ND.cons l1).cons fun p hp => by
    rcases List.mem_cons.mp hp with rfl | hp
    · exact l2
    · exact Nat.lt_trans (l1 p hp) l2
  refine init_node_ok w (x := x) (dn := dx) (y := y) (t := t) p loose mean mg mb ((A.deeper env').under _) A env' (env :: outer) base b L m { s with heap := h' } _ _ hh (Around.frames_deeper hA) hf hke ?_ ?_ B F' X N' ND' T ⟨List.mem_cons_self, List.mem_cons_of_mem _ List.mem_cons_self⟩ ?_
  · show A.depth + 1 + 1 + 2 < recursionLimit
    exact hdp
  · show A.units + 3 + 1 + 16 * 2 < cLine
    exact oq24 hu
  · rintro v h2 tk2 led2 F2 N2 ND2 ⟨rfl, lst, t1, t2, n, m1, m2, hl, k⟩
    refine ⟨rfl, ?_⟩
    refine ret x dx lst t1 t2 n h2 tk2 led2 F2 N2 ND2 m1 (k _ (List.mem_cons_of_mem _ List.mem_cons_self) ?_) m2 (fun p hp => k p (List.mem_cons_of_mem _ (List.mem_cons_of_mem _ hp)) ?_) (fun p hp => ⟨l1 p hp, Nat.lt_trans (l1 p hp) l2, hl _ (List.mem_cons_of_mem _ (List.mem_cons_of_mem _ hp))⟩)
    · simpa using Nat.ne_of_lt l2
    · simpa using Nat.ne_of_lt (Nat.lt_trans (l1 p hp) l2)
theorem lines_6 : True := by
  k_with "call ref" => (((with_reducible show wpAny _ _ (call (Value.ref 52) _) _ _ _); (refine make_node (by assumption) (by assumption) rfl rfl (by omega) (by omega) (by assumption) (by assumption) (by assumption) (by assumption) (by walk_at "nd") (by assumption) ?_); intro _ _ _ _ _ _ _ _ _ _ _ _ _ _ _ _ _; (try dsimp only)))
  trivial
theorem get_node_ok (w : World) {x dx d2 : Addr} {rdy : Value} {np nf : Int} {nds : List Nd} {y : Str} {t : Tok} (hsz : nds.length ≤ 1000) :
    Spec w 4 92 [.ref x, .str y t] (fun led => SorterIn led x dx d2 rdy np nf ∧ NodesIn w led d2 nds)
      (fun led v led' => ∃ nd nds', v = .ref nd.at_ ∧ nd ∈ nds' ∧ nd.name = y ∧ NodesIn w led' d2 nds' ∧ Keep [d2] led led' ∧ GotNode led y nds nds' nd) := by
  intro p loose mean mg mb A A₀ env outer base b L m s led R hh hA hf hke hd hu B F X N ND T hpre hret
  obtain ⟨HS, HN⟩ := hpre
  have D1 := HN.1
  walk_at "enter"
  by_cases hy : y ∈ nds.map (·.name)
  · obtain ⟨nd, hnd, rfl⟩ := nd_of_name hy
    have hval := valueAt_nkv HN.2.2.1 hnd
    k_steps
    exact hret _ _ _ led (by assumption) (by assumption) ND ⟨nd, nds, rfl, hnd, rfl, HN, Keep.refl, .inl ⟨hy, rfl⟩⟩
  · have hval := valueAt_nkv_none hy
    have hsz' : (nkv nds).length ≤ sizeLine := by rw [sizeLine_eq]; simp [nkv]; exact oq25 hsz
    k_steps
    rename_i x' dn' lst' t1' t2' n' h1' tk' led' ND' M1' M2' M3' sub' lt' h2' o' D' h3' F2' N2' kF kN _ _
    refine hret _ _ _ _ kF kN (by walk_at "nd") ⟨⟨y, x', dn', lst', 0, []⟩, nds ++ [⟨y, x', dn', lst', 0, []⟩], rfl, by simp, rfl, HN.add ND' M1' M2' M3' sub' lt' hy D', ?_, .inr ⟨hy, rfl, rfl, rfl, fun p hp => ⟨Nat.ne_of_lt (lt' p hp).2.2, Nat.ne_of_lt (lt' p hp).2.1⟩⟩⟩
    exact Keep.upd (fun p hp _ => sub' p hp) (by simp)

theorem rst_SAdd : True := by
  w_top off
  trivial
theorem lines_7 : True := by
  k_with "call ref" => (((with_reducible first | show wpAny _ _ (call (Value.ref 92) _) _ _ _); refine halt ?_))
  k_with "getMethod ref" => (((with_reducible show wpAny _ _ (getMethod (Value.ref _) (Str.ofString "_get_nodeinfo") _) _ _ _); with_reducible refine so_meth (by assumption) (by assumption) (by assumption) (by walk_at "so") (by k_is) (by k_is) (by k_is) (by decide) ?_))
  trivial
local macro_rules | `(tactic| walk_at "enterV1") => `(tactic| k_dflt (refine' kp_rest (vs := [_]) ?k1 ?k2 ?k3 ?k4 ?k5 ?kA ?kF ?kK ?k6 ?k7 ?k8 ?kV ?kP ?kG ?kB ?_ ?c2 ?c3 ?c4 ?c5; (case kA => assumption); (case kF => assumption); (case kK => assumption); (case k1 => k_asm); (case k2 => k_asm); (case k3 => k_asm); (case k4 => k_asm); (case k5 => k_asm); (case k6 => k_is); (case k7 => k_is); (case k8 => omega); (case kV => rfl); (case kP => exact rfl); (case kG => exact fun _ => rfl); (case kB => exact fun _ => locs rfl); (case c5 => decide); (case c2 => exact rfl); (case c3 => exact rfl); (case c4 => exact rfl); k_whole; intro D' g' L' h' l1 FG' F' N' B' X' T'; (try dsimp only); (try k_fold)))
theorem lines_8 : True := by
  k_with "call builtin:list.append" => (((with_reducible show wpAny _ _ (call (Value.builtin "list.append") _) _ _ _); first | ((refine l_append (by assumption) (by assumption) (by k_mem) (by walk_at "sz") ?_); intro _ _ _) | refine halt ?_))
  trivial
theorem add_ok (w : World) {x dx d2 : Addr} {np nf : Int} {nds : List Nd} {y v : Str} {t u : Tok} {Fm : Led} (hsz : nds.length ≤ 900) (hB : SuccLe 900 (nv nds)) :
    Spec w 6 99 [.ref x, .str y t, .str v u] (fun led => SorterIn led x dx d2 .none np nf ∧ NodesIn w led d2 nds ∧ Frm Fm led dx d2 nds)
      (fun led r led' => r = .none ∧ SorterIn led' x dx d2 .none np nf ∧ ∃ nds', NodesIn w led' d2 nds' ∧ nv nds' = addEdge y v (nv nds) ∧ Frm Fm led' dx d2 nds' ∧ nds'.length ≤ nds.length + 2) := by
  intro p loose mean mg mb A A₀ env outer base b L m s led R hh hA hf hke hd hu B F X N ND T hpre hret
  obtain ⟨HS, HN, HF⟩ := hpre
  have D1 := HN.1
  walk_at "enterV1"
  k_steps
  unfold Halt
  rename_i D g L' h1 l1 FG F' N' B' X' T' _
  have NDa := ND.cons (o := tupOf #[.str v u] 0) l1
  obtain ⟨o2, Md2, hc2⟩ := HN.d2Mem
  have hDd2 : D ≠ d2 := Nat.ne_of_gt (l1 _ Md2)
  refine Spec.use (get_node_ok w (nds := nds) (by exact oq27 hsz)) hh hA rfl rfl (by exact oq28 hd) (by exact oq29 hu) B' F' X' N' NDa T' ⟨HS.mono (by walk_at "sub"), HN.mono (by walk_at "sub")⟩ ?_
  rintro _ h2 tk2 led1 F1 N1 ND1 ⟨nd, nds1, rfl, hnd, hname, HN1, K1, G1⟩
  have HS1 : SorterIn led1 x dx d2 .none np nf := (HS.mono (sub_cons sub_self)).keepD2 NDa (List.mem_cons_of_mem _ Md2) hc2 K1
  have HF1 : Frm Fm led1 dx d2 nds1 := G1.frm K1 (HF.mono (sub_cons sub_self))
  have hD1 : (D, tupOf #[.str v u] 0) ∈ led1 := K1 _ List.mem_cons_self (by simpa using hDd2)
  obtain ⟨⟨⟨u1, u2, Mn⟩, ⟨vs1, n1, Ml1, hv1⟩, Mdn⟩, _⟩ := HN1.2.1 nd hnd
  have hfit : (((#[Value.str v u] : Array Value).size : Nat) : Int) < 2 ^ 63 := by simp
  k_steps
  unfold Halt
  rename_i h3 F2 N2
  have hat1 : nd.at_ ∈ nds1.map (·.at_) := List.mem_map_of_mem (f := (·.at_)) hnd
  have hDat : D ≠ nd.at_ := ND1.neC hD1 Mn (by simp)
  generalize hled2 : upd led1 nd.at_ _ = led2 at N2
  have HN2 : NodesIn w led2 d2 (setNp nd.name (nd.np + 1) nds1) := by rw [← hled2]; exact HN1.setNp ND1 hnd Mn
  have HS2 : SorterIn led2 x dx d2 .none np nf := by rw [← hled2]; exact HS1.updNode HN1 ND1 (.inl hat1)
  have HF2 : Frm Fm led2 dx d2 (setNp nd.name (nd.np + 1) nds1) := by rw [← hled2]; exact (HF1.upd (.inr (.inr (.inl hat1)))).same (setNp_at _ _ _) (setNp_lst _ _ _)
  have ND2 : NDL led2 := by rw [← hled2]; exact ND1.upd
  have hD2 : (D, tupOf #[.str v u] 0) ∈ led2 := by rw [← hled2]; exact mem_upd_ne hD1 hDat
  have hnv2 : nv (setNp nd.name (nd.np + 1) nds1) = vInc y 1 (vEnsure y (nv nds)) := by rw [nv_setNp HN1.2.2.1 hnd, G1.nv hname, hname]
  have hlen2 : (setNp nd.name (nd.np + 1) nds1).length ≤ nds.length + 1 := by have := G1.length; simpa [setNp] using this
  refine for_src (src_tuple (l := D) (items := #[.str v u]) (n0 := 0) hh F2 N2 hD2) ND2 (by intro q hq; rw [List.mem_singleton.mp hq]; exact hD2)
    (fun i m₁ led₁ => m₁ (Str.ofString "self") = some (.ref x) ∧ m₁ (Str.ofString "node") = some (.str y t) ∧ SorterIn led₁ x dx d2 .none np nf ∧ ∃ nds', NodesIn w led₁ d2 nds' ∧ Frm Fm led₁ dx d2 nds' ∧ nds'.length ≤ nds.length + 1 + i ∧
      ((i = 0 ∧ nv nds' = vInc y 1 (vEnsure y (nv nds))) ∨ (i = 1 ∧ nv nds' = addEdge y v (nv nds)))) ⟨by rfl, by rfl, HS2, _, HN2, HF2, hlen2, .inl ⟨rfl, hnv2⟩⟩ ?_ ?_
  · rintro i v' m₁ led₁ h tk' I oI ic hi hv ⟨e1, e2, hs, nds', hn, hfm, hlen, hcase⟩ hcI hic NDs hfx Fs Ns
    have hDs := hfx _ (.head _)
    obtain ⟨rfl, rfl⟩ : i = 0 ∧ v' = .str v u := by
      rcases i with _ | i
      · simp at hv; exact ⟨rfl, hv.symm⟩
      · simp at hv
    have hnv : nv nds' = vInc y 1 (vEnsure y (nv nds)) := by rcases hcase with ⟨_, e⟩ | ⟨e, _⟩; exact e; cases e
    have NDl : NDL led₁ := by unfold NDL at NDs ⊢; rw [List.map_cons, List.nodup_cons] at NDs; exact NDs.2
    k_steps
    unfold Halt
    rename_i h4 F4 N4
    obtain ⟨o2', Md2', hc2'⟩ := hn.d2Mem
    refine Spec.use (get_node_ok w (nds := nds') (by exact oq30 hsz hlen)) hh hA rfl rfl (by exact oq28 hd) (by exact oq29 hu) B' F4 X' N4 NDs T' ⟨hs.mono (by walk_at "sub"), hn.mono (by walk_at "sub")⟩ ?_
    rintro _ h5 tk5 led3 F5 N5 ND5 ⟨nd2, nds2, rfl, hnd2, hname2, HN5, K5, G5⟩
    have HS5 : SorterIn led3 x dx d2 .none np nf := (hs.mono (sub_cons sub_self)).keepD2 NDs (List.mem_cons_of_mem _ Md2') hc2' K5
    have HF5 : Frm Fm led3 dx d2 nds2 := G5.frm K5 (hfm.mono (sub_cons sub_self))
    have hI5 : (I, oI) ∈ led3 := K5 _ List.mem_cons_self (by simpa using NDs.neC List.mem_cons_self (List.mem_cons_of_mem _ Md2') (by rw [hcI, hc2']; simpa using hic.2.1))
    have hD5 : (D, tupOf #[.str v u] 0) ∈ led3 := K5 _ (List.mem_cons_of_mem _ hDs) (by simpa using hDd2)
    obtain ⟨⟨⟨w1, w2, Mn5⟩, ⟨vs5, n5, Ml5, hv5⟩, Mdn5⟩, _⟩ := HN5.2.1 nd2 hnd2
    have hsz5 : vs5.toArray.size ≤ sizeLine := by
      have h1 : SuccLe 900 (nv nds2) := by rw [G5.nv hname2, hnv]; exact ((hB.ensure y).inc y 1).ensure v
      have := h1.nd hnd2
      rw [sizeLine_eq, List.size_toArray, hv5.length]; exact oq31 this
    k_steps
    show LoopEnd _ _ _ _ _ _ _ _
    rename_i F6 N6
    have hls5 : nd2.lst ∈ nds2.map (·.lst) := List.mem_map_of_mem (f := (·.lst)) hnd2
    have hIl := mem_upd_ne (o := listOf (vs5.toArray.push (.str y t)) (n5 + 1)) hI5 (ND5.neC hI5 Ml5 (by rw [hcI]; simpa using hic.1))
    refine ⟨_, _, _, _, rfl, F6, N6, ND5.upd, hIl, fun q hq => by rw [List.mem_singleton.mp hq]; exact mem_upd_ne hD5 (ND5.neC hD5 Ml5 (by simp)), fun led' kk => ?_⟩
    have kc := kcls ND5.upd hIl hcI kk
    have HF6 := (HF5.upd (o := listOf (vs5.toArray.push (.str y t)) (n5 + 1)) (.inr (.inr (.inr hls5)))).same (nds' := pushSucc nd2.name y nds2) (pushSucc_map _ (fun _ _ => rfl) _ _ _) (pushSucc_map _ (fun _ _ => rfl) _ _ _)
    refine ⟨e1, e2, (HS5.updNode HN5 ND5 (.inr hls5)).keepCls kc hic.2.1.symm, pushSucc nd2.name y nds2, (HN5.push ND5 hnd2 Ml5 hv5).keepCls kc hic.1.symm hic.2.1.symm, fun p hp => ⟨kk p (HF6 p hp).1 (NDs.head _ (hfm p hp).1), (HF6 p hp).2⟩, ?_, .inr ⟨by trivial, ?_⟩⟩
    · have := G5.length
      have h2 : (pushSucc nd2.name y nds2).length = nds2.length := by simp [pushSucc]
      exact oq32 hlen this h2
    · rw [nv_push, G5.nv hname2, hnv, hname2]; rfl
  · rintro m₁ led₁ h tk' ⟨e1, e2, hs, nds', hn, hfm, hlen, hcase⟩ NDs hfx Fs Ns
    k_steps
    rename_i kF kN _ _
    have hnv : nv nds' = addEdge y v (nv nds) := by rcases hcase with ⟨e, _⟩ | ⟨_, e⟩; cases e; exact e
    refine hret _ _ _ _ kF kN NDs ⟨rfl, hs, nds', hn, hnv, hfm, ?_⟩
    have : (#[Value.str v u] : Array Value).size = 1 := rfl
    exact hlen

theorem rst_SDone : True := by
  w_top off
  trivial
theorem lines_9 : True := by
  k_with "exec For Name Attribute cons nil" => (((with_reducible show wpAny _ _ (exec (Stmt.For _ _ _ _ _) _) _ _ _); with_unfolding_all refine wpAny_For ?_ (by with_unfolding_all (intro _; rfl))))
  trivial
noncomputable def vSet (y : Str) (k : Int) (l : List NV) : List NV := l.map fun n => if n.1 = y then (n.1, k, n.2.2) else n
noncomputable def npOf (l : List NV) (y : Str) : Option Int := (l.find? fun n => n.1 = y).map (·.2.1)
noncomputable def succOf (l : List NV) (y : Str) : List Str := ((l.find? fun n => n.1 = y).map (·.2.2)).getD []
noncomputable def decOne (st : List NV × List Str) (z : Str) : List NV × List Str := (vInc z (-1) st.1, if npOf (vInc z (-1) st.1) z = some 0 then st.2 ++ [z] else st.2)
noncomputable def doneOne (st : List NV × List Str) (y : Str) : List NV × List Str := (succOf st.1 y).foldl decOne (vSet y (-2) st.1, st.2)
noncomputable def doneAll (ss : List Str) (st : List NV × List Str) : List NV × List Str := ss.foldl doneOne st
theorem doneAll_take {ss : List Str} {i : Nat} {y : Str} (h : ss[i]? = some y) (st : List NV × List Str) : doneAll (ss.take (i + 1)) st = doneOne (doneAll (ss.take i) st) y := by
  unfold doneAll; rw [List.take_add_one, h, List.foldl_append]; rfl
theorem nv_setNp' (nds : List Nd) (y : Str) (k : Int) : nv (setNp y k nds) = vSet y k (nv nds) := by
  unfold nv setNp vSet
  rw [List.map_map, List.map_map]
  exact List.map_congr_left fun q _ => by simp only [Function.comp]; split <;> rfl
theorem find_nv {nds : List Nd} (hn : (nds.map (·.name)).Nodup) {nd : Nd} (h : nd ∈ nds) : (nv nds).find? (fun n => n.1 = nd.name) = some (nd.name, nd.np, nd.succ) := by
  induction nds with
  | nil => cases h
  | cons q r ih =>
    rw [List.map_cons, List.nodup_cons] at hn
    rcases List.mem_cons.mp h with rfl | h
    · simp [nv]
    · have hne : q.name ≠ nd.name := fun e => hn.1 (e ▸ List.mem_map_of_mem (f := (·.name)) h)
      have := ih hn.2 h
      simp only [nv, List.map_cons] at this ⊢
      rw [List.find?_cons]; simp only [hne, decide_false]; exact this
theorem npOf_nv {nds : List Nd} (hn : (nds.map (·.name)).Nodup) {nd : Nd} (h : nd ∈ nds) : npOf (nv nds) nd.name = some nd.np := by unfold npOf; rw [find_nv hn h]; rfl
theorem succOf_nv {nds : List Nd} (hn : (nds.map (·.name)).Nodup) {nd : Nd} (h : nd ∈ nds) : succOf (nv nds) nd.name = nd.succ := by unfold succOf; rw [find_nv hn h]; rfl
theorem done_ok (w : World) {x dx d2 r : Addr} {np nf : Int} {vs : List Value} {ss rd : List Str} {nds : List Nd} (hss : ss.length ≤ 8) (hvs : StrsAre vs ss) (hlr : r ∉ nds.map (·.lst)) (hnf : 0 ≤ nf ∧ nf ≤ 1000) (hrd : rd.length ≤ 1000)
    (hok : ∀ i y, ss[i]? = some y → npOf (doneAll (ss.take i) (nv nds, rd)).1 y = some (-1)) (hcl : ∀ n ∈ nv nds, ∀ z ∈ n.2.2, z ∈ (nv nds).map (·.1)) (hB : SuccLe 900 (nv nds)) :
    Spec w 3 132 (.ref x :: vs) (fun led => SorterIn led x dx d2 (.ref r) np nf ∧ StrL led r rd ∧ NodesIn w led d2 nds)
      (fun led v led' => v = .none ∧ SorterIn led' x dx d2 (.ref r) np (nf + ss.length) ∧ StrL led' r (doneAll ss (nv nds, rd)).2 ∧ ∃ nds', NodesIn w led' d2 nds' ∧ nv nds' = (doneAll ss (nv nds, rd)).1 ∧ nds'.map (·.at_) = nds.map (·.at_) ∧ nds'.map (·.lst) = nds.map (·.lst) ∧ Keep (dx :: r :: nds.map (·.at_)) led led') := by
  intro p loose mean mg mb A A₀ env outer base b L m s led R hh hA hf hke hd hu B F X N ND T hpre hret
  obtain ⟨HS, ⟨us, n2, M3, hus⟩, HN⟩ := hpre
  have hvl : vs.length ≤ 8 := by rw [hvs.length]; exact hss
  refine' kp_rest (vs := vs) (g₁ := fun D => some [(Str.ofString "self", .ref x), (Str.ofString "nodes", .ref D)]) (binds := fun D => [(Str.ofString "self", .ref x), (Str.ofString "nodes", .ref D)]) ?k1 ?k2 ?k3 ?k4 ?k5 ?kA ?kF ?kK ?k6 ?k7 ?k8 ?kV ?kP ?kG ?kB ?_ ?c2 ?c3 ?c4 ?c5
  case kA => assumption
  case kF => assumption
  case kK => assumption
  case k1 => k_asm
  case k2 => k_asm
  case k3 => k_asm
  case k4 => k_asm
  case k5 => k_asm
  case k6 => k_is
  case k7 => k_is
  case k8 => exact oq33 hd
  case kV => rfl
  case kP => rcases vs with _ | ⟨v1, _ | ⟨v2, _ | ⟨v3, _ | ⟨v4, _ | ⟨v5, _ | ⟨v6, _ | ⟨v7, _ | ⟨v8, _ | ⟨v9, _⟩⟩⟩⟩⟩⟩⟩⟩⟩ <;> first | rfl | (exfalso; simp at hvl)
  case kG => exact fun _ => rfl
  case kB => exact fun _ => locs rfl
  case c5 => decide
  case c2 => exact rfl
  case c3 => exact rfl
  case c4 => exact rfl
  intro D g L' h1 l1 FG F' N' B' X' T'
  k_steps
  unfold Halt
  rename_i h2 F2 N2
  have NDa : NDL ((D, tupOf vs.toArray 0) :: led) := ND.cons l1
  refine for_src (src_tuple (l := D) (items := vs.toArray) (n0 := 0) hh F2 N2 (.head _)) NDa (by intro q hq; rw [List.mem_singleton.mp hq]; exact .head _)
    (fun i m₁ led₁ => m₁ (Str.ofString "self") = some (.ref x) ∧ m₁ (Str.ofString "n2i") = some (.ref d2) ∧ SorterIn led₁ x dx d2 (.ref r) np (nf + i) ∧ StrL led₁ r (doneAll (ss.take i) (nv nds, rd)).2 ∧ (doneAll (ss.take i) (nv nds, rd)).2.length ≤ rd.length + 900 * i ∧
      ∃ nds', NodesIn w led₁ d2 nds' ∧ nv nds' = (doneAll (ss.take i) (nv nds, rd)).1 ∧ nds'.map (·.at_) = nds.map (·.at_) ∧ nds'.map (·.lst) = nds.map (·.lst) ∧ (∀ z n, n ∈ nv nds' → z ∈ n.2.2 → z ∈ (nv nds').map (·.1)) ∧ SuccLe 900 (nv nds') ∧ Keep (dx :: r :: nds.map (·.at_)) led led₁)
    ⟨by rfl, by rfl, by simpa using HS.mono (sub_cons sub_self), ⟨us, n2, .tail _ M3, by simpa [doneAll] using hus⟩, by simp [doneAll], nds, HN.mono (sub_cons sub_self), rfl, rfl, rfl, fun z n hn hz => hcl n hn z hz, hB, Keep.refl.cons⟩ ?_ ?_
  · rintro i v m₁ led₁ h tk I oI ic hi hv p1x0 hcI hic NDs hfx Fs Ns
    refine fresh_turn fun G1 hG1 => ?_
    obtain ⟨e1, e2, HS1, ⟨us1, n21, MR, hus1⟩, hl1, nds1, HN1, hnv1, hat1, hlst1, hcl1, hB1, K1⟩ := p1x0
    obtain ⟨y, t, hy, rfl⟩ := hvs.get' (by simpa using hv)
    have hyn : npOf (nv nds1) y = some (-1) := by rw [hnv1]; exact hok i y hy
    obtain ⟨nd, hnd, hname⟩ : ∃ nd ∈ nds1, nd.name = y := by
      unfold npOf at hyn
      rw [Option.map_eq_some_iff] at hyn
      obtain ⟨n, hn, _⟩ := hyn
      have h1 := List.mem_of_find?_eq_some hn
      have h2 := List.find?_some hn
      obtain ⟨nd, hnd, rfl⟩ := List.mem_map.mp h1
      exact ⟨nd, hnd, by simpa using h2⟩
    subst hname
    have hnp : nd.np = -1 := by rw [npOf_nv HN1.2.2.1 hnd] at hyn; exact Option.some.inj hyn
    obtain ⟨⟨⟨u1, u2, Mn⟩, ⟨svs, n1, Ml, hsv⟩, Mdn⟩, _⟩ := HN1.2.1 nd hnd
    have D1 := HN1.1
    have hval := valueAt_nkv HN1.2.2.1 hnd
    rw [hnp] at Mn
    have hda : nd.dn ≠ nd.at_ := NDs.tail.neC Mdn Mn (by simp)
    have hIa : I ≠ nd.at_ := (NDs.head _ Mn).symm
    have hla : nd.lst ≠ nd.at_ := NDs.tail.neC Ml Mn (by simp)
    refine hG1 fun Q1 hQ1 => ?_
    clear hG1 G1
    k_steps
    unfold Halt
    rename_i hA' tkA hB' tkB h3 F3 N3 h4 F4 N4
    have hat : nd.at_ ∈ nds1.map (·.at_) := List.mem_map_of_mem (f := (·.at_)) hnd
    have hatS : nd.at_ ∈ dx :: r :: nds.map (·.at_) := .tail _ (.tail _ (hat1 ▸ hat))
    have hra : r ≠ nd.at_ := NDs.tail.neC MR Mn (by simp)
    have hMD := hfx _ (.head _)
    have hDa : D ≠ nd.at_ := NDs.tail.neC hMD Mn (by simp)
    have HN2 := (HN1.mono (sub_cons (q := (I, oI)) sub_self)).setNp (t := 219) (k := -2) NDs hnd (t1 := u1) (t2 := u2) (by rw [hnp]; exact .tail _ Mn)
    have HS2 := (HS1.mono (sub_cons (q := (I, oI)) sub_self)).updNode (o := ndObj nd.dn nd.name nd.lst (-2) 219 u2) (HN1.mono (sub_cons sub_self)) NDs (.inl hat)
    have MR2 := mem_upd_ne (a := nd.at_) (o := ndObj nd.dn nd.name nd.lst (-2) 219 u2) (List.mem_cons_of_mem (I, oI) MR) hra
    have Ml2 := mem_upd_ne (a := nd.at_) (o := ndObj nd.dn nd.name nd.lst (-2) 219 u2) (List.mem_cons_of_mem (I, oI) Ml) hla
    have hI2 := mem_upd_ne (a := nd.at_) (o := ndObj nd.dn nd.name nd.lst (-2) 219 u2) (List.Mem.head (a := (I, oI)) led₁) hIa
    have hD2 := mem_upd_ne (a := nd.at_) (o := ndObj nd.dn nd.name nd.lst (-2) 219 u2) (List.mem_cons_of_mem (I, oI) hMD) hDa
    have K2 := (K1.cons (q := (I, oI))).upd (o := ndObj nd.dn nd.name nd.lst (-2) 219 u2) hatS
    have ND2 := NDs.upd (a := nd.at_) (o := ndObj nd.dn nd.name nd.lst (-2) 219 u2)
    generalize upd ((I, oI) :: led₁) nd.at_ (ndObj nd.dn nd.name nd.lst (-2) 219 u2) = led2 at *
    have hsucc : succOf (nv nds1) nd.name = nd.succ := succOf_nv HN1.2.2.1 hnd
    have hsl : nd.succ.length ≤ 900 := hB1.nd hnd
    rw [hnv1] at hsucc
    have hst1 : doneAll (ss.take (i + 1)) (nv nds, rd) = nd.succ.foldl decOne (vSet nd.name (-2) (doneAll (ss.take i) (nv nds, rd)).1, (doneAll (ss.take i) (nv nds, rd)).2) := by
      rw [doneAll_take hy]; unfold doneOne; rw [hsucc]
    have hi8 : i < 8 := by rw [List.size_toArray, hvs.length] at hi; exact Nat.lt_of_lt_of_le hi hss
    generalize doneAll (ss.take i) (nv nds, rd) = st at *
    refine for_src (src_list hh F4 N4 Ml2) ND2 (by intro q hq; rw [List.mem_singleton.mp hq]; exact Ml2)
      (fun j m₂ led₂ => m₂ (Str.ofString "self") = some (.ref x) ∧ m₂ (Str.ofString "n2i") = some (.ref d2) ∧ SorterIn led₂ x dx d2 (.ref r) np (nf + i) ∧ StrL led₂ r ((nd.succ.take j).foldl decOne (vSet nd.name (-2) st.1, st.2)).2 ∧ ((nd.succ.take j).foldl decOne (vSet nd.name (-2) st.1, st.2)).2.length ≤ rd.length + 900 * i + j ∧
        (∃ nds2, NodesIn w led₂ d2 nds2 ∧ nv nds2 = ((nd.succ.take j).foldl decOne (vSet nd.name (-2) st.1, st.2)).1 ∧ nds2.map (·.at_) = nds.map (·.at_) ∧ nds2.map (·.lst) = nds.map (·.lst) ∧ nds2.map (fun n => (n.name, n.succ)) = nds1.map (fun n => (n.name, n.succ))) ∧ Keep (dx :: r :: nds.map (·.at_)) led led₂ ∧ (I, oI) ∈ led₂ ∧ (D, tupOf vs.toArray 0) ∈ led₂)
      ⟨by walk_at "lk", by walk_at "lk", HS2, ⟨us1, n21, MR2, by simpa using hus1⟩, by simpa using hl1, ⟨_, HN2, by rw [nv_setNp', hnv1]; rfl, by rw [setNp_at]; exact hat1, by rw [setNp_lst]; exact hlst1, by unfold setNp; rw [List.map_map]; exact List.map_congr_left fun q _ => by simp only [Function.comp]; split <;> rfl⟩, K2, hI2, hD2⟩ ?_ ?_
    · rintro j v m₂ led₂ h5 tk5 I2 oI2 ic2 hj hv2 p2x0 hcI2 hic2 NDs3 hfx3 Fs3 Ns3
      refine fresh_turn fun G2 hG2 => ?_
      obtain ⟨e1, e2, HS3, ⟨us3, n3, MR3, hus3⟩, hl3, ⟨nds2, HN3, hnv3, hat3, hlst3, hns3⟩, K3, hI3, hD3⟩ := p2x0
      obtain ⟨z, tz, hz, rfl⟩ := hsv.get' (by simpa using hv2)
      have hnm : nds2.map (·.name) = nds1.map (·.name) := by have := congrArg (List.map Prod.fst) hns3; simpa [Function.comp_def] using this
      have hzn : z ∈ nds2.map (·.name) := by
        rw [hnm, ← nv_name]; exact hcl1 z _ (List.mem_map_of_mem (f := fun n : Nd => (n.name, n.np, n.succ)) hnd) (List.mem_of_getElem? hz)
      obtain ⟨nd2, hnd2, rfl⟩ := nd_of_name hzn
      obtain ⟨⟨⟨a1, a2, Mn2⟩, _, Mdn2⟩, _⟩ := HN3.2.1 nd2 hnd2
      have D3 := HN3.1
      have hval2 := valueAt_nkv HN3.2.2.1 hnd2
      have hda2 : nd2.dn ≠ nd2.at_ := NDs3.tail.neC Mdn2 Mn2 (by simp)
      have hra2 : r ≠ nd2.at_ := NDs3.tail.neC MR3 Mn2 (by simp)
      have hIa2 : I2 ≠ nd2.at_ := (NDs3.head _ Mn2).symm
      have hjl : j < nd.succ.length := (List.getElem?_eq_some_iff.mp hz).1
      have hsz3 : us3.toArray.size ≤ sizeLine := by rw [sizeLine_eq, List.size_toArray, hus3.length]; exact oq34 hrd hsl hi8 hl3 hjl
      have hat2 : nd2.at_ ∈ nds2.map (·.at_) := List.mem_map_of_mem (f := (·.at_)) hnd2
      have hatS2 : nd2.at_ ∈ dx :: r :: nds.map (·.at_) := .tail _ (.tail _ (hat3 ▸ hat2))
      have HS4 : ∀ o, SorterIn (upd ((I2, oI2) :: led₂) nd2.at_ o) x dx d2 (.ref r) np (nf + i) := fun o => (HS3.mono (sub_cons (q := (I2, oI2)) sub_self)).updNode (HN3.mono (sub_cons sub_self)) NDs3 (.inl hat2)
      have hrI2 : I2 ≠ r := (NDs3.head _ MR3).symm
      have HN4 : ∀ T, NodesIn w (upd ((I2, oI2) :: led₂) nd2.at_ (ndObj nd2.dn nd2.name nd2.lst (nd2.np - 1) T a2)) d2 (setNp nd2.name (nd2.np - 1) nds2) := fun T => (HN3.mono (sub_cons (q := (I2, oI2)) sub_self)).setNp NDs3 hnd2 (.tail _ Mn2)
      have hnv4 : nv (setNp nd2.name (nd2.np - 1) nds2) = vInc nd2.name (-1) (nv nds2) := by rw [Int.sub_eq_add_neg]; exact nv_setNp HN3.2.2.1 hnd2 (-1)
      have hmem4 : ({ nd2 with np := nd2.np - 1 } : Nd) ∈ setNp nd2.name (nd2.np - 1) nds2 := List.mem_map.mpr ⟨nd2, hnd2, by simp⟩
      have hnp4 : npOf (vInc nd2.name (-1) (nv nds2)) nd2.name = some (nd2.np - 1) := by
        rw [← hnv4]; exact npOf_nv (by rw [setNp_name]; exact HN3.2.2.1) hmem4
      have hfold : (nd.succ.take (j + 1)).foldl decOne (vSet nd.name (-2) st.1, st.2) = decOne ((nd.succ.take j).foldl decOne (vSet nd.name (-2) st.1, st.2)) nd2.name := by
        rw [List.take_add_one, hz, List.foldl_append]; rfl
      have hns4 : (setNp nd2.name (nd2.np - 1) nds2).map (fun n => (n.name, n.succ)) = nds1.map (fun n => (n.name, n.succ)) := by
        rw [← hns3]; unfold setNp; rw [List.map_map]; exact List.map_congr_left fun q _ => by simp only [Function.comp]; split <;> rfl
      have hII : I ≠ I2 := NDs3.head _ hI3
      have hDI : D ≠ I2 := NDs3.head _ hD3
      have hIa3 : I ≠ nd2.at_ := NDs3.tail.neC hI3 Mn2 (by rw [hcI]; simp)
      have hDa3 : D ≠ nd2.at_ := NDs3.tail.neC hD3 Mn2 (by simp)
      have hla3 : nd.lst ≠ nd2.at_ := NDs3.tail.neC (hfx3 _ (.head _)) Mn2 (by simp)
      generalize (nd.succ.take j).foldl decOne (vSet nd.name (-2) st.1, st.2) = st2 at *
      refine hG2 fun Q2 hQ2 => ?_
      clear hG2 G2
      k_steps
      · show LoopEnd _ _ _ _ _ _ _ _
        rename Fr _ _ _ _ => F9
        rename News _ _ _ _ => N9
        rename nd2.np - 1 = 0 => h0
        have hdec : decOne st2 nd2.name = (vInc nd2.name (-1) st2.1, st2.2 ++ [nd2.name]) := by
          unfold decOne; rw [← hnv3, hnp4, if_pos (by rw [h0])]
        have NDu := fun T => NDs3.upd (a := nd2.at_) (o := ndObj nd2.dn nd2.name nd2.lst (nd2.np - 1) T a2)
        have MRu := fun T => mem_upd_ne (a := nd2.at_) (o := ndObj nd2.dn nd2.name nd2.lst (nd2.np - 1) T a2) (List.mem_cons_of_mem (I2, oI2) MR3) hra2
        have HN5 : ∀ T o, NodesIn w (upd (upd ((I2, oI2) :: led₂) nd2.at_ (ndObj nd2.dn nd2.name nd2.lst (nd2.np - 1) T a2)) r o) d2 (setNp nd2.name (nd2.np - 1) nds2) := fun T o => by
          obtain ⟨o2, Md2, hc2⟩ := (HN4 T).d2Mem
          refine (HN4 T).keep (S := [r]) (Keep.refl.upd (by simp)) (by simpa using (NDu T).neC Md2 (MRu T) (by rw [hc2]; simp)) fun q hq => ⟨?_, ?_, ?_⟩
          · simpa using ((HN4 T).2.1 q hq).1.at_ne (NDu T) (MRu T) (by simp)
          · simp only [List.mem_singleton]; intro e
            refine hlr ?_
            rw [← hlst3, ← setNp_lst nd2.name (nd2.np - 1) nds2, ← e]; exact List.mem_map_of_mem (f := (·.lst)) hq
          · simpa using ((HN4 T).2.1 q hq).1.dn_ne (NDu T) (MRu T) (by simp)
        have HS5 : ∀ T o, SorterIn (upd (upd ((I2, oI2) :: led₂) nd2.at_ (ndObj nd2.dn nd2.name nd2.lst (nd2.np - 1) T a2)) r o) x dx d2 (.ref r) np (nf + i) := fun T o => by
          obtain ⟨es, n0, Mdx⟩ := (HS4 (ndObj nd2.dn nd2.name nd2.lst (nd2.np - 1) T a2)).dxMem
          exact (HS4 _).keep (S := [r]) (Keep.refl.upd (by simp)) (by simpa using (NDu T).ne (HS4 _).1 (MRu T) (by intro e; cases e)) (by simpa using (NDu T).neC Mdx (MRu T) (by simp))
        have hIr : I ≠ r := NDs3.tail.neC hI3 MR3 (by rw [hcI]; simpa using hic.1)
        have hDr : D ≠ r := NDs3.tail.neC hD3 MR3 (by simp)
        have hlr3 : nd.lst ≠ r := fun e => hlr (by rw [← hlst1, ← e]; exact List.mem_map_of_mem (f := (·.lst)) hnd)
        refine ⟨_, _, _, _, rfl, F9, N9, (NDu _).upd, mem_upd_ne (mem_upd_ne (.head _) hIa2) hrI2, fun q hq => by rw [List.mem_singleton.mp hq]; exact mem_upd_ne (mem_upd_ne (.tail _ (hfx3 _ (.head _))) hla3) hlr3, fun led' kk => ?_⟩
        have kc := kcls (NDu _).upd (mem_upd_ne (mem_upd_ne (.head _) hIa2) hrI2) hcI2 kk
        rw [hfold, hdec]
        refine ⟨by walk_at "lk", by walk_at "lk", (HS5 _ _).keepCls kc (by simpa using hic2.2.1.symm), ⟨us3 ++ [.str nd2.name tz], n3 + 1, kk _ ?_ hrI2.symm, hus3.push⟩, by simp only [List.length_append, List.length_singleton]; exact oq35 hl3, ⟨_, (HN5 _ _).keepCls kc (by simpa using hic2.1.symm) (by simpa using hic2.2.1.symm), by rw [hnv4, hnv3], by rw [setNp_at]; exact hat3, by rw [setNp_lst]; exact hlst3, hns4⟩, ?_, kk _ (mem_upd_ne (mem_upd_ne (.tail _ hI3) hIa3) hIr) hII, kk _ (mem_upd_ne (mem_upd_ne (.tail _ hD3) hDa3) hDr) hDI⟩
        · have := fun T => mem_upd_self (o := listOf (us3.toArray.push (.str nd2.name tz)) (n3 + 1)) (MRu T)
          simpa using this _
        · intro q hq hn
          exact kk q ((((K3.cons).upd hatS2).upd (.tail _ (.head _))) q hq hn) (NDs3.head _ (K3 q hq hn))
      · show LoopEnd _ _ _ _ _ _ _ _
        rename Fr _ _ _ _ => F9
        rename News _ _ _ _ => N9
        rename nd2.np - 1 ≠ 0 => h0
        have hdec : decOne st2 nd2.name = (vInc nd2.name (-1) st2.1, st2.2) := by
          unfold decOne; rw [← hnv3, hnp4, if_neg (by simpa using h0)]
        refine ⟨_, _, _, _, rfl, F9, N9, NDs3.upd, mem_upd_ne (.head _) hIa2, fun q hq => by rw [List.mem_singleton.mp hq]; exact mem_upd_ne (.tail _ (hfx3 _ (.head _))) hla3, fun led' kk => ?_⟩
        have kc := kcls NDs3.upd (mem_upd_ne (.head _) hIa2) hcI2 kk
        rw [hfold, hdec]
        refine ⟨by walk_at "lk", by walk_at "lk", (HS4 _).keepCls kc (by simpa using hic2.2.1.symm), ⟨us3, n3, kk _ (mem_upd_ne (.tail _ MR3) hra2) hrI2.symm, hus3⟩, by simp only; exact oq36 hl3, ⟨_, (HN4 _).keepCls kc (by simpa using hic2.1.symm) (by simpa using hic2.2.1.symm), by rw [hnv4, hnv3], by rw [setNp_at]; exact hat3, by rw [setNp_lst]; exact hlst3, hns4⟩, ?_, kk _ (mem_upd_ne (.tail _ hI3) hIa3) hII, kk _ (mem_upd_ne (.tail _ hD3) hDa3) hDI⟩
        intro q hq hn
        exact kk q (((K3.cons).upd hatS2) q hq hn) (NDs3.head _ (K3 q hq hn))
    · rintro m₂ led₂ h5 tk5 p3x0 NDs3 hfx3 Fs3 Ns3
      refine fresh_goal fun G3 hG3 => ?_
      obtain ⟨e1, e2, HS3, ⟨us3, n3, MR3, hus3⟩, hl3, ⟨nds2, HN3, hnv3, hat3, hlst3, hns3⟩, K3, hI3, hD3⟩ := p3x0
      rw [List.size_toArray, hsv.length, List.take_length] at hus3 hl3 hnv3
      rw [← hst1] at hus3 hl3 hnv3
      have hnm : nds2.map (·.name) = nds1.map (·.name) := by have := congrArg (List.map Prod.fst) hns3; simpa [Function.comp_def] using this
      obtain ⟨es, n0, Mdx⟩ := HS3.dxMem
      refine hG3 ?_
      clear hG3 G3
      k_steps
      show LoopEnd _ _ _ _ _ _ _ _
      rename_i t9 h9 o9 F9 N9 S9
      have hIdx : I ≠ dx := NDs3.neC hI3 Mdx (by rw [hcI]; simpa using hic.2.1)
      have hDdx : D ≠ dx := NDs3.neC hD3 Mdx (by simp)
      have hrdx : r ≠ dx := NDs3.neC MR3 Mdx (by simp)
      have HN6 : NodesIn w (upd led₂ dx o9) d2 nds2 := by
        refine HN3.keep (S := [dx]) (Keep.refl.upd (by simp)) (by simpa using HS3.2.1) fun q hq => ⟨?_, ?_, ?_⟩
        · simpa using (HN3.2.1 q hq).1.at_ne NDs3 Mdx (by simp)
        · simpa using (HN3.2.1 q hq).1.list_ne NDs3 Mdx (by simp)
        · simpa using (HN3.2.1 q hq).1.dn_dx NDs3 HS3
      refine ⟨_, _, _, _, rfl, F9, N9, NDs3.upd, mem_upd_ne hI3 hIdx, fun q hq => by rw [List.mem_singleton.mp hq]; exact mem_upd_ne hD3 hDdx, fun led' kk => ?_⟩
      have kc := kcls NDs3.upd (mem_upd_ne hI3 hIdx) hcI kk
      have hcast : nf + (i : Int) + 1 = nf + ((i + 1 : Nat) : Int) := by exact oq37
      rw [hcast] at S9
      have back : ∀ n ∈ nv nds2, ∃ n1 ∈ nv nds1, n1.1 = n.1 ∧ n1.2.2 = n.2.2 := fun n hn => by
        obtain ⟨q, hq, rfl⟩ := List.mem_map.mp hn
        have : (q.name, q.succ) ∈ nds1.map fun n => (n.name, n.succ) := hns3 ▸ List.mem_map_of_mem (f := fun n : Nd => (n.name, n.succ)) hq
        obtain ⟨q1, hq1, e⟩ := List.mem_map.mp this
        exact ⟨_, List.mem_map_of_mem (f := fun n : Nd => (n.name, n.np, n.succ)) hq1, (Prod.mk.inj e).1, (Prod.mk.inj e).2⟩
      refine ⟨e1, e2, S9.keepCls kc (by simpa using hic.2.1.symm), ⟨us3, n3, kk _ (mem_upd_ne MR3 hrdx) ?_, hus3⟩, by exact oq38 hsl hl3, nds2, HN6.keepCls kc (by simpa using hic.1.symm) (by simpa using hic.2.1.symm), hnv3, hat3, hlst3, ?_, ?_, ?_⟩
      · exact (NDs3.neC hI3 MR3 (by rw [hcI]; simpa using hic.1)).symm
      · intro z n hn hz
        obtain ⟨n1, h1, h2, h3⟩ := back n hn
        rw [nv_name, hnm, ← nv_name]; exact hcl1 z n1 h1 (h3 ▸ hz)
      · intro n hn
        obtain ⟨n1, h1, h2, h3⟩ := back n hn
        rw [← h3]; exact hB1 n1 h1
      · intro q hq hn
        exact kk q ((K3.upd (.head _)) q hq hn) (NDs.head _ (K1 q hq hn))
  · rintro m₁ led₁ h tk p4x0 NDs hfx Fs Ns
    refine fresh_goal fun G4 hG4 => ?_
    obtain ⟨e1, e2, HS1, ⟨us1, n21, MR, hus1⟩, hl1, nds1, HN1, hnv1, hat1, hlst1, hcl1, hB1, K1⟩ := p4x0
    rw [List.size_toArray, hvs.length, List.take_length] at hus1 hnv1
    have hcast : ((vs.toArray.size : Nat) : Int) = ss.length := by rw [List.size_toArray, hvs.length]
    rw [hcast] at HS1
    refine hG4 ?_
    clear hG4 G4
    k_steps
    rename_i kF kN _ _
    exact hret _ _ _ _ kF kN NDs ⟨rfl, HS1, ⟨us1, n21, MR, hus1⟩, nds1, HN1, hnv1, hat1, hlst1, K1⟩


theorem rst_SInit : True := by
  w_top off
  trivial
local macro_rules | `(tactic| walk_at "setAttr ref") => `(tactic| (k_here; k_dflt (
  (refine' set_dict ?k1 ?k2 ?k3 ?k4 ?k5 ?k6 ?k7 ?k8 ?k9 ?k10 ?k11 ?k12 ?k13 ?_; (case k1 => k_asm); (case k2 => k_asm); (case k3 => k_asm); (case k4 => (refine' InstAt.of_news ?N ?h1 ?h2; (case N => k_asm); (case h1 => k_mem); (case h2 => k_mem))); (case k5 => exact rfl); (case k6 => k_is); (case k7 => k_is); (case k8 => k_is); (case k9 => k_is); (case k10 => k_get); (case k11 => k_put); (case k12 => k_upd); (case k13 => exact Nat.le_of_ble_eq_true rfl); k_whole; intro h' F' N'))))
theorem init_sorter_ok (w : World) {x dx : Addr} :
    Spec w 2 85 [.ref x] (fun led => (x, instObj 149 dx) ∈ led ∧ (dx, dictOf [] 0) ∈ led)
      (fun led v led' => v = .none ∧ ∃ d2, SorterIn led' x dx d2 .none 0 0 ∧ NodesIn w led' d2 [] ∧ (∀ p ∈ led, p.1 < d2) ∧ Keep [dx] led led') := by
  intro p loose mean mg mb A A₀ env outer base b L m s led R hh hA hf hke hd hu B F X N ND T hpre hret
  obtain ⟨M, Md⟩ := hpre
  have hdx : x ≠ dx := ND.neC M Md (by simp)
  walk_at "enter"
  k_steps
  rename_i d2 _ o2 _ _ l1 lo hs _ _ _ _ _ _ _ _ _ _ _ _ _ _ _ kF kN _ _
  have hd2 : d2 ≠ dx := Nat.ne_of_gt (l1 _ Md)
  have hlt : ∀ p ∈ led, p.1 < d2 := l1
  refine hret _ _ _ _ kF kN (by walk_at "nd") ⟨rfl, d2, ⟨by k_mem, hd2, _, _, _, _, _, _, _, _, _, _, _, mem_upd_self (mem_upd_self (mem_upd_self (mem_upd_self (List.mem_cons_of_mem _ Md))))⟩, ⟨⟨lo, o2, by k_mem, hs⟩, by simp, by simp, by simp⟩, hlt, ?_⟩
  exact Keep.upd (Keep.upd (Keep.upd (Keep.upd (Keep.cons Keep.refl) (by simp)) (by simp)) (by simp)) (by simp)
theorem rst_SCyc : True := by
  w_top off
  trivial
local macro_rules | `(tactic| walk_at "enterT") => `(tactic| k_dflt (refine' enterT ?st ?sz ?kA ?kT ?kN ?k6 ?k7 ?k8 ?k9 ?kB ?_ ?c2 ?c3 ?c4 ?c5; (case st => assumption); (case sz => assumption); (case kA => assumption); (case kT => assumption); (case kN => assumption); (case k6 => k_is); (case k7 => k_is); (case k8 => omega); (case k9 => first | exact BindsTo.of_eq rfl | exact binds_K (by k_in) rfl (by k_is) rfl rfl rfl); (case kB => exact locs rfl); (case c5 => decide); (case c2 => exact rfl); (case c3 => exact rfl); (case c4 => exact rfl); k_whole; intro L' h' F' N' lt0'; (try dsimp only); (try k_fold)))
local macro_rules | `(tactic| walk_at "si") => `(tactic| first | assumption | exact SetIn.mono (by assumption) fun _ _ _ => by k_mem)
local macro_rules | `(tactic| walk_at "di") => `(tactic| first | assumption | exact DictIn.mono (by assumption) fun _ _ => by k_mem)
theorem lines_10 : True := by
  k_with "exec While" => ((refine wpAny_While ?_; refine halt ?_))
  k_with "compareOp In str ref" => (first | refine set_yes (by assumption) (by walk_at "si") (by walk_at "sz") (by assumption) ?_ | refine set_no (by assumption) (by walk_at "si") (by walk_at "sz") (by assumption) ?_ | refine set_in (by assumption) (by walk_at "si") (by walk_at "sz") ?_ | refine d_in_yes (by assumption) (by walk_at "di") (by assumption) ?_ | refine d_in_no (by assumption) (by walk_at "di") (by assumption) ?_ | refine d_in (by assumption) (by walk_at "di") ?_ | refine halt ?_)
  k_with "getMethod ref" => (((with_reducible show wpAny _ _ (getMethod (Value.ref _) (Str.ofString "add") _) _ _ _); with_reducible refine set_addM (by assumption) (by walk_at "si") (by walk_at "sz") ?_))
  k_with "call builtin:set.add" => (((with_reducible show wpAny _ _ (call (Value.builtin "set.add") _) _ _ _); first | (refine set_add (by assumption) (by assumption) (by walk_at "si") (by walk_at "sz") ?_; intro _ _ _ _ _ _) | refine halt ?_))
  k_with "getMethod ref" => (((with_reducible show wpAny _ _ (getMethod (Value.ref _) (Str.ofString "append") _) _ _ _); refine kl_method (by assumption) (by k_mem) PySem.F.slot_list_append PySem.F.type_list_append ?_))
  k_with "getMethod ref" => (((with_reducible show wpAny _ _ (getMethod (Value.ref _) (Str.ofString "pop") _) _ _ _); refine kl_method (by assumption) (by k_mem) PySem.F.slot_list_pop PySem.F.type_list_pop ?_))
  k_with "truthy ref" => (first | refine l_truthy0 (by assumption) (by k_mem) ?_ | refine l_truthy1 (by assumption) (by k_mem) (by walk_at "sz") ?_ | refine halt ?_)
  k_with "call builtin:iter" => ((refine li_iter (by assumption) (by assumption) (by k_mem) ?_; intro _ _ _ _ _))
  k_with "getAttr ref" => (((with_reducible show wpAny _ _ (getAttr (Value.ref _) (Str.ofString "__next__") _) _ _ _); (refine li_next (by assumption) (by assumption) (by k_mem) ?_; intro _ _ _ _ _)))
  k_with "subscriptTail" => (((with_reducible show wpAny _ _ (subscriptTail _ _ (Value.ref _) (Value.int (-1) _)) _ _ _); refine l_last (by assumption) (by k_mem) (by walk_at "sz") ?_ (by with_unfolding_all rfl)))
  trivial
local macro_rules | `(tactic| walk_at "subscriptTail") => `(tactic| ((with_reducible show wpAny _ _ (subscriptTail _ (PySem.Expr.Slice _ _ none _) (Value.ref _) (Value.ref _)) _ _ _); k_dflt (refine' l_slice0 ?F ?N ?M ?z ?_ ?hs ?ht; (case F => assumption); (case N => assumption); (case M => k_mem); (case z => walk_at "sz"); (case hs => with_unfolding_all rfl); (case ht => kmk_pure); k_whole; intro D' h' F' N' l1')))
theorem lines_11 : True := by
  k_with "binaryOp Add ref ref" => ((refine l_add (by assumption) (by assumption) (by k_mem) (by k_mem) (by walk_at "sz") ?_; intro _ _ _ _ _))
  k_with "call builtin:list.pop" => ((refine l_pop (by assumption) (by assumption) (by walk_at "nd") (by k_mem) (by walk_at "sz") ?_; intro _ _ _))
  k_with "delItem ref" => ((refine d_del (by assumption) (by assumption) (by walk_at "di") (by walk_at "sz") (by assumption) ?_; intro _ _ _ _ _ _))
  trivial
theorem lines_12 : True := by
  k_with "callWith ref" => (((with_reducible show wpAny _ _ (callWith _ (Value.ref _) [] (backTo _ (starEach [] _)) []) _ _ _); refine nx_callWith (by assumption) (by k_mem) ?_))
  trivial
/-- what _find_cycle gives -/
noncomputable def CycOut (t : Str → Option Str) (Cyc : Str → Prop) (names : List Str) (led : Led) (v : Value) (led' : Led) : Prop :=
  (v = .none ∧ ∀ y ∈ names, ¬ Cyc y) ∨ ∃ r i y l, v = .ref r ∧ (∀ p ∈ led, p.1 ≠ r) ∧ StrL led' r (l ++ [y]) ∧ names[i]? = some y ∧ (∀ (j : Nat) u, j < i → names[j]? = some u → ¬ Cyc u) ∧ l.Nodup ∧ l[0]? = some y ∧ Lnk t (l ++ [y])
set_option maxHeartbeats 4000000 in
theorem find_cycle_ok (w : World) {x dx d2 : Addr} {rdy : Value} {np nf : Int} {nds : List Nd} {t : Str → Option Str} {Cyc : Str → Prop} (hsz : nds.length ≤ 900) (hsc : SuccLe 900 (nv nds))
    (hG1 : ∀ nd ∈ nds, ∀ s ∈ nd.succ, t s = some nd.name ∧ s ∈ nds.map (·.name)) (hG2 : ∀ nd ∈ nds, (∀ s ∈ nd.succ, ¬ Cyc s) → ¬ Cyc nd.name) :
    SpecT w 2 139 [.ref x] (fun led => SorterIn led x dx d2 rdy np nf ∧ NodesIn w led d2 nds)
      (fun led v led' => (∀ p ∈ led, p ∈ led') ∧ CycOut t Cyc (nds.map (·.name)) led v led') := by
  intro p loose mean mg mb A l g s frs led0 R hh hA hd hu Fs st hsg X T N ND hpre hret
  obtain ⟨HS0, HN0⟩ := hpre
  walk_at "enterT"
  rename_i L' h' F' N' lt0
  have NDf : NDL frs := by unfold NDL at ND ⊢; rw [List.map_append, List.nodup_append] at ND; exact ND.2.1
  generalize hled : led0 ++ frs = led at N' ND lt0
  have hsub0 : ∀ q ∈ led0, q ∈ led := fun q hq => hled ▸ List.mem_append_left _ hq
  have hfrs0 : FrmIn frs led := .self fun q hq => hled ▸ List.mem_append_right _ hq
  have HS := HS0.mono hsub0
  have HN := HN0.mono hsub0
  obtain ⟨lo, o2, Md20, hD2⟩ := HN0.1
  have Md2 := hsub0 _ Md20
  k_steps
  unfold Halt
  rename_i S0 _ l1 _ _ T0 _ l2 _ Z _ _ _ hZ l3 _ Dn _ oD loD hDn _ _ _ l4 _ F' N'
  have hnn := HN.2.2.1
  have hlow : ∀ q ∈ led, q.1 ∉ [Z, T0, Dn, S0] := fun q hq hm => by
    have h1 := l1 q hq
    have h2 := allLt_mem l2.2 q hq
    have h3 := allLt_mem l3.2.2 q hq
    have h4 := allLt_mem l4.2.2.2 q hq
    simp only [List.mem_cons, List.not_mem_nil, or_false] at hm
    rcases hm with e | e | e | e
    · exact Nat.ne_of_lt h3 e
    · exact Nat.ne_of_lt h2 e
    · exact Nat.ne_of_lt h4 e
    · exact Nat.ne_of_lt h1 e
  refine for_src (src_dict hh F' N' lo (by k_mem) hD2) (by walk_at "nd") (by intro p hp; rw [List.mem_singleton.mp hp]; k_mem) (fun i m₁ led₁ => m₁ (Str.ofString "self") = some (.ref x) ∧ m₁ (Str.ofString "n2i") = some (.ref d2)
    ∧ m₁ (Str.ofString "seen") = some (.ref Z) ∧ m₁ (Str.ofString "stack") = some (.ref S0) ∧ m₁ (Str.ofString "itstack") = some (.ref T0) ∧ m₁ (Str.ofString "node2stacki") = some (.ref Dn) ∧
    ∃ seen, StkIn w led₁ S0 T0 Z Dn [] seen ∧ CI t Cyc nds [] seen ∧ (∀ (j : Nat) u, j < i → (nds.map (·.name))[j]? = some u → u ∈ seen) ∧ (∀ p ∈ led0, p ∈ led₁) ∧ FrmIn frs led₁) ?_ ?_ ?_
  · refine ⟨by rfl, by rfl, by rfl, by rfl, by rfl, by rfl, [], ⟨⟨0, by k_mem⟩, ⟨0, by k_mem⟩, ⟨_, _, 0, by k_mem, hZ, by simp, by simp⟩, ⟨loD, oD, by k_mem, hDn⟩, by simp⟩, ⟨by simp, by simp, by simp, by simp, by simp, by simp, by simp, fun i a c h => by simp at h⟩, by simp, fun p hp => ?_, hfrs0.mono (by walk_at "sub")⟩
    have := hsub0 p hp
    k_mem
  · rintro i v m₁ led₁ h tk I oI ic hi p1x0 p1x1 hcI hic NDs hfx Fs' Ns
    refine fresh_turn fun G1 hG1 => ?_
    obtain ⟨y, xv, ty, hkv, rfl⟩ := p1x0
    obtain ⟨e1, e2, e3, e4, e5, e6, seen, SK, hCI, hpre, hsub, hfr⟩ := p1x1
    have hzl : seen.length ≤ 900 := Nat.le_trans hCI.seenLe hsz
    have ZI : SetIn w ((I, oI) :: led₁) Z seen := SK.set.mono fun _ h _ => List.mem_cons_of_mem _ h
    refine hG1 fun Q1 hQ1 => ?_
    clear hG1 G1
    by_cases hys : y ∈ seen
    · k_steps
      show LoopEnd _ _ _ _ _ _ _ _
      have hyn : (nds.map (·.name))[i]? = some y := by simp only [nkv, List.getElem?_map, Option.map_eq_some_iff] at hkv ⊢; obtain ⟨nd, h1, h2⟩ := hkv; exact ⟨nd, h1, congrArg Prod.fst h2⟩
      rename_i F1 N1 _
      refine ⟨_, _, _, _, rfl, F1, N1, NDs, .head _, fun q hq => .tail _ (hfx q hq), fun led' kk => ⟨ite_ne (by decide) e1, ite_ne (by decide) e2, ite_ne (by decide) e3, ite_ne (by decide) e4, ite_ne (by decide) e5, ite_ne (by decide) e6, seen, ?_, hCI, ?_, ?_, ?_⟩⟩
      · exact SK.mono fun q hq => kk q (.tail _ hq) (NDs.head q hq)
      · intro j u hj hu
        by_cases e : j = i
        · subst e; rw [hyn] at hu; cases hu; exact hys
        · exact hpre j u (by exact oq39 hj e) hu
      · exact fun q hq => kk q (.tail _ (hsub q hq)) (NDs.head q (hsub q hq))
      · obtain ⟨f, su, hf⟩ := hfr
        exact ⟨f, su, fun q hq => kk q (.tail _ (hf q hq)) (NDs.head q (hf q hq))⟩
    · k_steps
      unfold Halt
      rename_i F1 N1 _
      have hyn : (nds.map (·.name))[i]? = some y := by simp only [nkv, List.getElem?_map, Option.map_eq_some_iff] at hkv ⊢; obtain ⟨nd, h1, h2⟩ := hkv; exact ⟨nd, h1, congrArg Prod.fst h2⟩
      refine while_led (k := meas nds [] seen) (fun k m₁ led₁ => m₁ (Str.ofString "self") = some (.ref x) ∧ m₁ (Str.ofString "n2i") = some (.ref d2)
        ∧ m₁ (Str.ofString "seen") = some (.ref Z) ∧ m₁ (Str.ofString "stack") = some (.ref S0) ∧ m₁ (Str.ofString "itstack") = some (.ref T0) ∧ m₁ (Str.ofString "node2stacki") = some (.ref Dn) ∧
        ∃ z tz fs seen', m₁ (Str.ofString "node") = some (.str z tz) ∧ StkIn w led₁ S0 T0 Z Dn fs seen' ∧ CI t Cyc nds fs seen' ∧ Con Cyc fs [z] ∧ Lnk t (fs.map (·.name) ++ [z]) ∧ (fs.map (·.name) ++ [z])[0]? = some y ∧ (fs = [] → z ∉ seen') ∧ z ∈ nds.map (·.name)
        ∧ meas nds fs seen' = k ∧ (∀ u ∈ seen, u ∈ seen') ∧ (∀ p ∈ led0, p ∈ led₁) ∧ FrmIn frs led₁ ∧ (I, oI) ∈ led₁ ∧ ∀ f ∈ fs, S0 < f.it ∧ I < f.it) F1 N1 NDs ?_ ?_
      · refine ⟨ite_ne (by decide) e1, ite_ne (by decide) e2, ite_ne (by decide) e3, ite_ne (by decide) e4, ite_ne (by decide) e5, ite_ne (by decide) e6, y, ty, [], seen, by rfl, SK.mono (by walk_at "sub"), hCI, fun i f h => by simp at h, fun i a c h1 h2 => by simp at h1 h2, by simp, fun _ => hys, List.mem_of_getElem? hyn, rfl, fun u hu => hu, fun p hp => .tail _ (hsub p hp), hfr.mono (by walk_at "sub"), .head _, by simp⟩
      · rintro k m₂ led₂ h6 tk6 p2x0 ND6 F6 N6
        refine fresh_while fun G2 hG2 => ?_
        obtain ⟨e1, e2, e3, e4, e5, e6, z, tz, fs, seen2, e7, SK2, CI2, Con2, Lnk2, Rt2, hnil, hzin, hms, hss, hsub2, hfr2, hI2, hab2⟩ := p2x0
        have hzl2 : seen2.length ≤ 900 := Nat.le_trans CI2.seenLe hsz
        have ZI2 := SK2.set
        have D2 := SK2.dic
        obtain ⟨nS, MS⟩ := SK2.stk
        obtain ⟨nT, MT⟩ := SK2.its
        have hfl := CI2.fsLe
        refine hG2 fun Q2 R2 hQ2 hR2 => ?_
        clear hG2 G2
        by_cases hz : z ∈ seen2
        case' neg =>
          obtain ⟨nd, hnd, rfl⟩ := nd_of_name hzin
          have hval := valueAt_nkv HN.2.2.1 hnd
          have HN2 : NodesIn w led₂ d2 nds := HN0.mono hsub2
          obtain ⟨⟨⟨u1, u2, Mn⟩, ⟨vs, nn, Mvs, hvs⟩, Mdn⟩, _⟩ := HN2.2.1 nd hnd
          have D1 := HN2.1
          obtain ⟨oZ, SZ, nZ, MZ, hZo, rZ⟩ := id ZI2
          have hcZ : oZ.cls = .type "set" := hZo.1.1
          obtain ⟨o2, M2, hc2⟩ := HN2.d2Mem
          obtain ⟨_, oDn, MDn, hDn⟩ := id D2
          have q1 : nd.at_ ≠ Z := ND6.neC Mn MZ (by rw [hcZ]; simp)
          have q2 : nd.lst ≠ Z := ND6.neC Mvs MZ (by rw [hcZ]; simp)
          have q3 : nd.dn ≠ Z := ND6.neC Mdn MZ (by rw [hcZ]; simp)
          have q4 : T0 ≠ Z := Nat.ne_of_lt l3.1
          have q5 : S0 ≠ Z := Nat.ne_of_lt l3.2.1
          have q6 : S0 ≠ T0 := Nat.ne_of_lt l2.1
          have q7 : d2 ≠ Z := ND6.neC M2 MZ (by rw [hcZ, hc2]; simp)
          have q8 : Z ≠ Dn := Nat.ne_of_lt l4.1
          have q9 : T0 ≠ Dn := Nat.ne_of_lt l4.2.1
          have q10 : S0 ≠ Dn := Nat.ne_of_lt l4.2.2.1
          have D1' : ∀ o, DictIn w (upd led₂ Z o) d2 (nkv nds) := fun o => D1.keep (S := [Z]) (Keep.refl.upd (by simp)) (by simpa using q7)
          have hz1 : (itVs fs).toArray.size ≤ sizeLine := by rw [sizeLine_eq]; simp; exact oq40 hsz hfl
          have hz2 : (stkVs fs).toArray.size ≤ sizeLine := by rw [sizeLine_eq]; simp; exact oq40 hsz hfl
          have hz3 : (((stkVs fs).toArray.size : Nat) : Int) < 2 ^ 63 := by simp; omega
          have hz4 : (ikv fs).length ≤ sizeLine := by rw [ikvF_length, sizeLine_eq]; exact oq40 hsz hfl
          k_steps
          unfold Halt
          rename_i h5 oZ' coZ F5 N5 Z5 _ I3 h4 F4 N4 lI q3' h3 F3 N3 lq h2 F2 N2 _ h1 oD' F1 N1 D1'' _ h0 F0 N0
          have ST : ∃ led₃ fs3 seen3, News g L' h0 led₃ ∧ NDL led₃ ∧ StkIn w led₃ S0 T0 Z Dn fs3 seen3 ∧ CI t Cyc nds fs3 seen3 ∧ Con Cyc fs3 [] ∧ (fs3 = [] ∨ (fs3.map (·.name))[0]? = some y) ∧ y ∈ seen3 ∧ meas nds fs3 seen3 ≤ k ∧ (∀ u ∈ seen, u ∈ seen3) ∧ (∀ p ∈ led0, p ∈ led₃) ∧ FrmIn frs led₃ ∧ (I, oI) ∈ led₃ ∧ ∀ f ∈ fs3, S0 < f.it ∧ I < f.it := by
            obtain ⟨SK3, KP3, ND3⟩ := SK2.push ND6 (f := ⟨nd.name, tz, _, I3, q3', nd.lst, 0, nd.succ⟩) rfl (fun hm => by obtain ⟨g, hg, e⟩ := List.mem_map.mp hm; exact hz (by have h := CI2.inSeen g hg; simp only at e; rwa [e] at h)) q4 q5 q6 q8 q9 q10 MZ hcZ MDn (isDict_cls hDn) MS MT lI lq Z5 D1''
            refine ⟨_, _, _, N0, ND3, SK3, CI2.push hnd rfl rfl rfl rfl hz Lnk2, Con2.push rfl, .inr ?_, ?_, ?_, fun u hu => .tail _ (hss u hu), fun q hq => KP3 q (hsub2 q hq) (hlow q (hsub0 q hq)), hfr2.keep KP3 fun q hq => hlow q (hled ▸ List.mem_append_right _ hq), KP3 _ hI2 ?_, ?_⟩
            · simpa using Rt2
            · rcases fs with _ | ⟨f0, fr⟩
              · simp at Rt2; rw [Rt2]; exact .head _
              · simp at Rt2; rw [← Rt2]; exact .tail _ (CI2.inSeen _ (.head _))
            · have : meas nds (fs ++ [⟨nd.name, tz, 0, I3, q3', nd.lst, 0, nd.succ⟩]) (nd.name :: seen2) + 1 = meas nds fs seen2 := meas_push (fs := fs) hnn hnd (f := ⟨nd.name, tz, 0, I3, q3', nd.lst, 0, nd.succ⟩) rfl rfl rfl hz
              have h2 : ∀ a, meas nds (fs ++ [⟨nd.name, tz, a, I3, q3', nd.lst, 0, nd.succ⟩]) (nd.name :: seen2) = meas nds (fs ++ [⟨nd.name, tz, 0, I3, q3', nd.lst, 0, nd.succ⟩]) (nd.name :: seen2) := fun a => by unfold meas; rw [leftOf_snoc, leftOf_snoc]
              rw [h2]; exact oq41 hms this
            · simp only [List.mem_cons, List.not_mem_nil, or_false, not_or]
              exact ⟨ND6.neC hI2 MZ (by rw [hcI, hcZ]; simpa using hic.2.2.2.2), ND6.neC hI2 MT (by rw [hcI]; simpa using hic.1), ND6.neC hI2 MDn (by rw [hcI, isDict_cls hDn]; simpa using hic.2.1), ND6.neC hI2 MS (by rw [hcI]; simpa using hic.1)⟩
            · intro g hg
              rcases List.mem_append.mp hg with hg | hg
              · exact hab2 g hg
              · rw [List.mem_singleton.mp hg]
                exact ⟨lI _ (mem_upd_ne MS q5), lI _ (mem_upd_ne hI2 (ND6.neC hI2 MZ (by rw [hcI, hcZ]; simpa using hic.2.2.2.2)))⟩
        case' pos =>
          by_cases hzf : z ∈ fs.map (·.name)
          case pos =>
            have h0 := Lnk2.ring CI2.nodup hzf
            rw [List.getElem?_map, Option.map_eq_some_iff] at h0
            obtain ⟨f0, hf0, hf0n⟩ := h0
            have hzy : z = y := by
              rcases fs with _ | ⟨g0, gr⟩
              · simp at hf0
              · simp at hf0 Rt2; rw [← hf0n, ← hf0, Rt2]
            have hval : valueAt (ikv fs) z = some (.int 0 f0.ti) := by have := ikvF_get (k := 0) CI2.nodup hf0; rw [hf0n] at this; simpa using this
            have hz1 : (stkVs fs).length ≤ sizeLine := by rw [sizeLine_eq]; simp; exact oq40 hsz hfl
            have hz2 : (stkVs fs).length + [Value.str z tz].length ≤ sizeLine := by rw [sizeLine_eq]; simp; exact oq42 hsz hfl
            k_steps
            rename_i D3 _ lD3 l4' _ _ _ ll4 Dr hr Fr' Nr' lr
            show Q1 _ _
            refine Ends.use hQ1 ?_
            show R _ _
            have hrn : ∀ q ∈ led₂, q.1 < Dr := fun q hq => lr q (.tail _ (.tail _ hq))
            obtain ⟨new, f, su, n1, n2, n3, n4, n5⟩ := endT Nr' (((ND6.cons lD3).consA (o := listOf #[Value.str z tz] 0) ⟨ll4.1, ll4.2⟩).cons (o := listOf (stkVs fs ++ [Value.str z tz]).toArray 0) lr) (frs := frs) (led0 := led0) (hfr2.mono fun q hq => .tail _ (.tail _ (.tail _ hq))) (by rw [hled]; exact ND)
            refine hret _ _ _ new f su (fun b o e => Fr'.keep b o e) n1 n2 ⟨fun q hq => n3 q hq (.tail _ (.tail _ (.tail _ (hsub2 q hq)))), .inr ⟨Dr, i, z, fs.map (·.name), rfl, fun q hq => Nat.ne_of_lt (hrn q (hsub2 q hq)), ⟨stkVs fs ++ [Value.str z tz], 0, n4 _ (.head _) ?_, ?_⟩, ?_, ?_, CI2.nodup, ?_, Lnk2⟩⟩
            · exact notFrm Fs (hfr2.mono fun q hq => .tail _ (.tail _ (.tail _ hq))) (((ND6.cons lD3).consA (o := listOf #[Value.str z tz] 0) ⟨ll4.1, ll4.2⟩).cons (o := listOf (stkVs fs ++ [Value.str z tz]).toArray 0) lr) (.head _) (by intro es n e; cases e)
            · unfold StrsAre; simp [sv]
            · rw [hzy]; exact hyn
            · exact fun j u hj hu => hCI.off u (hpre j u hj hu) (by simp)
            · rw [List.getElem?_map, hf0]; simp [hf0n]
          case' neg =>
            have hval := ikvF_none (k := 0) hzf
            k_steps
            unfold Halt
            have ST : ∃ led₃ fs3 seen3, News g L' h6 led₃ ∧ NDL led₃ ∧ StkIn w led₃ S0 T0 Z Dn fs3 seen3 ∧ CI t Cyc nds fs3 seen3 ∧ Con Cyc fs3 [] ∧ (fs3 = [] ∨ (fs3.map (·.name))[0]? = some y) ∧ y ∈ seen3 ∧ meas nds fs3 seen3 ≤ k ∧ (∀ u ∈ seen, u ∈ seen3) ∧ (∀ p ∈ led0, p ∈ led₃) ∧ FrmIn frs led₃ ∧ (I, oI) ∈ led₃ ∧ ∀ f ∈ fs3, S0 < f.it ∧ I < f.it := by
              refine ⟨led₂, fs, seen2, N6, ND6, SK2, CI2, Con2.skip (CI2.off z hz hzf), ?_, ?_, Nat.le_of_eq hms, hss, hsub2, hfr2, hI2, hab2⟩
              · rcases fs with _ | ⟨f0, fr⟩
                · exact .inl rfl
                · exact .inr (by simpa using Rt2)
              · rcases fs with _ | ⟨f0, fr⟩
                · exact absurd hz (hnil rfl)
                · simp at Rt2; rw [← Rt2]; exact CI2.inSeen _ (.head _)
        all_goals
          obtain ⟨led₃, fs3, seen3, N₃, ND₃, SK3, CI3, Con3, Rt3, hy3, hm3, hss3, hsub3, hfr3, hI3, hab3⟩ := ST
          refine while_led (k := fs3.length) (fun k' m₁ led₁ => m₁ (Str.ofString "self") = some (.ref x) ∧ m₁ (Str.ofString "n2i") = some (.ref d2)
            ∧ m₁ (Str.ofString "seen") = some (.ref Z) ∧ m₁ (Str.ofString "stack") = some (.ref S0) ∧ m₁ (Str.ofString "itstack") = some (.ref T0) ∧ m₁ (Str.ofString "node2stacki") = some (.ref Dn) ∧
            ∃ fs, fs.length = k' ∧ StkIn w led₁ S0 T0 Z Dn fs seen3 ∧ CI t Cyc nds fs seen3 ∧ Con Cyc fs [] ∧ (fs = [] ∨ (fs.map (·.name))[0]? = some y) ∧ meas nds fs seen3 ≤ k ∧ (∀ p ∈ led0, p ∈ led₁) ∧ FrmIn frs led₁ ∧ (I, oI) ∈ led₁ ∧ ∀ f ∈ fs, S0 < f.it ∧ I < f.it) (by assumption) N₃ ND₃ ⟨e1, e2, e3, e4, e5, e6, fs3, rfl, SK3, CI3, Con3, Rt3, hm3, hsub3, hfr3, hI3, hab3⟩ ?_
          clear hm3 hsub3 hfr3 hI3 hab3 Rt3 Con3 CI3 SK3 N₃ ND₃
          rintro k' m₄ led₄ h7 tk7 p3x0 ND7 F7 N7
          refine fresh_while fun G3 hG3 => ?_
          obtain ⟨e1, e2, e3, e4, e5, e6, fs4, hk4, SK4, CI4, Con4, Rt4, hm4, hsub4, hfr4, hI4, hab4⟩ := p3x0
          obtain ⟨nS4, MS4⟩ := SK4.stk
          obtain ⟨nT4, MT4⟩ := SK4.its
          have D4 := SK4.dic
          have hfl4 := CI4.fsLe
          have hsz4 : (((stkVs fs4).toArray.size : Nat) : Int) < 2 ^ 63 := by simp; omega
          refine hG3 fun Q3 R3 hQ3 hR3 => ?_
          clear hG3 G3
          rcases List.eq_nil_or_concat fs4 with rfl | ⟨fs5, f5, rfl⟩
          · k_steps
            show wpAny _ _ (execs _ _) Q1 _ _
            k_steps
            show LoopEnd _ _ _ _ _ _ _ _
            refine ⟨_, _, _, led₄, rfl, F7, by assumption, ND7, hI4, fun q hq => ?_, fun led' kk => ⟨e1, e2, e3, e4, e5, e6, seen3, SK4.keepNil ND7 hI4 hcI hic.1 hic.2.1 hic.2.2.2.2 kk, CI4, ?_, ?_, ?_⟩⟩
            · rw [List.mem_singleton.mp hq]; exact hsub4 _ Md20
            · intro j u hj hu
              by_cases e : j = i
              · subst e; rw [hyn] at hu; cases hu; exact hy3
              · exact hss3 _ (hpre j u (by exact oq39 hj e) hu)
            · exact fun q hq => kk q (hsub4 q hq) (NDs.head q (hsub q hq))
            · exact hfr4.keep (S := [I]) (fun q hq hn => kk q hq (by simpa using hn)) fun q hq => by
                obtain ⟨f, su, hf⟩ := hfr
                have hk : q.1 ∈ f.map (·.1) := by rw [sameUp_keys su]; exact List.mem_map_of_mem hq
                obtain ⟨q', hq', e⟩ := List.mem_map.mp hk
                simpa using e ▸ NDs.head q' (hf q' hq')
          · rw [List.concat_eq_append] at *
            have hs5 : stkVs (fs5 ++ [f5]) = stkVs fs5 ++ [.str f5.name f5.t] := by simp
            have hi5 : itVs (fs5 ++ [f5]) = itVs fs5 ++ [.ref f5.q] := by simp
            rw [hs5] at MS4
            rw [hi5] at MT4
            obtain ⟨Mq5, Mi5⟩ := SK4.fr f5 (List.mem_append_right _ (.head _))
            have hl5 : fs5.length + 1 ≤ nds.length := by simpa using hfl4
            have hl6 : (stkVs fs5).length < 2 ^ 62 := by simp; exact oq43 hsz hl5
            have hl7 : (itVs fs5).length < 2 ^ 62 := by simp; exact oq43 hsz hl5
            have hab5 := hab4 f5 (List.mem_append_right _ (.head _))
            obtain ⟨nd5, hnd5, ea5, eb5, ec5⟩ := CI4.nd f5 (List.mem_append_right _ (.head _))
            have HN4 : NodesIn w led₄ d2 nds := HN0.mono hsub4
            obtain ⟨_, ⟨vs5, nn5, Ml5, hv5⟩, _⟩ := (HN4.2.1 nd5 hnd5).1
            rw [eb5] at Ml5
            rw [ec5] at hv5
            have hRt : (fs5.map (·.name) ++ [f5.name])[0]? = some y := by
              rcases Rt4 with e | e
              · simp at e
              · simpa using e
            k_steps
            cases hit : f5.succ[f5.pos]? with
            | some y' =>
              obtain ⟨t', hv'⟩ := hv5.get hit
              refine nx_item (by assumption) (by assumption) Mq5 Mi5 Ml5 (v := .str y' t') (by simpa using hv') ?_
              intro h8 F8 N8
              have hsm : y' ∈ nd5.succ := by rw [ec5]; exact List.mem_of_getElem? hit
              obtain ⟨ht5, hn5⟩ := hG1 nd5 hnd5 y' hsm
              k_steps
              show wpAny _ _ (execs _ _) Q2 _ _
              k_steps
              show WhileEnd _ _ _ _ _ _
              rename_i F9 N9
              have hmt := meas_take (nds := nds) (fs := fs5) (seen := seen3) hit
              refine ⟨_, _, _, _, meas nds (fs5 ++ [f5.up]) seen3, rfl, by exact oq44 hm4 hmt, F9, N9, ND7.upd, ite_ne (by decide) e1, ite_ne (by decide) e2, ite_ne (by decide) e3, ite_ne (by decide) e4, ite_ne (by decide) e5, ite_ne (by decide) e6, y', t', fs5 ++ [f5.up], seen3, by rfl,
                SK4.take CI4 ND7 HN.2.2.2, CI4.take hit, Con4.take hit, CI4.lnk.take (by rw [ht5, ea5]), ?_, by simp, hn5, rfl, hss3, fun q hq => mem_upd_ne (hsub4 q hq) ?_, hfr4.keep (S := [f5.it]) (Keep.refl.upd (by simp)) ?_, mem_upd_ne hI4 ?_, ?_⟩
              · rcases fs5 with _ | ⟨f0, fr⟩ <;> simpa using hRt
              · exact Nat.ne_of_lt (Nat.lt_trans (l1 _ (hsub0 _ hq)) hab5.1)
              · intro q hq; simpa using Nat.ne_of_lt (Nat.lt_trans (l1 _ (hled ▸ List.mem_append_right _ hq)) hab5.1)
              · exact Nat.ne_of_lt hab5.2
              · intro g hg
                rcases List.mem_append.mp hg with hg | hg
                · exact hab4 g (List.mem_append_left _ hg)
                · rw [List.mem_singleton.mp hg]; exact hab5
            | none =>
              have hv' : vs5.toArray[f5.pos]? = none := by
                have h1 := List.getElem?_eq_none_iff.mp hit
                have h2 := hv5.length
                simp; exact oq45 h1 h2
              refine nx_end hh (by assumption) (by assumption) Mq5 Mi5 Ml5 hv' ?_
              intro h8 h9 e oE coE F8 N8 X8
              have hq5 : f5.it ∉ frs.map (·.1) := notFrm Fs hfr4 ND7 Mi5 (by intro es n e; cases e)
              have hfr8 : FrmIn frs (upd led₄ f5.it oE) := hfr4.keep (S := [f5.it]) (Keep.refl.upd (by simp)) fun q hq => by simp only [List.mem_singleton]; intro e; exact hq5 (by rw [← e]; exact List.mem_map_of_mem hq)
              refine caughtL hA Fs NDf X8 F8 N8 ND7.upd hfr8 X T (by k_is) PyProof.Rows.Boot.«StopIteration» (by decide) (isSubtype_of_subB (by decide +kernel)) (isSubtype_of_subB (by decide +kernel)) (isSubtype_of_subB (by decide +kernel)) ?_
              intro h10 ledC hfrC KC FC NC NDC
              have hfk : S0 ∉ frs.map (·.1) ∧ T0 ∉ frs.map (·.1) ∧ Z ∉ frs.map (·.1) ∧ Dn ∉ frs.map (·.1) := by
                refine ⟨?_, ?_, ?_, ?_⟩ <;> intro hm <;> obtain ⟨q, hq, e⟩ := List.mem_map.mp hm <;> exact hlow q (hled ▸ List.mem_append_right _ hq) (by rw [e]; simp)
              obtain ⟨oZ4, _, _, MZ4, hZ4, _⟩ := id SK4.set
              obtain ⟨_, oD4, MD4, hD4⟩ := id SK4.dic
              have kC : Keep (f5.it :: frs.map (·.1)) led₄ ledC := ((Keep.refl.upd (S := [f5.it]) (by simp)).more (by simp)).trans (KC.more fun a ha => .tail _ ha)
              have hne := CI4.itNe SK4 ND7 HN.2.2.2
              obtain ⟨⟨nSC, MSC⟩, ⟨nTC, MTC⟩, ZC, DC, hfC⟩ := SK4.pieces kC ⟨by simp only [List.mem_cons, not_or]; exact ⟨ND7.neC MS4 Mi5 (by simp), hfk.1⟩, by simp only [List.mem_cons, not_or]; exact ⟨ND7.neC MT4 Mi5 (by simp), hfk.2.1⟩,
                by simp only [List.mem_cons, not_or]; exact ⟨ND7.neC MZ4 Mi5 (by rw [hZ4.1.1]; simp), hfk.2.2.1⟩, by simp only [List.mem_cons, not_or]; exact ⟨ND7.neC MD4 Mi5 (by rw [isDict_cls hD4]; simp), hfk.2.2.2⟩⟩
                (fun g hg => ⟨by simp only [List.mem_cons, not_or]; exact ⟨(hne g hg).1, notFrm Fs hfr4 ND7 (SK4.fr g (List.mem_append_left _ hg)).1 (by intro es n e; cases e)⟩, by simp only [List.mem_cons, not_or]; exact ⟨(hne g hg).2.1, notFrm Fs hfr4 ND7 (SK4.fr g (List.mem_append_left _ hg)).2 (by intro es n e; cases e)⟩⟩)
              have hnn5 : f5.name ∉ fs5.map (·.name) := fun hm => by
                have h := CI4.nodup
                rw [List.map_append, List.nodup_append] at h
                exact h.2.2 _ hm f5.name (by simp) rfl
              have hval : valueAt (ikv (fs5 ++ [f5])) f5.name = some (.int (0 + fs5.length : Nat) f5.ti) := ikvF_get CI4.nodup (by simp)
              have hvs : (valueAt (ikv (fs5 ++ [f5])) f5.name).isSome = true := by rw [hval]; rfl
              have hz8 : (stkVs fs5).length < sizeLine := by rw [sizeLine_eq]; simp; exact oq46 hsz hl5
              have hz9 : (itVs fs5).length < sizeLine := by rw [sizeLine_eq]; simp; exact oq46 hsz hl5
              have hz10 : (ikv (fs5 ++ [f5])).length ≤ sizeLine := by rw [ikvF_length, sizeLine_eq]; simp; exact oq47 hsz hl5
              have q6 : S0 ≠ T0 := Nat.ne_of_lt l2.1
              have q9 : T0 ≠ Dn := Nat.ne_of_lt l4.2.1
              have q10 : S0 ≠ Dn := Nat.ne_of_lt l4.2.2.1
              k_steps
              show WhileEnd _ _ _ _ _ _
              rename_i h11 F11 N11 h12 oD' _ F12 N12 D12 h13 F13 N13
              have kf := ((kC.more (S' := f5.it :: frs.map (·.1) ++ [Z, T0, Dn, S0]) fun a ha => List.mem_append_left _ ha).upd (a := S0) (o := listOf (stkVs fs5).toArray (nSC + 1)) (List.mem_append_right _ (by simp))).upd (a := Dn) (o := oD') (List.mem_append_right _ (by simp))
              have kf := kf.upd (a := T0) (o := listOf (itVs fs5).toArray (nTC + 1)) (List.mem_append_right _ (by simp))
              have hkf : ∀ q : Addr, q < S0 → q ∉ frs.map (·.1) → q ∉ f5.it :: frs.map (·.1) ++ [Z, T0, Dn, S0] := fun q h1 h2 => by
                simp only [List.cons_append, List.mem_cons, List.mem_append, List.not_mem_nil, or_false, not_or]
                have c1 := l3.1
                have c2 := l2.1
                have c3 := l4.1
                have c5 := hab5.1
                exact ⟨Nat.ne_of_lt (Nat.lt_trans h1 c5), h2, Nat.ne_of_lt (Nat.lt_trans h1 (Nat.lt_trans c2 c1)), Nat.ne_of_lt (Nat.lt_trans h1 c2), Nat.ne_of_lt (Nat.lt_trans h1 (Nat.lt_trans c2 (Nat.lt_trans c1 c3))), Nat.ne_of_lt h1⟩
              obtain ⟨CI5, Con5⟩ := CI4.pop Con4 hit hG2
              refine ⟨_, _, _, _, fs5.length, rfl, by simp at hk4; exact Nat.le_of_eq hk4, F13, N13, NDC.upd.upd.upd, e1, e2, e3, e4, e5, e6, fs5, rfl, StkIn.pop' NDC q6 q9 q10 (Nat.ne_of_lt l3.1) (Nat.ne_of_lt l3.2.1) (Nat.ne_of_lt l4.1) MSC MTC ZC DC hfC hnn5 D12, CI5, Con5, ?_, Nat.le_trans leftOf_pop hm4, fun q hq => kf q (hsub4 q hq) (hkf _ (l1 _ (hsub0 _ hq)) ?_), ?_, kf _ hI4 ?_, fun g hg => hab4 g (List.mem_append_left _ hg)⟩
              · rcases fs5 with _ | ⟨f0, fr⟩
                · exact .inl rfl
                · exact .inr (by simpa using hRt)
              · intro hm
                rw [← hled] at ND
                unfold NDL at ND; rw [List.map_append, List.nodup_append] at ND
                exact ND.2.2 _ (List.mem_map_of_mem hq) _ hm rfl
              · exact (((FrmIn.keep (S := [S0]) hfrC (Keep.refl.upd (by simp)) fun q hq => by simpa using Nat.ne_of_lt (l1 _ (hled ▸ List.mem_append_right _ hq))).keep (S := [Dn]) (Keep.refl.upd (by simp)) fun q hq => by simpa using Nat.ne_of_lt (allLt_mem l4.2.2.2 _ (hled ▸ List.mem_append_right _ hq))).keep (S := [T0]) (Keep.refl.upd (by simp)) fun q hq => by simpa using Nat.ne_of_lt (allLt_mem l2.2 _ (hled ▸ List.mem_append_right _ hq)))
              · simp only [List.cons_append, List.mem_cons, List.mem_append, List.not_mem_nil, or_false, not_or]
                refine ⟨Nat.ne_of_lt hab5.2, ?_, ND7.neC hI4 MZ4 (by rw [hcI, hZ4.1.1]; simpa using hic.2.2.2.2), ND7.neC hI4 MT4 (by rw [hcI]; simpa using hic.1), ND7.neC hI4 MD4 (by rw [hcI, isDict_cls hD4]; simpa using hic.2.1), ND7.neC hI4 MS4 (by rw [hcI]; simpa using hic.1)⟩
                intro hm
                obtain ⟨f, su, hf⟩ := hfr
                rw [← sameUp_keys su] at hm
                obtain ⟨q', hq', e⟩ := List.mem_map.mp hm
                exact NDs.head q' (hf q' hq') e
  · rintro m₁ led₁ h tk p4x0 NDs hfx Fs' Ns
    refine fresh_goal fun G4 hG4 => ?_
    obtain ⟨e1, e2, e3, e4, e5, e6, seen, SK, hCI, hpre, hsub, hfr⟩ := p4x0
    refine hG4 ?_
    clear hG4 G4
    k_steps
    show R _ _
    obtain ⟨new, f, su, n1, n2, n3, n4, n5⟩ := endT Ns NDs (frs := frs) (led0 := led0) hfr (by rw [hled]; exact ND)
    refine hret _ _ _ new f su (fun b o e => Fs'.keep b o e) n1 n2 ⟨fun q hq => n3 q hq (hsub q hq), .inl ⟨rfl, fun y hy => ?_⟩⟩
    obtain ⟨j, hj⟩ := List.getElem?_of_mem hy
    have hlt := (List.getElem?_eq_some_iff.mp hj).1
    exact hCI.off y (hpre j y (by simpa [nkv] using hlt) hj) (by simp)


theorem rst_LSteps : True := by
  w_top off
  trivial
theorem lines_13 : True := by
  k_with "compareOp In str ref" => (first | refine l_in_yes (by assumption) (by k_mem) (by assumption) (by assumption) ?_ | refine l_in_no (by assumption) (by k_mem) (by assumption) (by assumption) ?_ | refine set_yes (by assumption) (by walk_at "si") (by walk_at "sz") (by assumption) ?_ | refine set_no (by assumption) (by walk_at "si") (by walk_at "sz") (by assumption) ?_ | refine d_in_yes (by assumption) (by walk_at "di") (by assumption) ?_ | refine d_in_no (by assumption) (by walk_at "di") (by assumption) ?_ | refine halt ?_)
  k_with "compareOp NotIn str ref" => (first | refine l_nin_yes (by assumption) (by k_mem) (by assumption) (by assumption) ?_ | refine l_nin_no (by assumption) (by k_mem) (by assumption) (by assumption) ?_ | refine d_notIn_yes (by assumption) (by walk_at "di") (by assumption) ?_ | refine d_notIn_no (by assumption) (by walk_at "di") (by assumption) ?_ | refine halt ?_)
  k_with "loadName" => (((with_reducible show wpAny _ _ (loadName (envOf _ _ _ _ _) _) _ _ _); (with_reducible refine ldn (by assumption) (by walk_at "lk") ?_ (by kernel_rfl!) (by kernel_rfl!))))
  k_with "exec For Name Name cons nil" => (((with_reducible show wpAny _ _ (exec (Stmt.For _ _ _ _ _) _) _ _ _); refine wpAny_For ?_ (by intro _; rfl)))
  k_with "exec For Name Call cons nil" => (((with_reducible show wpAny _ _ (exec (Stmt.For _ _ _ _ _) _) _ _ _); refine wpAny_For ?_ (by intro _; rfl)))
  k_with "exec For Tuple Name cons nil" => (((with_reducible show wpAny _ _ (exec (Stmt.For _ _ _ _ _) _) _ _ _); refine wpAny_For ?_ (by intro _; rfl)))
  k_with "exec For Name Name cons cons" => (((with_reducible show wpAny _ _ (exec (Stmt.For _ _ _ _ _) _) _ _ _); refine wpAny_For ?_ (by intro _; rfl)))
  k_with "exec For Tuple Name cons cons" => (((with_reducible show wpAny _ _ (exec (Stmt.For _ _ _ _ _) _) _ _ _); refine wpAny_For ?_ (by intro _; rfl)))
  trivial
theorem law_steps_ok (w : World) {d : Addr} {tab : Tab} {y : Str} {t : Tok} (hsz : tab.length ≤ 900) :
    Spec w 2 182 [.str y t, .ref d] (fun led => StrD w led d tab) (fun led v led' => led' = led ∧ ∃ tk, v = .int (stepsN (lk tab) (tab.length + 1) y : Nat) tk) := by
  intro p loose mean mg mb A A₀ env outer base b L m s led R hh hA hf hke hd hu B F X N ND T hpre hret
  obtain ⟨kvs, D1, hk⟩ := hpre
  have hlen := StrD.len hk
  have hsz1 : ((kvs.length : Nat) : Int) < 2 ^ 63 := by omega
  walk_at "enter"
  k_steps
  unfold Halt
  rename_i g L' h' FG B' X' T' _ F' N'
  refine while_led (k := tab.length + 1) (fun k m₁ led₁ => ∃ z tz, ∃ f : Nat, ∃ tf, m₁ (Str.ofString "name") = some (.str z tz) ∧ m₁ (Str.ofString "table") = some (.ref d) ∧ m₁ (Str.ofString "far") = some (.int f tf) ∧ led₁ = led ∧ f + k = tab.length + 1 ∧ f + stepsN (lk tab) k z = stepsN (lk tab) (tab.length + 1) y) F' N' ND ⟨y, t, 0, _, by rfl, by rfl, by rfl, rfl, by exact oq48, by simp⟩ ?_
  rintro k m₁ led₁ h1 tk1 p1x0 ND1 F1 N1
  refine fresh_while fun G1 hG1 => ?_
  obtain ⟨z, tz, f, tf, e1, e2, e3, rfl, hfk, hst⟩ := p1x0
  have hl2 : (kvs.length : Int) = tab.length := by exact oq49 hlen
  refine hG1 fun Q1 R1 hQ1 hR1 => ?_
  clear hG1 G1
  rcases StrD.at hk z with ⟨hz1, hz2⟩ | ⟨z', tz', hz1, hz2⟩
  · have hres : stepsN (lk tab) k z = 0 := by cases k <;> simp [stepsN, hz1]
    k_steps
    rename_i kF kN _ _
    exact hret _ _ _ led₁ kF kN ND ⟨rfl, _, by rw [← hst, hres]; rfl⟩
  · cases k with
    | zero =>
      have hcmp : ¬ ((f : Int) ≤ (kvs.length : Nat)) := by exact oq50 hlen hfk
      k_steps
      rename_i kF kN _ _
      exact hret _ _ _ led₁ kF kN ND ⟨rfl, _, by rw [← hst]; rfl⟩
    | succ k =>
      have hcmp : (f : Int) ≤ (kvs.length : Nat) := by exact oq51 hlen hfk
      k_steps
      show WhileEnd _ _ _ _ _ _
      rename_i F2 N2
      have h1 : stepsN (lk tab) (k + 1) z = stepsN (lk tab) k z' + 1 := by simp [stepsN, hz1]
      refine ⟨_, _, _, _, k, rfl, Nat.lt_succ_self _, F2, N2, ND1, z', tz', f + 1, _, by rfl, ite_ne (by decide) (ite_ne (by decide) e2), by rfl, rfl, by exact oq52 hlen hfk, by exact oq53 hst h1⟩


theorem rst_LNamed : True := by
  w_top off
  trivial
theorem law_named_ok (w : World) {e : Addr} {ps : List (Str × Str)} (hsz : ps.length ≤ 900) :
    Spec w 2 175 [.ref e] (fun led => PairsL led e ps) (fun led v led' => ∃ r, v = .ref r ∧ StrL led' r (namedOf ps) ∧ (∀ q ∈ led, q ∈ led') ∧ ∀ q ∈ led, q.1 ≠ r) := by
  intro p loose mean mg mb A A₀ env outer base b L m s led R hh hA hf hke hd hu B F X N ND T hpre hret
  obtain ⟨vs, n, M, hps⟩ := hpre
  walk_at "enter"
  k_steps
  unfold Halt
  rename_i g L' h' FG B' X' T' Nd h2 l1 h3 F' N'
  refine for_src (src_list hh F' N' (by k_mem)) (ND.cons l1) (by intro q hq; rw [List.mem_singleton.mp hq]; k_mem) (fun i m₁ led₁ => m₁ (Str.ofString "named") = some (.ref Nd) ∧ StrL led₁ Nd (namedOf (ps.take i)) ∧ (namedOf (ps.take i)).length ≤ 2 * i ∧ ∀ q ∈ led, q ∈ led₁) ⟨by rfl, ⟨[], 0, .head _, .nil⟩, by simp [namedOf], fun q hq => .tail _ hq⟩ ?_ ?_
  · rintro i v m₁ led₁ h tk I oI ic hi hv p1x0 hcI hic NDs hfx Fs Ns
    refine fresh_turn fun G1 hG1 => ?_
    obtain ⟨e1, ⟨us, un, MU, hus⟩, hul, hsub⟩ := p1x0
    obtain ⟨q, hq, T0, t1, t2, rfl, MT⟩ := hps.get (by simpa using hv)
    have MT1 := hsub _ MT
    have hi' : i < ps.length := by simp at hi; rw [← hps.1]; exact hi
    refine hG1 fun Q1 hQ1 => ?_
    clear hG1 G1
    k_steps
    unfold Halt
    rename_i F1 N1
    refine for_src (src_tuple hh F1 N1 (by k_mem)) NDs (by intro q hq; rw [List.mem_singleton.mp hq]; k_mem) (fun j m₂ led₂ => m₂ (Str.ofString "named") = some (.ref Nd) ∧ StrL led₂ Nd (([q.1, q.2].take j).foldl ins (namedOf (ps.take i))) ∧ (([q.1, q.2].take j).foldl ins (namedOf (ps.take i))).length ≤ 2 * i + j ∧ (∀ q ∈ led, q ∈ led₂) ∧ (I, oI) ∈ led₂) ⟨ite_ne (by decide) e1, ⟨us, un, .tail _ MU, hus⟩, by simpa using hul, fun q hq => .tail _ (hsub q hq), .head _⟩ ?_ ?_
    · rintro j v m₂ led₂ h4 tk4 I2 oI2 ic2 hj hv2 p2x0 hcI2 hic2 ND2 hfx2 F2 N2
      refine fresh_turn fun G2 hG2 => ?_
      obtain ⟨e1, ⟨us2, un2, MU2, hus2⟩, hul2, hsub2, hI2⟩ := p2x0
      obtain ⟨y, ty, rfl, hy⟩ : ∃ y ty, v = .str y ty ∧ [q.1, q.2][j]? = some y := by
        rcases j with _ | _ | j
        · simp at hv2; exact ⟨_, _, hv2.symm, rfl⟩
        · simp at hv2; exact ⟨_, _, hv2.symm, rfl⟩
        · simp at hv2
      have hacc : ([q.1, q.2].take (j + 1)).foldl ins (namedOf (ps.take i)) = ins (([q.1, q.2].take j).foldl ins (namedOf (ps.take i))) y := by rw [List.take_add_one, hy, List.foldl_append]; rfl
      have hjl : j < 2 := hj
      have hul3 := ins_len (([q.1, q.2].take j).foldl ins (namedOf (ps.take i))) y
      have hsz2 : us2.toArray.size ≤ sizeLine := by rw [sizeLine_eq, List.size_toArray, hus2.length]; exact oq54 hsz hi' hul2 hjl
      have hNI : I2 ≠ Nd := (ND2.head _ MU2).symm
      have hne1 : ∀ q ∈ led, q.1 ≠ Nd := fun q hq => Nat.ne_of_lt (l1 q hq)
      have hII : I ≠ I2 := ND2.head _ hI2
      have hIN : I ≠ Nd := ND2.tail.neC hI2 MU2 (by rw [hcI]; simpa using hic.1)
      generalize ([q.1, q.2].take j).foldl ins (namedOf (ps.take i)) = acc at *
      refine hG2 fun Q2 hQ2 => ?_
      clear hG2 G2
      by_cases hin : y ∈ acc
      · k_steps
        show LoopEnd _ _ _ _ _ _ _ _
        rename_i F3 N3
        refine ⟨_, _, _, _, rfl, F3, N3, ND2, .head _, fun q hq => .tail _ (hfx2 q hq), fun led' kk => ⟨ite_ne (by decide) e1, ?_⟩⟩
        rw [hacc, show ins acc y = acc from if_pos hin]
        exact ⟨⟨us2, un2, kk _ (.tail _ MU2) hNI.symm, hus2⟩, by exact oq55 hul2, fun q hq => kk _ (.tail _ (hsub2 q hq)) (ND2.head _ (hsub2 q hq)), kk _ (.tail _ hI2) hII⟩
      · k_steps
        show LoopEnd _ _ _ _ _ _ _ _
        rename_i F3 N3
        refine ⟨_, _, _, _, rfl, F3, N3, ND2.upd, mem_upd_ne (.head _) hNI, ?_, fun led' kk => ⟨ite_ne (by decide) e1, ?_⟩⟩
        · intro q hq
          rw [List.mem_singleton.mp hq]
          exact mem_upd_ne (.tail _ (hsub2 _ MT)) (hne1 _ MT)
        · rw [hacc]
          refine ⟨⟨us2 ++ [.str y ty], un2 + 1, kk _ ?_ hNI.symm, ?_⟩, by exact oq56 hul2 hul3, fun q hq => kk _ (mem_upd_ne (.tail _ (hsub2 q hq)) (hne1 q hq)) (ND2.head _ (hsub2 q hq)), kk _ (mem_upd_ne (.tail _ hI2) hIN) hII⟩
          · have := mem_upd_self (o := listOf (us2.toArray.push (.str y ty)) (un2 + 1)) (List.mem_cons_of_mem (I2, oI2) MU2)
            simpa using this
          · rw [show ins acc y = acc ++ [y] from if_neg hin]; exact hus2.push
    · rintro m₂ led₂ h4 tk4 p3x0 ND2 hfx2 F2 N2
      refine fresh_goal fun G3 hG3 => ?_
      obtain ⟨e1, ⟨us2, un2, MU2, hus2⟩, hul2, hsub2, hI2⟩ := p3x0
      refine hG3 ?_
      clear hG3 G3
      k_steps
      show LoopEnd _ _ _ _ _ _ _ _
      refine ⟨_, _, _, _, rfl, F2, N2, ND2, hI2, fun q hq => ?_, fun led' kk => ⟨e1, ?_⟩⟩
      · rw [List.mem_singleton.mp hq]; exact hsub2 _ M
      · rw [namedOf_take hq]
        have hII : ∀ q ∈ led, q.1 ≠ I := fun q hq => NDs.head _ (hsub q hq)
        exact ⟨⟨us2, un2, kk _ MU2 (show Nd ≠ I from NDs.head _ MU), hus2⟩, by simp at hul2 ⊢; exact hul2, fun q hq => kk _ (hsub2 q hq) (hII q hq)⟩
  · rintro m₁ led₁ h tk p4x0 NDs hfx Fs Ns
    refine fresh_goal fun G4 hG4 => ?_
    obtain ⟨e1, ⟨us, un, MU, hus⟩, hul, hsub⟩ := p4x0
    refine hG4 ?_
    clear hG4 G4
    k_steps
    rename_i kF kN _ _
    refine hret _ _ _ led₁ kF kN NDs ⟨Nd, rfl, ⟨us, un, MU, ?_⟩, hsub, fun q hq => Nat.ne_of_lt (l1 q hq)⟩
    rw [List.size_toArray, hps.1, List.take_length] at hus
    exact hus


theorem rst_LRing : True := by
  w_top off
  trivial
local macro_rules | `(tactic| walk_at "subscriptTail Name Slice ref ref") => `(tactic| ((with_reducible show wpAny _ _ (subscriptTail _ (PySem.Expr.Slice none none (some _) _) (Value.ref _) (Value.ref _)) _ _ _); k_dflt (refine' l_rev ?F ?N ?M ?z ?_ ?hs ?ht; (case F => assumption); (case N => assumption); (case M => k_mem); (case z => walk_at "sz"); (case hs => with_unfolding_all rfl); (case ht => kmk_pure); k_whole; intro D' h' F' N' l1')))
set_option maxHeartbeats 4000000 in
theorem law_ring_ok (w : World) {e d : Addr} {names : List Str} {tab : Tab} (hsz : tab.length ≤ 900) :
    Spec w 2 189 [.ref e, .ref d] (fun led => StrL led e names ∧ StrD w led d tab) (fun led v led' => OptL led' v (ringOf (lk tab) (tab.length + 1) names) ∧ (∀ q ∈ led, q ∈ led') ∧ ∀ q ∈ led, ∀ r, v = .ref r → q.1 ≠ r) := by
  intro p loose mean mg mb A A₀ env outer base b L m s led R hh hA hf hke hd hu B F X N ND T hpre hret
  obtain ⟨⟨vs, n, M, hvs⟩, kvs, D1, hk⟩ := hpre
  walk_at "enter"
  k_steps
  unfold Halt
  rename_i g L' h' FG F' N' B' X' T'
  refine for_src (src_list hh F' N' (by k_mem)) ND (by intro q hq; rw [List.mem_singleton.mp hq]; k_mem) (fun i m₁ led₁ => m₁ (Str.ofString "table") = some (.ref d) ∧ (∀ q ∈ led, q ∈ led₁) ∧ ∀ j u, j < i → names[j]? = some u → ringAt (lk tab) (tab.length + 1) u = none) ⟨by rfl, fun q hq => hq, by simp⟩ ?_ ?_
  · rintro i v m₁ led₁ h tk I oI ic hi hv p1x0 hcI hic NDs hfx Fs Ns
    refine fresh_turn fun G1 hG1 => ?_
    obtain ⟨e1, hsub, hno⟩ := p1x0
    obtain ⟨y, ty, hy, rfl⟩ := hvs.get' (by simpa using hv)
    refine hG1 fun Q1 hQ1 => ?_
    clear hG1 G1
    k_steps
    unfold Halt
    rename_i h2 _ Wy h3 lW h4 F1 N1
    have lW' : ∀ q ∈ led₁, q.1 < Wy := fun q hq => allLt_mem lW.2 q hq
    have ND1 : NDL ((Wy, listOf #[.str y ty] 0) :: (I, oI) :: led₁) := NDs.consA ⟨lW.1, lW.2⟩
    have hIW : I ≠ Wy := Nat.ne_of_lt lW.1
    have hnW : ∀ q ∈ led, q.1 ≠ Wy := fun q hq => Nat.ne_of_lt (lW' q (hsub q hq))
    have hnI : ∀ q ∈ led, q.1 ≠ I := fun q hq => NDs.head q (hsub q hq)
    have hkl := StrD.keys hk
    refine while_led (k := tab.length + 1) (fun k m₂ led₂ => m₂ (Str.ofString "table") = some (.ref d) ∧ m₂ (Str.ofString "name") = some (.str y ty) ∧ m₂ (Str.ofString "way") = some (.ref Wy) ∧
      ∃ pre x us tx un, (Wy, listOf (us ++ [.str x tx]).toArray un) ∈ led₂ ∧ StrsAre us pre ∧ k + (pre.length + 1) = tab.length + 2 ∧ (pre ++ [x]).Nodup ∧ (∀ u ∈ pre, u ∈ tab.map (·.1)) ∧ wayF (lk tab) k (pre ++ [x]) = wayF (lk tab) (tab.length + 1) [y] ∧ (∀ q ∈ led, q ∈ led₂) ∧ (I, oI) ∈ led₂)
      F1 N1 ND1 ⟨by exact ite_ne (by decide) (ite_ne (by decide) e1), by rfl, by rfl, [], y, [], ty, 0, .head _, .nil, rfl, by simp, by simp, rfl, fun q hq => .tail _ (.tail _ (hsub q hq)), .tail _ (.head _)⟩ ?_
    rintro k m₂ led₂ h5 tk5 p2x0 ND2 F2 N2
    refine fresh_while fun G2 hG2 => ?_
    obtain ⟨e1, e2, e3, pre, x, us, tx, un, MW, hus, hkp, hnd, hpk, hway, hsub2, hI2⟩ := p2x0
    have hus2 : StrsAre (us ++ [.str x tx]) (pre ++ [x]) := hus.push
    have D2 : DictIn w led₂ d kvs := D1.sub hsub2
    have hul := hus.length
    have hpl : pre.length ≤ tab.length + 1 := by exact oq57 hkp
    have hs1 : us.length < 2 ^ 62 := by omega
    have hs2 : (us ++ [Value.str x tx]).toArray.size ≤ sizeLine := by rw [sizeLine_eq]; simp; exact oq58 hsz hkp hul hpl hs1
    have hs3 : (us ++ [Value.str x tx]).length ≤ sizeLine := by rw [sizeLine_eq]; simp; exact oq58 hsz hkp hul hpl hs1
    have hs4 : [Value.str y ty].length + (us ++ [Value.str x tx]).reverse.length ≤ sizeLine := by rw [sizeLine_eq]; simp; exact oq59 hsz hkp hul hpl hs1
    have hfin : ∀ m₃ h6 tk6 tkx, m₃ (Str.ofString "table") = some (.ref d) → Fr g L' h6 m₃ → News g L' h6 led₂ → ringAt (lk tab) (tab.length + 1) y = none → LoopEnd g L' { s with heap := h', toks := tkx } I oI [(e, listOf vs.toArray n)] (fun m₁ led₁ => m₁ (Str.ofString "table") = some (.ref d) ∧ (∀ q ∈ led, q ∈ led₁) ∧ ∀ j u, j < i + 1 → names[j]? = some u → ringAt (lk tab) (tab.length + 1) u = none) { s with heap := h6, toks := tk6 } := by
      intro m₃ h6 tk6 tkx e1' F6 N6 hr
      refine ⟨_, _, _, _, rfl, F6, N6, ND2, hI2, fun q hq => by rw [List.mem_singleton.mp hq]; exact hsub2 _ M, fun led' kk => ⟨e1', fun q hq => kk q (hsub2 q hq) (hnI q hq), fun j u hj hu => ?_⟩⟩
      by_cases e : j = i
      · subst e; rw [hy] at hu; cases hu; exact hr
      · exact hno j u (by exact oq39 hj e) hu
    refine hG2 fun Q2 R2 hQ2 hR2 => ?_
    clear hG2 G2
    rcases StrD.at hk x with ⟨hz1, hz2⟩ | ⟨z, tz, hz1, hz2⟩
    · rw [wayF_none hz1] at hway
      k_steps
      exact hfin _ _ _ _ e1 F2 N2 (ringAt_no hway.symm (by rw [hz1]; simp))
    · by_cases hzin : z ∈ pre ++ [x]
      · rw [wayF_in hz1 hzin] at hway
        by_cases hzy : z = y
        · subst hzy
          k_steps
          · rename_i _ l0 _ _ _ ll0 D1' _ _ _ ll1 D2' h8 F8 N8 ll2
            show LeaveK _ _ _ _ _ _ _
            k_steps
            rename_i kF kN _ _
            refine hret _ _ _ _ kF kN (((ND2.cons ll0).cons ll1).cons ll2) ⟨?_, fun q hq => .tail _ (.tail _ (.tail _ (hsub2 q hq))), fun q hq r hr => by cases hr; exact Nat.ne_of_lt (ll2 q (.tail _ (.tail _ (hsub2 q hq))))⟩
            rw [ringOf_some hy hno (ringAt_yes hway.symm hz1)]
            exact ⟨D2', rfl, _, 0, .head _, (StrsAre.cons rfl .nil).append hus2.reverse⟩
          · rename_i a
            simp at a
        · k_steps
          · rename ((z == y) = true) => a
            exact absurd (by simpa using a) hzy
          · exact hfin _ _ _ _ e1 F2 N2 (ringAt_no hway.symm (by rw [hz1]; simpa using hzy))
      · cases k with
        | zero =>
          exfalso
          have h1 := nodup_len (c := tab.map (·.1)) hnd fun u hu => by
            rcases List.mem_append.mp hu with hu | hu
            · exact hpk u hu
            · rw [List.mem_singleton.mp hu]; exact lk_mem hz1
          simp at h1; exact oq60 hkp h1
        | succ k =>
          rw [wayF_next hz1 hzin] at hway
          k_steps
          show WhileEnd _ _ _ _ _ _
          rename_i F6 N6
          refine ⟨_, _, _, _, k, rfl, Nat.lt_succ_self _, F6, N6, ND2.upd, e1, e2, e3, pre ++ [x], z, us ++ [.str x tx], tz, un + 1, ?_, hus2, by simp; exact oq61 hkp, ?_, ?_, hway, fun q hq => mem_upd_ne (hsub2 q hq) (hnW q hq), mem_upd_ne hI2 hIW⟩
          · have := mem_upd_self (o := listOf ((us ++ [Value.str x tx]).toArray.push (.str z tz)) (un + 1)) MW
            simpa using this
          · rw [List.nodup_append]
            exact ⟨hnd, by simp, fun a ha b hb e => by simp at hb; subst hb; subst e; exact hzin ha⟩
          · intro u hu
            rcases List.mem_append.mp hu with hu | hu
            · exact hpk u hu
            · rw [List.mem_singleton.mp hu]; exact lk_mem hz1
  · rintro m₁ led₁ h tk p3x0 NDs hfx Fs Ns
    refine fresh_goal fun G3 hG3 => ?_
    obtain ⟨e1, hsub, hno⟩ := p3x0
    refine hG3 ?_
    clear hG3 G3
    k_steps
    rename_i kF kN _ _
    rw [List.size_toArray, hvs.length] at hno
    refine hret _ _ _ led₁ kF kN NDs ⟨?_, hsub, fun q hq r hr => by cases hr⟩
    rw [ringOf_none fun u hu => by obtain ⟨j, hj⟩ := List.getElem?_of_mem hu; exact hno j u (List.getElem?_eq_some_iff.mp hj).1 hj]
    rfl


theorem rst_LWritten : True := by
  w_top off
  trivial
local macro_rules | `(tactic| walk_at "pyIter str") => `(tactic| refine halt ?_)
local macro_rules | `(tactic| walk_at "eval ListComp") => `(tactic| k_dflt (refine' comp_eval ?hclos ?hk ?hn ?_ ?hs; (case hclos => with_unfolding_all rfl); (case hk => rfl); (case hn => decide); (case hs => intro _; rfl); k_whole))
theorem lines_14 : True := by
  k_with "binaryOp Add str str" => (((refine PyProof.Rows.add_str ?_ (by walk_at "ssz")); intro _ _))
  k_with "ssz" => (first | assumption | (rw [sizeLine_eq]; omega))
  k_with "call builtin:str.join" => ((refine l_join (by assumption) (by k_mem) (by assumption) (by first | assumption | omega) ?_; intro _ _))
  trivial
local macro_rules | `(tactic| walk_at "assign Tuple") => `(tactic| ((with_reducible show wpAny _ _ (assign (Expr.Tuple _ _ _) _ (Value.ref _)) _ _ _); first
  | (k_dflt (refine' kun_list ?k1 ?k2 ?k3 ?k4 ?k5 ?k6 ?_; (case k1 => assumption); (case k2 => assumption); (case k3 => exact isList_of (by assumption) (by k_mem)); (case k4 => assumption); (case k5 => exact rfl); (case k6 => exact rfl); k_whole); intro h' F' N')
  | (k_dflt (refine' unpackN_ ?k1 ?k2 ?k3 ?k4 ?k5 ?k6 ?_; (case k1 => assumption); (case k2 => assumption); (case k3 => exact isTup_of (by assumption) (by k_mem)); (case k4 => assumption); (case k5 => exact rfl); (case k6 => exact rfl); k_whole); intro h' F' N')))
theorem lines_15 : True := by
  k_with "eval Name" => (((with_reducible show wpAny _ _ (eval (Expr.Name _ _) (compEnvC _ _ _ _)) _ _ _); first
     | (with_reducible refine cn_L (by assumption) (by k_mem) (by assumption) (by walk_at "lk") ?_ (by kernel_rfl!) (by kernel_rfl!) (by decide +kernel))
     | refine halt ?_))
  k_with "storeName" => (((with_reducible show wpAny _ _ (storeName (compEnvC _ _ _ _) _ _) _ _ _); (refine cst_L (by assumption) (by assumption) (by k_mem) (by assumption) ?_ (by rfl) (by kernel_rfl!)); intro _ _ _ _ _))
  trivial
local macro_rules | `(tactic| walk_at "call builtin:str.replace") => `(tactic| ((refine rep1 (by refine Nat.pos_iff_ne_zero.mp ?_; (try dsimp only); omega) (by refine Nat.pos_iff_ne_zero.mp ?_; (try dsimp only); omega) (by refine Nat.ne_of_lt ?_; (try dsimp only); omega) (by decide) (by walk_at "rsz") ?_); intro t' k' hk'; (try dsimp only at hk')))
theorem lines_16 : True := by
  k_with "rsz" => (first | (simp only [show (Str.ofString "\\\\").length = 2 from by decide +kernel, show (Str.ofString "\\\"").length = 2 from by decide +kernel]; omega))
  trivial
theorem law_written_ok (w : World) {x : Str} {t td : Tok} {dr : Nat} (hdr : dr = 0 ∨ dr = 1 ∨ dr = 2) (hx : x ∈ nms) :
    Spec w 2 163 [.str x t, .int dr td] (fun led => True) (fun led v led' => (∃ tk, v = .str (wr x dr) tk) ∧ ∀ q ∈ led, q ∈ led') := by
  intro p loose mean mg mb A A₀ env outer base b L m s led R hh hA hf hke hd hu B F X N ND T hpre hret
  obtain ⟨n1, n2, n3, n4, n5, n6, n7, n8, n9, n10⟩ := nms_len x hx
  have hq1 : (Str.ofString "\"").length = 1 := by decide +kernel
  have hq2 : (Str.ofString "\\").length = 1 := by decide +kernel
  have hq3 : ∀ c : Nat, ((⟨#[c]⟩ : Str)).length = 1 := fun c => rfl
  rcases hdr with rfl | rfl | rfl
  · by_cases hxe : x = Str.ofString ""
    · have hne : (x != Str.ofString "") = false := by simpa using hxe
      have hw : wr x 0 = Str.ofString "\"" ++ Txt.replace (Txt.replace x (Str.ofString "\\") (Str.ofString "\\\\")) (Str.ofString "\"") (Str.ofString "\\\"") ++ Str.ofString "\"" := by
        unfold wr; rw [if_neg (by simp [hxe]), if_neg (by decide)]
      walk_at "enter"
      k_steps
      rename_i kF kN _ _
      exact hret _ _ _ led kF kN ND ⟨⟨_, by rw [hw]⟩, fun q hq => hq⟩
    · have hne : (x != Str.ofString "") = true := by simpa using hxe
      have hw : wr x 0 = x := by unfold wr; rw [if_pos ⟨rfl, hxe⟩]
      walk_at "enter"
      k_steps
      rename_i kF kN _ _
      exact hret _ _ _ led kF kN ND ⟨⟨_, by rw [hw]⟩, fun q hq => hq⟩
  · walk_at "enter"
    k_steps
    unfold Halt
    rename_i g L' h' FG F' N' B' X' T' _ _
    refine comp_src (src_str hh F' N') ND (by simp) (by decide) rfl (by rw [sizeLine_eq]; show x.length ≤ _; exact oq67 n1) (fun i ys led₁ => StrsAre ys ((dressed x).take i) ∧ ∀ q ∈ led, q ∈ led₁) ⟨by simpa using StrsAre.nil, fun q hq => hq⟩ ?_ ?_
    · rintro i v ys led₁ h tk I oI ic D C oC mC hi p1x0 p1x1 hyl hcI hic hnC ND1 _ F1 N1
      refine fresh_goal fun G1 hG1 => ?_
      obtain ⟨c, u, hc, rfl⟩ := p1x0
      obtain ⟨hys, hsub⟩ := p1x1
      have hq4 := hq3 c
      refine hG1 ?_
      clear hG1 G1
      k_steps
      rename_i h8 oC8 nC8 F8 N8 _ _
      have hIC : I ≠ C := (ND1.head _ (.head _)).symm
      have hDC : D ≠ C := ND1.tail.head _ (.head _)
      refine ⟨_, _, _, oC8, _, rfl, F8, N8, ND1.upd, mem_upd_ne (.head _) hIC, mem_upd_ne (.tail _ (.tail _ (.head _))) hDC, mem_upd_self (.tail _ (.head _)), nC8, by simp, fun led' k => ⟨?_, fun q hq => k q (mem_upd_ne (.tail _ (.tail _ (.tail _ (hsub q hq)))) ?_) ?_ ?_ ?_⟩⟩
      · have hd : (dressed x)[i]? = some (Str.ofString "\\" ++ ⟨#[c]⟩) := by
          unfold dressed
          rw [List.getElem?_map, Array.getElem?_toList, hc]; rfl
        rw [List.take_add_one, hd]
        exact hys.push
      · exact ND1.tail.head _ (.tail _ (hsub q hq))
      · exact ND1.head _ (.tail _ (.tail _ (hsub q hq)))
      · exact ND1.tail.tail.head _ (hsub q hq)
      · exact ND1.tail.head _ (.tail _ (hsub q hq))
    · rintro ys led₁ h tk D p2x0 ND1 _ F1 N1
      refine fresh_goal fun G2 hG2 => ?_
      obtain ⟨hys, hsub⟩ := p2x0
      rw [List.take_of_length_le (by simp [dressed])] at hys
      refine hG2 ?_
      clear hG2 G2
      k_steps
      rename_i kF kN _ _
      refine hret _ _ _ _ kF kN ND1 ⟨⟨_, by unfold wr; rw [if_neg (by simp), if_pos rfl]⟩, fun q hq => .tail _ (hsub q hq)⟩
  · have hw : wr x 2 = Str.ofString "\"" ++ Txt.replace (Txt.replace x (Str.ofString "\\") (Str.ofString "\\\\")) (Str.ofString "\"") (Str.ofString "\\\"") ++ Str.ofString "\"" := by
      unfold wr; rw [if_neg (by simp), if_neg (by decide)]
    walk_at "enter"
    k_steps
    rename_i kF kN _ _
    exact hret _ _ _ led kF kN ND ⟨⟨_, by rw [hw]⟩, fun q hq => hq⟩


theorem rst_LKeqv : True := by
  w_top off
  trivial
theorem lines_17 : True := by
  k_with "call builtin:str.split" => (((refine s_split (by assumption) (by assumption) (by walk_at "ssz") (by decide +kernel) (by decide) (by assumption) ?_); intro _ _ _ _ _ _ _ _))
  k_with "subscriptTail" => (((with_reducible show wpAny _ _ (subscriptTail _ _ (Value.str _ _) (Value.int _ _)) _ _ _); (refine s_item (by decide) (by assumption) ?_ (by with_unfolding_all rfl)); intro _ _))
  trivial
local macro_rules | `(tactic| walk_at "subscriptTail Name Slice str ref") => `(tactic| ((with_reducible show wpAny _ _ (subscriptTail _ (Expr.Slice (some _) (some _) none _) _ _) _ _ _); (with_reducible rename Fr _ _ _ _ => F'); (with_reducible rename News _ _ _ _ => N'); (refine slice_strN_ss (hsz := ?hsz) (s := ⟨_, _, _, _, _⟩) F' N' ?_); (case hsz => walk_at "ssz"); intro h' t' k' F' N'))
noncomputable def tabOf (es : List (Str × Str × Bool)) : Tab := es.foldl (fun tab e => tset tab e.1 e.2.1) []
noncomputable def EntOk (e : Str × Str × Bool) : Prop := e.1 ∈ keys6 ∧ e.2.1 ∈ nms ∧ (e.2.2 = false → e.2.1 ≠ Str.ofString "")
theorem tset_len (tab : Tab) (k v : Str) : (tset tab k v).length ≤ tab.length + 1 := by unfold tset; split <;> simp
theorem keqv_ok (w : World) {a : Addr} {es : List (Str × Str × Bool)} (hes : ∀ e ∈ es, EntOk e) (hsz : es.length ≤ 900) :
    Spec w 2 28 [.ref a] (fun led => StrL led a (es.map fun e => ent e.1 e.2.1 e.2.2)) (fun led v led' => ∃ D, v = .ref D ∧ StrD w led' D (tabOf es) ∧ (∀ q ∈ led, q ∈ led') ∧ ∀ q ∈ led, q.1 < D) := by
  intro p loose mean mg mb A A₀ env outer base b L m s led R hh hA hf hke hd hu B F X N ND T hpre hret
  obtain ⟨vs, n, M, hvs⟩ := hpre
  walk_at "enter"
  k_steps
  unfold Halt
  rename_i g L' h' FG B' X' T' D0 _ o0 l0 lo0 hs0 _ _ _ h2 F' N'
  have hc0 := isDict_cls hs0
  refine for_src (src_list hh F' N' (by k_mem)) (ND.cons l0) (by intro q hq; rw [List.mem_singleton.mp hq]; k_mem) (fun i m₁ led₁ => m₁ (Str.ofString "parsed") = some (.ref D0) ∧ StrD w led₁ D0 (tabOf (es.take i)) ∧ (tabOf (es.take i)).length ≤ i ∧ ∀ q ∈ led, q ∈ led₁) ⟨by rfl, ⟨[], ⟨lo0, o0, .head _, hs0⟩, rfl⟩, by simp [tabOf], fun q hq => .tail _ hq⟩ ?_ ?_
  · rintro i v m₁ led₁ h tk I oI ic hi hv p1x0 hcI hic NDs hfx Fs Ns
    refine fresh_turn fun G1 hG1 => ?_
    obtain ⟨e1, ⟨kvs, D1, hk⟩, htl, hsub⟩ := p1x0
    obtain ⟨x, tx, hx, rfl⟩ := hvs.get' (by simpa using hv)
    rw [List.getElem?_map, Option.map_eq_some_iff] at hx
    obtain ⟨⟨k, v, q⟩, he, rfl⟩ := hx
    obtain ⟨hk6, hvn, hq0⟩ := hes _ (List.mem_of_getElem? he)
    simp only at hk6 hvn hq0
    obtain ⟨hz1, hz2, hsp⟩ := ent_split k hk6 v hvn q
    have hi' : i < es.length := by simp at hi; have := hvs.length; simp at this; exact Nat.lt_of_lt_of_eq hi this
    have htab : tabOf (es.take (i + 1)) = tset (tabOf (es.take i)) k v := by unfold tabOf; rw [List.take_add_one, he, List.foldl_append]; rfl
    have hkl := StrD.len hk
    have hkz : kvs.length ≤ sizeLine := by rw [sizeLine_eq]; exact oq69 hsz htl hi' hkl
    have hz3 : (ent k v q).length + 2 ≤ sizeLine := by rw [sizeLine_eq]; exact oq70 hz1
    have hz4 : (rhs v q).length ≤ sizeLine := by rw [sizeLine_eq]; exact oq71 hz2
    have hce : ((⟨#[34]⟩ : Str) == Str.ofString "\"") = true := by decide +kernel
    have hcn : ∀ c, c ≠ 34 → ((⟨#[c]⟩ : Str) == Str.ofString "\"") = false := fun c hc => by
      have : Str.ofString "\"" = ⟨#[34]⟩ := by decide +kernel
      rw [this]; simpa using fun e => hc (by simpa using e)
    have D1' : DictIn w ((I, oI) :: led₁) D0 kvs := D1.cons
    have fin : ∀ m₂ h3 tk3 tkx oD w1 (led₂ : Led), m₂ (Str.ofString "parsed") = some (.ref D0) → Fr g L' h3 m₂ → News g L' h3 (upd led₂ D0 oD) → NDL led₂ → (∀ q ∈ (I, oI) :: led₁, q ∈ led₂) → DictIn w (upd led₂ D0 oD) D0 (stored kvs k (.str v w1)) →
        LoopEnd g L' { s with heap := h2, toks := tkx } I oI [(a, listOf vs.toArray n)] (fun m₁ led₁ => m₁ (Str.ofString "parsed") = some (.ref D0) ∧ StrD w led₁ D0 (tabOf (es.take (i + 1))) ∧ (tabOf (es.take (i + 1))).length ≤ i + 1 ∧ ∀ q ∈ led, q ∈ led₁) { s with heap := h3, toks := tk3 } := by
      intro m₂ h3 tk3 tkx oD w1 led₂ em F3 N3 ND3 hs3 D3
      obtain ⟨_, oD1, MD1, hD1⟩ := id D1
      have hID : I ≠ D0 := (NDs.head _ MD1).symm
      have hlD : ∀ q ∈ led, q.1 ≠ D0 := fun q hq => Nat.ne_of_lt (l0 q hq)
      refine ⟨_, _, _, _, rfl, F3, N3, ND3.upd, mem_upd_ne (hs3 _ (.head _)) hID, fun q hq => ?_, fun led' kk => ⟨em, ⟨_, D3.mono fun o ho => kk _ ho hID.symm, ?_⟩, ?_, fun q hq => kk _ (mem_upd_ne (hs3 _ (.tail _ (hsub q hq))) (hlD q hq)) (NDs.head _ (hsub q hq))⟩⟩
      · rw [List.mem_singleton.mp hq]; exact mem_upd_ne (hs3 _ (.tail _ (hsub _ M))) (hlD _ M)
      · rw [htab]; exact tset_stored hk k v w1
      · rw [htab]; have := tset_len (tabOf (es.take i)) k v; exact oq72 htl hkl this
    refine hG1 fun Q1 hQ1 => ?_
    clear hG1 G1
    cases q with
    | true =>
      obtain ⟨hr0, hr1, hsl⟩ := rhs_q v hvn
      k_steps
      rename (∀ p ∈ (I, oI) :: led₁, p.1 < _) => l9
      rename DictIn w (upd _ D0 _) D0 _ => D10
      rw [hsl] at D10
      rename Fr _ _ _ _ => F9
      rename News _ _ _ _ => N9
      exact fin _ _ _ _ _ _ _ (by walk_at "lk") F9 N9 (NDs.cons l9) (fun q hq => .tail _ hq) D10
    | false =>
      rcases rhs_n v hvn (hq0 rfl) with ⟨c, hr0, hc⟩ | ⟨hr0, c, hr1, hc⟩
      · have hcn' := hcn c hc
        k_steps
        rename (∀ p ∈ (I, oI) :: led₁, p.1 < _) => l9
        rename DictIn w (upd _ D0 _) D0 _ => D10
        rename Fr _ _ _ _ => F9
        rename News _ _ _ _ => N9
        exact fin _ _ _ _ _ _ _ (by walk_at "lk") F9 N9 (NDs.cons l9) (fun q hq => .tail _ hq) D10
      · have hcn' := hcn c hc
        k_steps
        rename (∀ p ∈ (I, oI) :: led₁, p.1 < _) => l9
        rename DictIn w (upd _ D0 _) D0 _ => D10
        rename Fr _ _ _ _ => F9
        rename News _ _ _ _ => N9
        exact fin _ _ _ _ _ _ _ (by walk_at "lk") F9 N9 (NDs.cons l9) (fun q hq => .tail _ hq) D10
  · rintro m₁ led₁ h tk p2x0 NDs hfx Fs Ns
    refine fresh_goal fun G2 hG2 => ?_
    obtain ⟨e1, hD, htl, hsub⟩ := p2x0
    refine hG2 ?_
    clear hG2 G2
    k_steps
    rename_i kF kN _ _
    refine hret _ _ _ led₁ kF kN NDs ⟨D0, rfl, ?_, hsub, fun q hq => l0 q hq⟩
    have e : vs.toArray.size = es.length := by have := hvs.length; simp at this; simpa using this
    rw [e, List.take_length] at hD
    exact hD


theorem rst_LHttp : True := by
  w_top off
  trivial
theorem lines_18 : True := by
  k_with "truthy str" => (((refine KXt.truthy (by assumption) (by first | assumption | omega) ?_); intro _))
  k_with "call builtin:str.strip" => (((refine SC.strip ?_ (by walk_at "ssz")); intro _ _))
  trivial
set_option maxHeartbeats 4000000 in
theorem http_ok (w : World) {x : Str} {t : Tok} (hsz : x.length ≤ 2000) :
    Spec w 2 33 [.str x t] (fun led => True) (fun led v led' => ∃ r, v = .ref r ∧ StrL led' r (httpOf x) ∧ (∀ q ∈ led, q ∈ led')) := by
  intro p loose mean mg mb A A₀ env outer base b L m s led R hh hA hf hke hd hu B F X N ND T hpre hret
  walk_at "enter"
  k_steps
  unfold Halt
  rename_i g L' h' FG B' X' T' _ Rs _ l0 _ _ _ h2 F' N'
  have hq1 : (Str.ofString "").length = 0 := by decide +kernel
  have e92 : Str.ofString "\\" = ⟨#[92]⟩ := by decide +kernel
  have e34 : Str.ofString "\"" = ⟨#[34]⟩ := by decide +kernel
  have e44 : Str.ofString "," = ⟨#[44]⟩ := by decide +kernel
  have yes : ∀ (a : Nat) (y : Str), y = ⟨#[a]⟩ → ((⟨#[a]⟩ : Str) == y) = true := fun a y e => by rw [e]; simp
  have no : ∀ (c a : Nat) (y : Str), y = ⟨#[a]⟩ → c ≠ a → ((⟨#[c]⟩ : Str) == y) = false := fun c a y e hc => by rw [e]; simpa using fun e => hc (by simpa using e)
  refine for_src (src_str hh F' N') (ND.cons l0) (by simp) (fun i m₁ led₁ => m₁ (Str.ofString "res") = some (.ref Rs) ∧ (∃ tp, m₁ (Str.ofString "part") = some (.str (hrun (x.cps.toList.take i)).part tp)) ∧ m₁ (Str.ofString "escape") = some (.bool (hrun (x.cps.toList.take i)).esc) ∧ m₁ (Str.ofString "quote") = some (.bool (hrun (x.cps.toList.take i)).quo) ∧ StrL led₁ Rs (hrun (x.cps.toList.take i)).res ∧ HBound i (hrun (x.cps.toList.take i)) ∧ ∀ q ∈ led, q ∈ led₁)
    ⟨by rfl, ⟨_, by rfl⟩, by rfl, by rfl, ⟨[], 0, .head _, .nil⟩, ⟨Nat.le_of_eq hq1, by simp [hrun, hs0], by simp [hrun, hs0]⟩, fun q hq => .tail _ hq⟩ ?_ ?_
  · rintro i v m₁ led₁ h tk I oI ic hi p1x0 p1x1 hcI hic NDs hfx Fs Ns
    refine fresh_turn fun G1 hG1 => ?_
    obtain ⟨c, u, hc, rfl⟩ := p1x0
    obtain ⟨e1, ⟨tp, e2⟩, e3, e4, ⟨us, un, MU, hus⟩, hb, hsub⟩ := p1x1
    have hst : hrun (x.cps.toList.take (i + 1)) = hstep (hrun (x.cps.toList.take i)) c := hrun_take (by rw [Array.getElem?_toList]; exact hc)
    have hb' := hb.step c
    rw [← hst] at hb'
    have hi' : i < x.length := hi
    generalize hrun (x.cps.toList.take i) = st at *
    have hc1 : ((⟨#[c]⟩ : Str)).length = 1 := rfl
    have hz1 : st.part.length + ((⟨#[c]⟩ : Str)).length ≤ sizeLine := by rw [sizeLine_eq, hc1]; have := hb.1; exact oq73 hsz hi' this
    have hz2 : us.toArray.size ≤ sizeLine := by rw [sizeLine_eq, List.size_toArray, hus.length]; have := hb.2.1; exact oq74 hsz hi' this
    have hIR : I ≠ Rs := (NDs.head _ MU).symm
    have fin : ∀ (m₂ : Str → Option Value) h3 tk3 tkx hx led₂ st' tp', hstep st c = st' → m₂ (Str.ofString "res") = some (.ref Rs) → m₂ (Str.ofString "part") = some (.str st'.part tp') → m₂ (Str.ofString "escape") = some (.bool st'.esc) → m₂ (Str.ofString "quote") = some (.bool st'.quo) → Fr g L' h3 m₂ → News g L' h3 led₂ → NDL led₂ → (I, oI) ∈ led₂ → StrL led₂ Rs st'.res → (∀ q ∈ led, q ∈ led₂) →
        LoopEnd g L' { s with heap := hx, toks := tkx } I oI [] (fun m₁ led₁ => m₁ (Str.ofString "res") = some (.ref Rs) ∧ (∃ tp, m₁ (Str.ofString "part") = some (.str (hrun (x.cps.toList.take (i + 1))).part tp)) ∧ m₁ (Str.ofString "escape") = some (.bool (hrun (x.cps.toList.take (i + 1))).esc) ∧ m₁ (Str.ofString "quote") = some (.bool (hrun (x.cps.toList.take (i + 1))).quo) ∧ StrL led₁ Rs (hrun (x.cps.toList.take (i + 1))).res ∧ HBound (i + 1) (hrun (x.cps.toList.take (i + 1))) ∧ ∀ q ∈ led, q ∈ led₁) { s with heap := h3, toks := tk3 } := by
      rintro m₂ h3 tk3 tkx hx led₂ st' tp' rfl a1 a2 a3 a4 F3 N3 ND3 hI3 p2x0 hs3
      refine fresh_goal fun G2 hG2 => ?_
      obtain ⟨us3, un3, MU3, hus3⟩ := p2x0
      refine hG2 ?_
      clear hG2 G2
      refine ⟨_, _, _, _, rfl, F3, N3, ND3, hI3, by simp, fun led' kk => ?_⟩
      rw [hst]
      exact ⟨a1, ⟨tp', a2⟩, a3, a4, ⟨us3, un3, kk _ MU3 hIR.symm, hus3⟩, by rw [← hst]; exact hb', fun q hq => kk _ (hs3 q hq) (NDs.head _ (hsub q hq))⟩
    have hL1 : StrL ((I, oI) :: led₁) Rs st.res := ⟨us, un, .tail _ MU, hus⟩
    have hs1 : ∀ q ∈ led, q ∈ (I, oI) :: led₁ := fun q hq => .tail _ (hsub q hq)
    refine hG1 fun Q1 hQ1 => ?_
    clear hG1 G1
    cases he : st.esc with
    | true =>
      rw [he] at e3
      have hs : hstep st c = ⟨st.res, st.part ++ sgn c, false, st.quo⟩ := by simp [hstep, he]
      k_steps
      show LoopEnd _ _ _ _ _ _ _ _
      rename Fr _ _ _ _ => F9
      rename News _ _ _ _ => N9
      exact fin _ _ _ _ _ _ _ _ hs (by walk_at "lk") (by walk_at "lk") (by walk_at "lk") (by walk_at "lk") F9 N9 NDs (.head _) hL1 hs1
    | false =>
      rw [he] at e3
      cases hq : st.quo with
      | true =>
        rw [hq] at e4
        by_cases h92 : c = 92
        · subst h92
          have hy := yes 92 _ e92
          have hs : hstep st 92 = ⟨st.res, st.part, true, true⟩ := by simp [hstep, he, hq]
          k_steps
          show LoopEnd _ _ _ _ _ _ _ _
          rename Fr _ _ _ _ => F9
          rename News _ _ _ _ => N9
          exact fin _ _ _ _ _ _ _ _ hs (by walk_at "lk") (by walk_at "lk") (by walk_at "lk") (by walk_at "lk") F9 N9 NDs (.head _) hL1 hs1
        · have hn := no c 92 _ e92 h92
          by_cases h34 : c = 34
          · subst h34
            have hy := yes 34 _ e34
            have hs : hstep st 34 = ⟨st.res, st.part ++ sgn 34, false, false⟩ := by simp [hstep, he, hq]
            k_steps
            show LoopEnd _ _ _ _ _ _ _ _
            rename Fr _ _ _ _ => F9
            rename News _ _ _ _ => N9
            exact fin _ _ _ _ _ _ _ _ hs (by walk_at "lk") (by walk_at "lk") (by walk_at "lk") (by walk_at "lk") F9 N9 NDs (.head _) hL1 hs1
          · have hn2 := no c 34 _ e34 h34
            have hs : hstep st c = ⟨st.res, st.part ++ sgn c, false, true⟩ := by simp [hstep, he, hq, h92, h34]
            k_steps
            show LoopEnd _ _ _ _ _ _ _ _
            rename Fr _ _ _ _ => F9
            rename News _ _ _ _ => N9
            exact fin _ _ _ _ _ _ _ _ hs (by walk_at "lk") (by walk_at "lk") (by walk_at "lk") (by walk_at "lk") F9 N9 NDs (.head _) hL1 hs1
      | false =>
        rw [hq] at e4
        by_cases h44 : c = 44
        · subst h44
          have hy := yes 44 _ e44
          have hs : hstep st 44 = ⟨st.res ++ [st.part], Str.ofString "", false, false⟩ := by simp [hstep, he, hq]
          k_steps
          show LoopEnd _ _ _ _ _ _ _ _
          rename Fr _ _ _ _ => F9
          rename News _ _ _ _ => N9
          refine fin _ _ _ _ _ _ _ _ hs (by walk_at "lk") (by walk_at "lk") (by walk_at "lk") (by walk_at "lk") F9 N9 NDs.upd (mem_upd_ne (.head _) hIR) ⟨us ++ [.str st.part tp], un + 1, ?_, hus.push⟩ fun q hq => mem_upd_ne (hs1 q hq) (Nat.ne_of_lt (l0 q hq))
          have := mem_upd_self (o := listOf (us.toArray.push (.str st.part tp)) (un + 1)) (List.mem_cons_of_mem (I, oI) MU)
          simpa using this
        · have hn := no c 44 _ e44 h44
          by_cases h34 : c = 34
          · subst h34
            have hy := yes 34 _ e34
            have hs : hstep st 34 = ⟨st.res, st.part ++ sgn 34, false, true⟩ := by simp [hstep, he, hq]
            k_steps
            show LoopEnd _ _ _ _ _ _ _ _
            rename Fr _ _ _ _ => F9
            rename News _ _ _ _ => N9
            exact fin _ _ _ _ _ _ _ _ hs (by walk_at "lk") (by walk_at "lk") (by walk_at "lk") (by walk_at "lk") F9 N9 NDs (.head _) hL1 hs1
          · have hn2 := no c 34 _ e34 h34
            have hs : hstep st c = ⟨st.res, st.part ++ sgn c, false, false⟩ := by simp [hstep, he, hq, h44, h34]
            k_steps
            show LoopEnd _ _ _ _ _ _ _ _
            rename Fr _ _ _ _ => F9
            rename News _ _ _ _ => N9
            exact fin _ _ _ _ _ _ _ _ hs (by walk_at "lk") (by walk_at "lk") (by walk_at "lk") (by walk_at "lk") F9 N9 NDs (.head _) hL1 hs1
  · rintro m₁ led₁ h tk p3x0 NDs _ Fs Ns
    refine fresh_goal fun G3 hG3 => ?_
    obtain ⟨e1, ⟨tp, e2⟩, e3, e4, ⟨us, un, MU, hus⟩, hb, hsub⟩ := p3x0
    rw [show x.cps.size = x.cps.toList.length from by simp, List.take_length] at e2 hus hb
    have hh' : httpOf x = (httpRes (hrun x.cps.toList)).map Txt.strip := rfl
    generalize hrun x.cps.toList = st at *
    have hz2 : us.toArray.size ≤ sizeLine := by rw [sizeLine_eq, List.size_toArray, hus.length]; have := hb.2.1; simp at this; have h3 : x.cps.size = x.length := rfl; exact oq75 hsz this h3
    have hb1 := hb.1
    have hxl : x.cps.toList.length = x.length := by simp; rfl
    have hpz : st.part.length ≤ 16777216 := by exact oq75 hsz hb1 hxl
    have hrl : ∀ r ∈ httpRes st, r.length ≤ 2000 := fun r hr => by
      unfold httpRes at hr
      split at hr
      · have := hb.2.2 r hr; exact oq76 hsz hxl this
      · rcases List.mem_append.mp hr with hr | hr
        · have := hb.2.2 r hr; exact oq76 hsz hxl this
        · rw [List.mem_singleton.mp hr]; exact oq77 hsz hb1 hxl hpz
    have hrn : (httpRes st).length ≤ 3000 := by unfold httpRes; have := hb.2.1; split <;> simp <;> (first | exact oq78 hsz hxl this | exact oq79 hsz hxl this)
    refine hG3 ?_
    clear hG3 G3
    by_cases hp : st.part = Str.ofString ""
    case' pos =>
      have hpl : ((st.part.length : Int) != 0) = false := by rw [hp, hq1]; rfl
      have hre : httpRes st = st.res := by unfold httpRes; rw [if_pos hp]
      k_steps
      have ST : ∃ us2 un2 led2, News g L' h led2 ∧ (Rs, listOf us2.toArray un2) ∈ led2 ∧ StrsAre us2 (httpRes st) ∧ (∀ q ∈ led, q ∈ led2) ∧ NDL led2 := ⟨us, un, led₁, Ns, MU, by rw [hre]; exact hus, hsub, NDs⟩
    case' neg =>
      have hpl : ((st.part.length : Int) != 0) = true := by
        have h0 : st.part.length ≠ 0 := fun e => hp (by
          have e2 : st.part.cps = #[] := Array.eq_empty_of_size_eq_zero e
          have : Str.ofString "" = ⟨#[]⟩ := by decide +kernel
          rw [this]; cases hst : st.part; rw [hst] at e2; simp only at e2; rw [e2])
        exact bne_iff_ne.mpr (by exact oq80 h0)
      have hre : httpRes st = st.res ++ [st.part] := by unfold httpRes; rw [if_neg hp]
      k_steps
      rename News _ _ _ (upd _ _ _) => N9
      have ST : ∃ us2 un2 led2, News g L' _ led2 ∧ (Rs, listOf us2.toArray un2) ∈ led2 ∧ StrsAre us2 (httpRes st) ∧ (∀ q ∈ led, q ∈ led2) ∧ NDL led2 := ⟨us ++ [.str st.part tp], un + 1, _, N9, by
        have := mem_upd_self (o := listOf (us.toArray.push (.str st.part tp)) (un + 1)) MU
        simpa using this, by rw [hre]; exact hus.push, fun q hq => mem_upd_ne (hsub q hq) (Nat.ne_of_lt (l0 q hq)), NDs.upd⟩
    all_goals
      obtain ⟨us2, un2, led2, N2, MU2, hus2, hsub2, ND2⟩ := ST
      refine comp_src (src_list hh (by assumption) N2 MU2) ND2 (by intro q hq; rw [List.mem_singleton.mp hq]; exact MU2) (by decide) rfl (by rw [sizeLine_eq, List.size_toArray, hus2.length]; exact oq81 hrn) (fun i ys led₁ => StrsAre ys (((httpRes st).map Txt.strip).take i) ∧ ∀ q ∈ led, q ∈ led₁) ⟨by simpa using StrsAre.nil, hsub2⟩ ?_ ?_
      · rintro i v ys led₁ h tk I oI ic D C oC mC hi hv p4x0 hyl hcI hic hnC ND1 hfx9 F1 N1
        refine fresh_goal fun G4 hG4 => ?_
        obtain ⟨hys, hsub⟩ := p4x0
        obtain ⟨r, tr, hr, rfl⟩ := hus2.get' (by simpa using hv)
        have hz : r.length ≤ sizeLine := by rw [sizeLine_eq]; have := hrl r (List.mem_of_getElem? hr); exact oq82 this
        refine hG4 ?_
        clear hG4 G4
        k_steps
        rename_i h8 oC8 nC8 F8 N8 _ _ _
        have hIC : I ≠ C := (ND1.head _ (.head _)).symm
        have hDC : D ≠ C := ND1.tail.head _ (.head _)
        refine ⟨_, _, _, oC8, _, rfl, F8, N8, ND1.upd, mem_upd_ne (.head _) hIC, mem_upd_ne (.tail _ (.tail _ (.head _))) hDC, mem_upd_self (.tail _ (.head _)), nC8, fun q hq => ?_, fun led' k => ⟨?_, fun q hq => k q (mem_upd_ne (.tail _ (.tail _ (.tail _ (hsub q hq)))) ?_) ?_ ?_ ?_⟩⟩
        · rw [List.mem_singleton.mp hq]
          exact mem_upd_ne (.tail _ (.tail _ (.tail _ (hfx9 _ (.head _))))) (ND1.tail.head _ (.tail _ (hfx9 _ (.head _))))
        · rw [List.take_add_one, List.getElem?_map, hr]
          exact hys.push
        · exact ND1.tail.head _ (.tail _ (hsub q hq))
        · exact ND1.head _ (.tail _ (.tail _ (hsub q hq)))
        · exact ND1.tail.tail.head _ (hsub q hq)
        · exact ND1.tail.head _ (.tail _ (hsub q hq))
      · rintro ys led₁ h tk D p5x0 ND1 _ F1 N1
        refine fresh_goal fun G5 hG5 => ?_
        obtain ⟨hys, hsub⟩ := p5x0
        rw [List.take_of_length_le (by rw [List.length_map, List.size_toArray, hus2.length]; exact Nat.le_refl _)] at hys
        refine hG5 ?_
        clear hG5 G5
        k_steps
        rename_i kF kN _ _
        exact hret _ _ _ _ kF kN ND1 ⟨D, rfl, ⟨ys, _, .head _, by rw [hh']; exact hys⟩, fun q hq => .tail _ (hsub q hq)⟩


theorem rst_LCell : True := by
  w_top off
  trivial
theorem cx_D {M : Model} {A : Around} {E : Value → Shared → Prop} {s : Shared} {b : Heap} {L c : Addr} {led : Led} {env : Env} {x : Str} {pos : Pos} {v : Value} {o : Obj} {Q : Value → Shared → Prop} (hc : env.cells.lookup x = some c) (N : News b L s.heap led) (ho : o.data = .cell (some v)) (hm : (c, o) ∈ led) (h : Q v s)
    (hk : env.scope.kind = .function) (hx : env.kindOf x = some .cell) (hd : (x == ("__debug__" : Str)) = false) : wpAny M A (eval (.Name x pos) env) Q E s := cname_C N hm ho h hc hk hx hd
noncomputable def TripAt (led : Led) (v : Value) (p : Str × Str × Nat) : Prop := ∃ T t1 t2 t3, v = .ref T ∧ (T, tupOf #[.str p.1 t1, .str p.2.1 t2, .int p.2.2 t3] 0) ∈ led
noncomputable def TripsAre (led : Led) (vs : List Value) (ps : List (Str × Str × Nat)) : Prop := vs.length = ps.length ∧ ∀ (i : Nat) v p, vs[i]? = some v → ps[i]? = some p → TripAt led v p
noncomputable def TripsL (led : Led) (a : Addr) (ps : List (Str × Str × Nat)) : Prop := ∃ vs n, (a, listOf vs.toArray n) ∈ led ∧ TripsAre led vs ps
theorem TripAt.mono {led led' : Led} {v : Value} {p : Str × Str × Nat} (h : TripAt led v p) (k : ∀ q ∈ led, q ∈ led') : TripAt led' v p := let ⟨T, t1, t2, t3, e, m⟩ := h; ⟨T, t1, t2, t3, e, k _ m⟩
theorem TripsAre.mono {led led' : Led} {vs : List Value} {ps : List (Str × Str × Nat)} (h : TripsAre led vs ps) (k : ∀ q ∈ led, q ∈ led') : TripsAre led' vs ps := ⟨h.1, fun i v p a b => (h.2 i v p a b).mono k⟩
theorem TripsL.mono {led led' : Led} {a : Addr} {ps : List (Str × Str × Nat)} (h : TripsL led a ps) (k : ∀ q ∈ led, q ∈ led') : TripsL led' a ps := let ⟨vs, n, m, r⟩ := h; ⟨vs, n, k _ m, r.mono k⟩
theorem TripsAre.get {led : Led} {vs : List Value} {ps : List (Str × Str × Nat)} (h : TripsAre led vs ps) {i : Nat} {v : Value} (hv : vs[i]? = some v) : ∃ p, ps[i]? = some p ∧ TripAt led v p := by
  have hi := (List.getElem?_eq_some_iff.mp hv).1
  rw [h.1] at hi
  have hp : ps[i]? = some (ps[i]'hi) := List.getElem?_eq_getElem hi
  exact ⟨_, hp, h.2 i v _ hv hp⟩
theorem TripsAre.nil {led : Led} : TripsAre led [] [] := ⟨rfl, fun i v p a => by simp at a⟩
theorem TripsAre.snoc {led : Led} {vs : List Value} {ps : List (Str × Str × Nat)} {v : Value} {p : Str × Str × Nat} (h : TripsAre led vs ps) (hp : TripAt led v p) : TripsAre led (vs ++ [v]) (ps ++ [p]) := by
  refine ⟨by simp [h.1], fun i v' p' a b => ?_⟩
  rw [getElem?_snoc] at a b
  rw [← h.1] at b
  split at a
  · rename_i hi
    rw [if_pos hi] at b
    exact h.2 i v' p' a b
  · rename_i hi
    rw [if_neg hi] at b
    split at a
    · rename_i he
      rw [if_pos he] at b
      cases a; cases b; exact hp
    · cases a
noncomputable def iv : Value → Option Int
  | .int i _ => some i
  | _ => none
noncomputable def IntsAre (vs : List Value) (ns : List Int) : Prop := vs.map iv = ns.map some
theorem iv_some {v : Value} {i : Int} (h : iv v = some i) : ∃ t, v = .int i t := by
  cases v <;> simp [iv] at h
  subst h; exact ⟨_, rfl⟩
theorem IntsAre.length {vs : List Value} {ns : List Int} (h : IntsAre vs ns) : vs.length = ns.length := by
  have := congrArg List.length h; simpa using this
theorem IntsAre.get' {vs : List Value} {ns : List Int} (h : IntsAre vs ns) {i : Nat} {v : Value} (hi : vs[i]? = some v) : ∃ k t, ns[i]? = some k ∧ v = .int k t := by
  have := congrArg (fun l => l[i]?) h
  simp only [List.getElem?_map, hi, Option.map_some] at this
  cases hv : ns[i]? with
  | none => rw [hv] at this; cases this
  | some s => rw [hv] at this; obtain ⟨t, e⟩ := iv_some (Option.some.inj this); exact ⟨s, t, rfl, e⟩
noncomputable def nmAt (i : Int) : Str := nms.getD i.toNat (Str.ofString "")
noncomputable def pk (n : Int) : Str × Str × Nat := (nmAt (n.fmod 6), nmAt ((n.fdiv 6).fmod 7), ((n.fdiv 42).fmod 3).toNat)
theorem upd_eq2 {led : Led} {l c : Addr} {oz o o' : Obj} (h : l ≠ c) (h2 : ∀ p ∈ led, p.1 ≠ c) : upd ((l, oz) :: (c, o) :: led) c o' = (l, oz) :: (c, o') :: led := by
  unfold upd
  simp only [List.map_cons, if_neg h, if_true]
  congr 2
  exact (List.map_congr_left fun p hp => by rw [if_neg (h2 p hp)]).trans (List.map_id' _)
theorem cEnd0 {b : Heap} {L I D C : Addr} {m mC : Str → Option Value} {s s₃ : Shared} {oI oC oC8 : Obj} {ys : List Value} {fixed led₁ : Led} {J : Led → Prop} {h' : Heap} {tk' : Nat} (F : Fr b L h' m) (N : News b L h' (upd ((I, oI) :: (C, oC) :: (D, lstO ys) :: led₁) C oC8)) (ND1 : NDL ((I, oI) :: (C, oC) :: (D, lstO ys) :: led₁))
    (hn : NsO oC8 mC) (hf : ∀ p ∈ fixed, p ∈ led₁) (hJ : ∀ led', (∀ q ∈ led₁, q ∈ led') → J led') (hs : s₃ = { s with heap := h', toks := tk' }) : CompEnd b L m s I oI D ys C fixed J s₃ := by
  have hIC : I ≠ C := (ND1.head _ (.head _)).symm
  have hDC : D ≠ C := ND1.tail.head _ (.head _)
  have up : ∀ q ∈ led₁, q ∈ (upd ((I, oI) :: (C, oC) :: (D, lstO ys) :: led₁) C oC8) := fun q hq => mem_upd_ne (.tail _ (.tail _ (.tail _ hq))) (ND1.tail.head _ (.tail _ hq))
  exact ⟨_, _, _, oC8, _, hs, F, N, ND1.upd, (mem_upd_ne (.head _) hIC), (mem_upd_ne (.tail _ (.tail _ (.head _))) hDC), (mem_upd_self (.tail _ (.head _))), hn, fun q hq => (up q (hf q hq)),
    fun led' kk => hJ led' fun q hq => kk q (up q hq) (ND1.head _ (.tail _ (.tail _ hq))) (ND1.tail.tail.head _ hq) (ND1.tail.head _ (.tail _ hq))⟩
theorem cEnd1 {b : Heap} {L I D C D8 : Addr} {m mC : Str → Option Value} {s s₃ : Shared} {oI oC oC8 o8 : Obj} {ys : List Value} {fixed led₁ : Led} {J : Led → Prop} {h' : Heap} {tk' : Nat} (F : Fr b L h' m) (N : News b L h' ((D8, o8) :: upd ((I, oI) :: (C, oC) :: (D, lstO ys) :: led₁) C oC8)) (ND1 : NDL ((I, oI) :: (C, oC) :: (D, lstO ys) :: led₁))
    (l8 : ∀ p ∈ upd ((I, oI) :: (C, oC) :: (D, lstO ys) :: led₁) C oC8, p.1 < D8) (hn : NsO oC8 mC) (hf : ∀ p ∈ fixed, p ∈ led₁) (hJ : ∀ led', (∀ q ∈ (D8, o8) :: led₁, q ∈ led') → J led') (hs : s₃ = { s with heap := h', toks := tk' }) : CompEnd b L m s I oI D ys C fixed J s₃ := by
  have hIC : I ≠ C := (ND1.head _ (.head _)).symm
  have hDC : D ≠ C := ND1.tail.head _ (.head _)
  have hI8 : I < D8 := l8 _ (mem_upd_ne (.head _) hIC)
  have hD8 : D < D8 := l8 _ (mem_upd_ne (.tail _ (.tail _ (.head _))) hDC)
  have hC8 : C < D8 := l8 _ (mem_upd_self (.tail _ (.head _)))
  have up : ∀ q ∈ led₁, q ∈ (upd ((I, oI) :: (C, oC) :: (D, lstO ys) :: led₁) C oC8) := fun q hq => mem_upd_ne (.tail _ (.tail _ (.tail _ hq))) (ND1.tail.head _ (.tail _ hq))
  refine ⟨_, _, _, oC8, _, hs, F, N, ND1.upd.cons l8, .tail _ (mem_upd_ne (.head _) hIC), .tail _ (mem_upd_ne (.tail _ (.tail _ (.head _))) hDC), .tail _ (mem_upd_self (.tail _ (.head _))), hn, fun q hq => .tail _ (up q (hf q hq)), fun led' kk => hJ led' fun q hq => ?_⟩
  rcases List.mem_cons.mp hq with rfl | hq
  · exact kk _ (.head _) (Nat.ne_of_gt hI8) (Nat.ne_of_gt hD8) (Nat.ne_of_gt hC8)
  · exact kk q (.tail _ (up q hq)) (ND1.head _ (.tail _ (.tail _ hq))) (ND1.tail.tail.head _ hq) (ND1.tail.head _ (.tail _ hq))

theorem rst_CompC : True := by
  w_top off
  trivial
theorem newEnv1 {M : Model} {A : Around} {E : Value → Shared → Prop} {s : Shared} {scope : Scope} {globals : Addr} {cl : List (Str × Addr)} {qual : Str} {env : Env} {x : Str} {Q : Env → Shared → Prop}
    (hone : ∀ n acc, cellsFrom n scope.names acc = (x, n) :: acc) (hpush : ∀ h, pushCells h scope.names = h.push { cls := .type "cell", data := .cell none })
    (h : Q (newEnv scope s.heap.objs.size globals ((x, s.heap.objs.size + 1) :: cl) qual none .none (some env) builtinsNs) { s with heap := (s.heap.push { cls := .type "dict", data := .dict #[] }).push { cls := .type "cell", data := .cell none } }) :
    wpAny M A (newFunctionEnv scope globals cl [] qual none .none (some env)) Q E s := by
  simp only [newFunctionEnv, Option.isSome_some, if_true]
  refine wpAny_bind (wpAny_alloc ?_)
  refine wpAny_bind (wpAny_layCells _ (fun name kind cells => by cases hkc : kind == NameKind.cell <;> simp [hkc]) _ _ _ _ ?_)
  rw [hone, hpush]
  rw [show ({ s with heap := s.heap.push { cls := .type "dict", data := .dict #[] } } : Shared).heap.objs.size = s.heap.objs.size + 1 from Heap.size_push ..]
  rw [List.forIn_nil]
  exact wpAny_bind (wpAny_pure (wpAny_pure h))
section
variable {prog : Program} {w : World} {A : Around} {E : Value → Shared → Prop} {s : Shared} {b : Heap} {L : Addr} {m : Str → Option Value} {led : Led} {R : Result → Shared → Prop}
/-- the end of a comprehension's turn, its frame at C, its cell at c -/
inductive CompEndCI (b : Heap) (L : Addr) (m : Str → Option Value) (gs : Array GenState) (dr : Drawn) (os : OsState) (I : Addr) (oI : Obj) (D : Addr) (ys : List Value) (C c : Addr) (fixed : Led) (J : Led → Prop) (s₃ : Shared) : Prop
  | mk (h' : Heap) (tk' : Tok) (all : Led) (oC : Obj) (mC : Str → Option Value) (oc : Obj) (v : Option Value) (x0 : s₃ = { heap := h', gens := gs, drawn := dr, toks := tk', os := os }) (x1 : Fr b L h' m) (x2 : News b L h' all) (x3 : NDL all) (x4 : (I, oI) ∈ all) (x5 : (D, lstO ys) ∈ all) (x6 : (C, oC) ∈ all) (x7 : NsO oC mC) (x8 : (c, oc) ∈ all) (x9 : oc.data = .cell v) (x10 : (∀ p ∈ fixed, p ∈ all)) (x11 : ∀ led', (∀ p ∈ all, p.1 ≠ I → p.1 ≠ D → p.1 ≠ C → p.1 ≠ c → p ∈ led') → J led') : CompEndCI b L m gs dr os I oI D ys C c fixed J s₃
noncomputable def CompEndC (b : Heap) (L : Addr) (m : Str → Option Value) (s : Shared) (I : Addr) (oI : Obj) (D : Addr) (ys : List Value) (C c : Addr) (fixed : Led) (J : Led → Prop) (s₃ : Shared) : Prop := CompEndCI b L m s.gens s.drawn s.os I oI D ys C c fixed J s₃
theorem CompEndC.mid {I D C c : Addr} {oI : Obj} {ys : List Value} {fixed : Led} {J : Led → Prop} {s₃ : Shared} (h : CompEndC b L m s I oI D ys C c fixed J s₃) : CompMid b L m s I oI D ys [c, C] (fun X => ∃ oC mC oc v, X = [(c, oc), (C, oC)] ∧ NsO oC mC ∧ oc.data = .cell v) fixed J s₃ := by
  obtain ⟨h', tk', all, oC, mC, oc, v, e, F, N, ND, hI, hD, hC, hn, hc, hd, hf, hJ⟩ := h
  refine ⟨h', tk', all, [(c, oc), (C, oC)], e, F, N, ND, hI, hD, ⟨oC, mC, oc, v, rfl, hn, hd⟩, fun p hp => ?_, hf, fun led' k => hJ led' fun p hp h1 h2 h3 h4 => k p hp h1 h2 (by simp; exact ⟨h4, h3⟩)⟩
  simp only [List.mem_cons, List.not_mem_nil, or_false] at hp
  rcases hp with rfl | rfl
  · exact hc
  · exact hC
theorem comp_srcC {env : Env} {elt target iter : Expr} {ifs : List Expr} {scope : Scope} {pos : Pos} {cl : List (Str × Addr)} {v : Value} {fixed : Led} {n : Nat} {PV : Nat → Value → Prop} {Q : Value → Shared → Prop} {x : Str}
    (hsrc : wpAny (model prog w) A (pyIter v) (Src prog w A b L m led fixed n PV s) E s) (ND : NDL led) (hfix : ∀ p ∈ fixed, p ∈ led)
    (hone : ∀ n acc, cellsFrom n scope.names acc = (x, n) :: acc) (hpush : ∀ h, pushCells h scope.names = h.push { cls := .type "cell", data := .cell none }) (hkind : scope.kind = .function) (hsz : n ≤ sizeLine)
    (J : Nat → List Value → Led → Prop) (hJ : J 0 [] led)
    (step : ∀ i v ys led₁ h tk I oI ic D C oC mC c oc vc, i < n → PV i v → J i ys led₁ → ys.length ≤ i → oI.cls = .type ic → (ic ≠ "list" ∧ ic ≠ "dict" ∧ ic ≠ "tuple" ∧ ic ≠ "cell" ∧ ic ≠ "set") → NsO oC mC → oc.data = .cell vc → NDL ((I, oI) :: (c, oc) :: (C, oC) :: (D, lstO ys) :: led₁) → (∀ p ∈ fixed, p ∈ led₁) → Fr b L h m → News b L h ((I, oI) :: (c, oc) :: (C, oC) :: (D, lstO ys) :: led₁) →
      wpAny (model prog w) A (assign target (compEnvC scope ((x, c) :: cl) C env) v) (fun _ s₂ =>
        wpAny (model prog w) A (forIn ifs true fun c' r => if r = true then do let ok ← isTrue c' (compEnvC scope ((x, c) :: cl) C env) (eval c' (compEnvC scope ((x, c) :: cl) C env)); pure (ForInStep.yield ok) else pure (ForInStep.yield r)) (fun ok s₃ =>
          if ok = true then wpAny (model prog w) A (eval elt (compEnvC scope ((x, c) :: cl) C env)) (fun y s₄ => CompEndC b L m s I oI D ys C c fixed (J (i + 1) (ys ++ [y])) s₄) (fun _ _ => False) s₃
          else CompEndC b L m s I oI D ys C c fixed (J (i + 1) ys) s₃) (fun _ _ => False) s₂) (fun _ _ => False) { s with heap := h, toks := tk })
    (done : ∀ ys led₁ h tk D, J n ys led₁ → NDL ((D, lstO ys) :: led₁) → (∀ p ∈ fixed, p ∈ led₁) → Fr b L h m → News b L h ((D, lstO ys) :: led₁) → Q (.ref D) { s with heap := h, toks := tk }) :
    wpAny (model prog w) A (pyIter v) (fun it s₂ => wpAny (model prog w) A (newList []) (fun acc s₃ => wpAny (model prog w) A (newFunctionEnv scope env.globals cl [] env.qual none .none (some env)) (fun cenv s₄ =>
      codeAny (model prog w) A (.compStart (.ListComp elt [⟨target, iter, ifs, 0⟩] scope pos) 0 it acc { cenv with scope := relabel scope env }) (compPost (model prog w) A E none Q acc cenv.locals) s₄) E s₃) E s₂) E s := by
  refine src_of hsrc fun it s₂ hs => ?_
  obtain ⟨I, ic, St, h', rfl, rfl, W, hc, hn1, n1, n2, n3, n4, n5, h0, F', N', hI, hIb, hIL, hIlt⟩ := hs
  refine wpAny_newObj_type (newEnv1 hone hpush ?_)
  dsimp only
  generalize hH2 : h'.push { cls := .type "list", dict := none, data := .seq ([] : List Value).toArray } = H2
  have hC : H2.objs.size = h'.objs.size + 1 := by rw [← hH2, Heap.size_push]
  generalize hH3 : H2.push { cls := .type "dict", data := .dict #[] } = H3
  have hc3 : H3.objs.size = h'.objs.size + 1 + 1 := by rw [← hH3, Heap.size_push, hC]
  generalize hh₁ : H3.push { cls := .type "cell", data := .cell none } = h₁
  have old : ∀ c o, h'.get? c = some o → h₁.get? c = some o := fun c o e => hh₁ ▸ Heap.get?_push_of_some _ (hH3 ▸ Heap.get?_push_of_some _ (hH2 ▸ Heap.get?_push_of_some _ e))
  have hns₁ : h₁.Ns H2.objs.size (fun _ => none) := by
    have := (Heap.Ns.new H2 (.type "dict"))
    rw [hH3] at this
    exact hh₁ ▸ this.keeps fun b o e => Heap.get?_push_of_some _ e
  have hD : h₁.get? h'.objs.size = some (lstO []) := hh₁ ▸ Heap.get?_push_of_some _ (hH3 ▸ Heap.get?_push_of_some _ (hH2 ▸ Heap.get?_push_size _ rfl))
  have hcO : h₁.get? (H2.objs.size + 1) = some { cls := .type "cell", data := .cell none } := by
    rw [show H2.objs.size + 1 = H3.objs.size from by rw [hc3, hC]]
    exact hh₁ ▸ Heap.get?_push_size _ rfl
  obtain ⟨oC, hoC, hnC⟩ := ns_obj hns₁
  have hlt : ∀ p ∈ led, p.1 < h'.objs.size := fun p hp => Heap.lt_size (N' p hp).1
  have F₁ : Fr b L h₁ m := F'.keeps old
  have hLlt := F'.ns.lt
  have fresh : ∀ a, h'.objs.size ≤ a → b.get? a = none := fun a ha => Heap.get?_none_of_le (Nat.le_trans (Nat.le_trans F'.above (Nat.le_of_lt hLlt)) ha)
  have far : ∀ k : Nat, ∀ a : Addr, a < h'.objs.size → a ≠ h'.objs.size + k := fun k a ha => Nat.ne_of_lt (Nat.lt_of_lt_of_le ha (Nat.le_add_right _ _))
  have N₁ : News b L h₁ ([(H2.objs.size + 1, ({ cls := .type "cell", data := .cell none } : Obj)), (H2.objs.size, oC)] ++ (h'.objs.size, lstO []) :: led) := fun p hp => by
    rcases List.mem_cons.mp hp with rfl | hp
    · exact ⟨hcO, fun e => absurd (show H2.objs.size + 1 = L from e).symm (by rw [hC]; exact far 2 L hLlt), fresh _ (by simp only; rw [hC]; exact Nat.le_add_right _ 2)⟩
    · rcases List.mem_cons.mp hp with rfl | hp
      · exact ⟨hoC, fun e => absurd (show H2.objs.size = L from e).symm (by rw [hC]; exact far 1 L hLlt), fresh _ (by simp only; rw [hC]; exact Nat.le_succ _)⟩
      · rcases List.mem_cons.mp hp with rfl | hp
        · exact ⟨hD, fun e => absurd (show h'.objs.size = L from e).symm (far 0 L hLlt), fresh _ (Nat.le_refl _)⟩
        · exact ⟨old _ _ (N' p hp).1, (N' p hp).2⟩
  have ND₁ : NDL ([(H2.objs.size + 1, ({ cls := .type "cell", data := .cell none } : Obj)), (H2.objs.size, oC)] ++ (h'.objs.size, lstO []) :: led) := ((ND.cons hlt).cons fun p hp => by
    rcases List.mem_cons.mp hp with rfl | hp
    · rw [hC]; exact Nat.lt_succ_self _
    · rw [hC]; exact Nat.lt_succ_of_lt (hlt p hp)).cons fun p hp => by
      rcases List.mem_cons.mp hp with rfl | hp
      · exact Nat.lt_succ_self _
      · rcases List.mem_cons.mp hp with rfl | hp
        · rw [hC]; exact Nat.lt_succ_of_lt (Nat.lt_succ_self _)
        · rw [hC]; exact Nat.lt_succ_of_lt (Nat.lt_succ_of_lt (hlt p hp))
  have hI₁ : ∀ p ∈ [(H2.objs.size + 1, ({ cls := .type "cell", data := .cell none } : Obj)), (H2.objs.size, oC)] ++ (h'.objs.size, lstO []) :: led, p.1 ≠ I := fun p hp => by
    rcases List.mem_cons.mp hp with rfl | hp
    · exact fun e => absurd (show H2.objs.size + 1 = I from e).symm (by rw [hC]; exact far 2 I hIlt)
    · rcases List.mem_cons.mp hp with rfl | hp
      · exact fun e => absurd (show H2.objs.size = I from e).symm (by rw [hC]; exact far 1 I hIlt)
      · rcases List.mem_cons.mp hp with rfl | hp
        · exact fun e => absurd (show h'.objs.size = I from e).symm (far 0 I hIlt)
        · exact hI p hp
  have hst₁ : St 0 h₁ := W.frame _ _ _ h0 fun c _ o e => old c o e
  have loop : ∀ s₃ : Shared, s₃ = { s with heap := h₁ } →
      codeAny (model prog w) A (.compLoop (.ListComp elt [⟨target, iter, ifs, 0⟩] scope pos) 0 (.ref I) (.ref h'.objs.size) (compEnvC scope ((x, H2.objs.size + 1) :: cl) H2.objs.size env)) (compPost (model prog w) A E none Q (.ref h'.objs.size) H2.objs.size) s₃ := by
    rintro s₃ rfl
    refine comp_core (s := { s with heap := h₁ }) (XA := [H2.objs.size + 1, H2.objs.size]) (CX := fun X => ∃ oC mC oc v, X = [(H2.objs.size + 1, oc), (H2.objs.size, oC)] ∧ NsO oC mC ∧ oc.data = .cell v) W hc hn1 (fun X hX => by obtain ⟨_, _, _, _, rfl, _⟩ := hX; rfl) ⟨oC, _, _, _, rfl, hnC, rfl⟩ hsz hst₁ F₁ N₁ ND₁ hI₁ hIb hIL hfix J hJ ?_ ?_
    · rintro i v ys led₁ X h tk oI hi hP ⟨oC, mC, oc, vc, rfl, hn, hd⟩ hys hj hcI nd hf F N
      refine wpAny_mono (step i v ys led₁ h tk I oI ic _ _ oC mC _ oc vc hi hP hj hys hcI ⟨n1, n2, n3, n4, n5⟩ hn hd nd hf F N) (fun _ s₂ h₂ => wpAny_mono h₂ (fun ok s₃ h₃ => ?_) fun _ _ f => f) fun _ _ f => f
      cases ok with
      | true =>
        simp only [if_true] at h₃ ⊢
        exact wpAny_mono h₃ (fun x s₄ h₄ => h₄.mid) fun _ _ f => f
      | false =>
        simp only [Bool.false_eq_true, if_false] at h₃ ⊢
        exact h₃.mid
    · rintro ys led₁ X h tk ⟨oC, mC, oc, vc, rfl, hn, hd⟩ hj nd hf F N
      refine ⟨mC, hn.at (N _ (.tail _ (.head _))).1, fun h' hs => ?_⟩
      have hCm := N _ (.tail _ (List.mem_cons_self (a := (H2.objs.size, oC))))
      refine done ys led₁ h' tk _ hj nd.tail.tail hf (F.change hs hCm.2.1 hCm.2.2) fun p hp => ⟨(hs.2 _ (nd.tail.head p hp)).trans (N p (.tail _ (.tail _ hp))).1, (N p (.tail _ (.tail _ hp))).2⟩
  exact codeAny_compStart_list (loop _ rfl) (W.self 0 _ _ _ hst₁ (loop _ rfl))
end
theorem upd_upd {led : Led} {C : Addr} {o o' : Obj} : upd (upd led C o) C o' = upd led C o' := by
  unfold upd
  rw [List.map_map]
  refine List.map_congr_left fun p _ => ?_
  simp only [Function.comp]
  by_cases h : p.1 = C <;> simp [h]

theorem rst_LPairs : True := by
  w_top off
  trivial
local macro_rules | `(tactic| walk_at "enterC") => `(tactic| k_dflt (refine' code_defC ?k1 ?k2 ?k3 ?k4 ?k5 ?kA ?kF ?kK ?k6 ?k7 ?k8 ?k9 ?kB ?kD ?_ ?c2 ?c3 ?c4; (case kA => assumption); (case kF => assumption); (case kK => assumption); (case k1 => k_asm); (case k2 => k_asm); (case k3 => k_asm); (case k4 => k_asm); (case k5 => k_asm); (case k6 => k_is); (case k7 => k_is); (case k8 => omega); (case k9 => first | exact BindsTo.of_eq rfl | exact binds_K (by k_in) rfl (by k_is) rfl rfl rfl); (case kB => exact rfl); (case kD => decide +kernel); (case c2 => exact rfl); (case c3 => exact rfl); (case c4 => exact rfl); k_whole; intro g' L' h' tk' cells' FG' F' N' Y' B' X' T' l1; k_cells Y'; (try simp only [List.cons_append, List.nil_append] at N'); (try dsimp only); (try k_fold)))
theorem lines_19 : True := by
  k_with "storeName" => (((with_reducible show wpAny _ _ (storeName (envOfC _ _ _ _ _) _ _) _ _ _); (refine cxs_C (by rfl) (by assumption) (by assumption) (by k_mem) (by assumption) ?_ (by rfl) (by kernel_rfl!)); intro _ _ _ _ _))
  trivial
local macro_rules | `(tactic| walk_at "eval Name") => `(tactic| ((with_reducible show wpAny _ _ (eval (Expr.Name _ _) (compEnvC _ _ _ _)) _ _ _); first
  | (with_reducible refine cn_L (by assumption) (by k_mem) (by assumption) (by walk_at "lk") ?_ (by kernel_rfl!) (by kernel_rfl!) (by decide +kernel))
  | k_dflt (refine' cx_D ?h1 ?h2 ?h3 ?h4 ?hq ?h5 ?h6 ?h7; (case h1 => exact rfl); (case h2 => assumption); (case h3 => assumption); (case h4 => k_mem); (case h5 => kernel_rfl!); (case h6 => kernel_rfl!); (case h7 => decide +kernel); k_whole)
  | (plain_pass; refine halt ?_)))
theorem lines_20 : True := by
  k_with "storeName" => (((with_reducible show wpAny _ _ (storeName (compEnvC _ _ _ _) _ _) _ _ _); (refine cst_L (by assumption) (by assumption) (by k_mem) (by assumption) ?_ (by rfl) (by kernel_rfl!)); intro _ _ _ _ _))
  k_with "subscriptTail" => (((with_reducible show wpAny _ _ (subscriptTail _ _ (Value.ref _) (Value.int _ _)) _ _ _); refine l_item (by assumption) (by k_mem) (by first | assumption | omega) (by first | assumption | omega) (by assumption) ?_ (by with_unfolding_all rfl)))
  trivial
theorem nmAt_get {i : Int} (h0 : 0 ≤ i) (h : i < 7) : nms[i.toNat]? = some (nmAt i) := by
  have hl : nms.length = 7 := rfl
  unfold nmAt
  rw [List.getD_eq_getElem?_getD]
  have : i.toNat < nms.length := by omega
  rw [List.getElem?_eq_getElem this]; rfl
theorem law_pairs_ok (w : World) {a : Addr} {ns : List Int} (hsz : ns.length ≤ 900) :
    Spec w 2 158 [.ref a] (fun led => ∃ vs n, (a, listOf vs.toArray n) ∈ led ∧ IntsAre vs ns) (fun led v led' => ∃ r, v = .ref r ∧ TripsL led' r (ns.map pk) ∧ (∀ q ∈ led, q ∈ led')) := by
  intro p loose mean mg mb A A₀ env outer base b L m s led R hh hA hf hke hd hu B F X N ND T hpre hret
  obtain ⟨vs, n, M, hvs⟩ := hpre
  walk_at "enterC"
  k_steps
  unfold Halt
  rename_i g L' h0 tk0 FG B' X' T' l1 oc d1 l' h1 F1 N1 l2 h2 oc2 dc2 F2 N2
  have hZ : StrsAre [Value.str (Str.ofString "") tk0, Value.str (Str.ofString "a") (tk0 + 1), Value.str (Str.ofString "A b") (tk0 + 1 + 1), Value.str (Str.ofString "\"c,d\"e") (tk0 + 1 + 1 + 1),
          Value.str (Str.ofString "it's") (tk0 + 1 + 1 + 1 + 1), Value.str (Str.ofString "\\") (tk0 + 1 + 1 + 1 + 1 + 1), Value.str (Str.ofString "z=\"x\"") (tk0 + 1 + 1 + 1 + 1 + 1 + 1)] nms := rfl
  generalize [Value.str (Str.ofString "") tk0, Value.str (Str.ofString "a") (tk0 + 1), Value.str (Str.ofString "A b") (tk0 + 1 + 1), Value.str (Str.ofString "\"c,d\"e") (tk0 + 1 + 1 + 1),
          Value.str (Str.ofString "it's") (tk0 + 1 + 1 + 1 + 1), Value.str (Str.ofString "\\") (tk0 + 1 + 1 + 1 + 1 + 1), Value.str (Str.ofString "z=\"x\"") (tk0 + 1 + 1 + 1 + 1 + 1 + 1)] = Z at *
  have ND2 : NDL ((l', listOf Z.toArray 0) :: (L' + 1, oc2) :: led) := (ND.cons fun q hq => Nat.lt_succ_of_lt (l1 q hq)).cons fun q hq => by
    rcases List.mem_cons.mp hq with rfl | hq
    · exact l2.1
    · exact ktn_ltOf l2.2 q hq
  rw [upd_eq2 (Nat.ne_of_gt l2.1) fun q hq => Nat.ne_of_lt (Nat.lt_succ_of_lt (l1 q hq))] at N2
  clear N1 F1 d1
  refine comp_src (src_list hh F2 N2 (.tail _ (.tail _ M))) ND2 (by simp; exact .inr (.inr M)) (by decide) rfl (by rw [sizeLine_eq, List.size_toArray, hvs.length]; exact oq31 hsz) (fun i ys led₁ => TripsAre led₁ ys ((ns.take i).map pk) ∧ (l', listOf Z.toArray 0) ∈ led₁ ∧ (L' + 1, oc2) ∈ led₁ ∧ ∀ q ∈ led, q ∈ led₁)
    ⟨by simpa using TripsAre.nil, .head _, .tail _ (.head _), fun q hq => .tail _ (.tail _ hq)⟩ ?_ ?_
  · rintro i v ys led₁ h tk I oI ic D C oC mC hi hc p1x0 hyl hcI hic hnC ND1 _ F1 N1
    refine fresh_goal fun G1 hG1 => ?_
    obtain ⟨hys, hM1, hM2, hsub⟩ := p1x0
    obtain ⟨k, t, hk, rfl⟩ := hvs.get' (by simpa using hc)
    have a1 : 0 ≤ k.fmod 6 := Int.fmod_nonneg_of_pos _ (by decide)
    have a2 : k.fmod 6 < 6 := Int.fmod_lt_of_pos _ (by decide)
    have b1 : 0 ≤ (k.fdiv 6).fmod 7 := Int.fmod_nonneg_of_pos _ (by decide)
    have b2 : (k.fdiv 6).fmod 7 < 7 := Int.fmod_lt_of_pos _ (by decide)
    obtain ⟨ta, ha⟩ : ∃ t, Z[(k.fmod 6).toNat]? = some (.str (nmAt (k.fmod 6)) t) := hZ.get (nmAt_get a1 (by exact oq85 a1 a2))
    obtain ⟨tb, hb⟩ : ∃ t, Z[((k.fdiv 6).fmod 7).toNat]? = some (.str (nmAt ((k.fdiv 6).fmod 7)) t) := hZ.get (nmAt_get b1 b2)
    have hCc : L' + 1 ≠ C := (ND1.tail.head _ (.tail _ hM2))
    have hCl : l' ≠ C := (ND1.tail.head _ (.tail _ hM1))
    refine hG1 ?_
    clear hG1 G1
    k_steps
    unfold Halt
    walk_at "eval Name"
    k_steps
    rename_i h7 oC8 nC8 D8 h8 F8 N8 l8
    have hIC : I ≠ C := (ND1.head _ (.head _)).symm
    have hDC : D ≠ C := ND1.tail.head _ (.head _)
    have hI8 : I < D8 := l8 _ (mem_upd_ne (.head _) hIC)
    have hD8 : D < D8 := l8 _ (mem_upd_ne (.tail _ (.tail _ (.head _))) hDC)
    have hC8 : C < D8 := l8 _ (mem_upd_self (.tail _ (.head _)))
    have up : ∀ q ∈ led₁, q ∈ (upd ((I, oI) :: (C, oC) :: (D, lstO ys) :: led₁) C oC8) := fun q hq => mem_upd_ne (.tail _ (.tail _ (.tail _ hq))) (ND1.tail.head _ (.tail _ hq))
    refine ⟨_, _, _, oC8, _, rfl, F8, N8, ND1.upd.cons l8, .tail _ (mem_upd_ne (.head _) hIC), .tail _ (mem_upd_ne (.tail _ (.tail _ (.head _))) hDC), .tail _ (mem_upd_self (.tail _ (.head _))), nC8, fun q hq => by rw [List.mem_singleton.mp hq]; exact .tail _ (up _ (hsub _ M)), fun led' kk => ?_⟩
    have up' : ∀ q ∈ led₁, q ∈ led' := fun q hq => kk q (.tail _ (up q hq)) (ND1.head _ (.tail _ (.tail _ hq))) (ND1.tail.tail.head _ hq) (ND1.tail.head _ (.tail _ hq))
    refine ⟨?_, up' _ hM1, up' _ hM2, fun q hq => up' q (hsub q hq)⟩
    have hk' : ((ns.take (i + 1)).map pk) = (ns.take i).map pk ++ [pk k] := by rw [List.take_add_one, hk, List.map_append]; rfl
    rw [hk']
    have h3 : (((pk k).2.2 : Nat) : Int) = (k.fdiv 42).fmod 3 := Int.toNat_of_nonneg (Int.fmod_nonneg_of_pos _ (by decide))
    have hT := kk _ (.head _) (Nat.ne_of_gt hI8) (Nat.ne_of_gt hD8) (Nat.ne_of_gt hC8)
    exact (hys.mono up').snoc ⟨D8, ta, tb, _, rfl, by rw [h3]; exact hT⟩
  · rintro ys led₁ h tk D p2x0 ND1 _ F1 N1
    refine fresh_goal fun G2 hG2 => ?_
    obtain ⟨hys, hM1, hM2, hsub⟩ := p2x0
    rw [List.size_toArray, hvs.length, List.take_length] at hys
    refine hG2 ?_
    clear hG2 G2
    k_steps
    rename_i kF kN _ _
    exact hret _ _ _ _ kF kN ND1 ⟨D, rfl, ⟨ys, _, .head _, hys.mono fun q hq => .tail _ hq⟩, fun q hq => .tail _ (hsub q hq)⟩


theorem rst_LEnts : True := by
  w_top off
  trivial
local macro_rules | `(tactic| walk_at "eval Name") => `(tactic| ((with_reducible show wpAny _ _ (eval (Expr.Name _ _) (envOfC _ _ _ _ _)) _ _ _); first
  | (with_reducible refine cx_L (by assumption) (by walk_at "lk") ?_ (by kernel_rfl!) (by kernel_rfl!) (by decide +kernel))
  | k_dflt (refine' cx_D ?h1 ?h2 ?h3 ?h4 ?hq ?h5 ?h6 ?h7; (case h1 => exact rfl); (case h2 => assumption); (case h3 => assumption); (case h4 => k_mem); (case h5 => kernel_rfl!); (case h6 => kernel_rfl!); (case h7 => decide +kernel); k_whole)
  | (plain_pass; refine halt ?_)))
local macro_rules | `(tactic| walk_at "eval Name") => `(tactic| ((with_reducible show wpAny _ _ (eval (Expr.Name _ _) (compEnvC _ _ _ _)) _ _ _); first
  | (with_reducible refine cn_L (by assumption) (by k_mem) (by assumption) (by walk_at "lk") ?_ (by kernel_rfl!) (by kernel_rfl!) (by decide +kernel))
  | k_dflt (refine' cx_D ?h1 ?h2 ?h3 ?h4 ?hq ?h5 ?h6 ?h7; (case h1 => exact rfl); (case h2 => assumption); (case h3 => assumption); (case h4 => k_mem); (case h5 => kernel_rfl!); (case h6 => kernel_rfl!); (case h7 => decide +kernel); k_whole)
  | (plain_pass; refine halt ?_)))
local macro_rules | `(tactic| walk_at "storeName") => `(tactic| ((with_reducible show wpAny _ _ (storeName (compEnvC _ _ _ _) _ _) _ _ _); first
  | ((refine cst_L (by assumption) (by assumption) (by k_mem) (by assumption) ?_ (by rfl) (by kernel_rfl!)); intro h' oC' nC' F' N')
  | ((k_dflt (refine' cxs_C ?h1 ?h2 ?h3 ?h4 ?h5 ?hq ?h6 ?h7; (case h1 => exact rfl); (case h2 => assumption); (case h3 => assumption); (case h4 => k_mem); (case h5 => assumption); (case h6 => exact rfl); (case h7 => kernel_rfl!); k_whole)); intro h' oc' dc' F' N')
  | (plain_pass; refine halt ?_)))
noncomputable def firstsOf (ps : List (Str × Str × Nat)) : List Str := ps.foldl (fun acc p => ins acc p.1) []
theorem firstsOf_take {ps : List (Str × Str × Nat)} {i : Nat} {p : Str × Str × Nat} (h : ps[i]? = some p) : firstsOf (ps.take (i + 1)) = ins (firstsOf (ps.take i)) p.1 := by
  unfold firstsOf; rw [List.take_add_one, h, List.foldl_append]; rfl
noncomputable def valsOf (ps : List (Str × Str × Nat)) (k : Str) : List Str := (ps.filter fun p => p.1 = k).map (·.2.1)
noncomputable def entriesOf (ps : List (Str × Str × Nat)) : List (Str × Str) := (firstsOf ps).map fun k => (k, (valsOf ps k).getLastD (Str.ofString ""))
theorem ins_mem {acc : List Str} {y z : Str} : z ∈ ins acc y ↔ z ∈ acc ∨ z = y := by
  unfold ins; split
  · rename_i h; constructor
    · exact .inl
    · rintro (h1 | rfl)
      · exact h1
      · exact h
  · simp
theorem foldIns_mem {ps : List (Str × Str × Nat)} {acc : List Str} {z : Str} : z ∈ ps.foldl (fun acc p => ins acc p.1) acc ↔ z ∈ acc ∨ ∃ p ∈ ps, p.1 = z := by
  induction ps generalizing acc with
  | nil => simp
  | cons p r ih =>
    rw [List.foldl_cons, ih, ins_mem]
    constructor
    · rintro ((h | rfl) | ⟨q, hq, e⟩)
      · exact .inl h
      · exact .inr ⟨p, .head _, rfl⟩
      · exact .inr ⟨q, .tail _ hq, e⟩
    · rintro (h | ⟨q, hq, e⟩)
      · exact .inl (.inl h)
      · rcases List.mem_cons.mp hq with rfl | hq
        · exact .inl (.inr e.symm)
        · exact .inr ⟨q, hq, e⟩
theorem valsOf_some {ps : List (Str × Str × Nat)} {k : Str} (h : k ∈ firstsOf ps) : ∃ xs x, valsOf ps k = xs ++ [x] := by
  obtain ⟨p, hp, e⟩ := (foldIns_mem.mp h).resolve_left (by simp)
  have hne : valsOf ps k ≠ [] := fun e2 => by
    have : p.2.1 ∈ valsOf ps k := List.mem_map.mpr ⟨p, List.mem_filter.mpr ⟨hp, by simpa using e⟩, rfl⟩
    rw [e2] at this; cases this
  exact ⟨_, _, (List.dropLast_concat_getLast hne).symm⟩
theorem StrsAre.last {zs : List Value} {xs : List Str} {x : Str} (h : StrsAre zs (xs ++ [x])) : ∃ zs0 t, zs = zs0 ++ [.str x t] := by
  have hl := h.length
  rcases List.eq_nil_or_concat zs with rfl | ⟨zs0, z, rfl⟩
  · simp at hl
  · have hz : zs0.length = xs.length := by simp at hl; exact hl
    obtain ⟨t, ht⟩ := h.get (i := xs.length) (s := x) (by simp)
    rw [List.concat_eq_append, ← hz] at ht
    simp at ht
    exact ⟨zs0, t, by rw [List.concat_eq_append, ht]⟩
theorem law_entries_ok (w : World) {a : Addr} {ps : List (Str × Str × Nat)} (hsz : ps.length ≤ 900) :
    Spec w 2 168 [.ref a] (fun led => TripsL led a ps) (fun led v led' => ∃ r, v = .ref r ∧ PairsL led' r (entriesOf ps) ∧ (∀ q ∈ led, q ∈ led')) := by
  intro p loose mean mg mb A A₀ env outer base b L m s led R hh hA hf hke hd hu B F X N ND T hpre hret
  obtain ⟨vs, n, M, hvs⟩ := hpre
  walk_at "enterC"
  k_steps
  unfold Halt
  rename_i g L' h0 tk0 FG B' X' T' l1 oc d1 Nd h1 l2 h2 F2 N2
  replace d1 : oc.data = .cell (some (.ref a)) := d1
  have ND2 : NDL ((Nd, listOf #[] 0) :: (L' + 1, oc) :: led) := (ND.cons fun q hq => Nat.lt_succ_of_lt (l1 q hq)).cons fun q hq => by
    rcases List.mem_cons.mp hq with rfl | hq
    · exact l2.1
    · exact ktn_ltOf l2.2 q hq
  have hNc : Nd ≠ L' + 1 := Nat.ne_of_gt l2.1
  have hNl : ∀ q ∈ led, q.1 ≠ Nd := fun q hq => Nat.ne_of_lt (ktn_ltOf l2.2 q hq)
  refine for_src (src_list hh F2 N2 (.tail _ (.tail _ M))) ND2 (by intro q hq; rw [List.mem_singleton.mp hq]; exact (.tail _ (.tail _ M))) (fun i m₁ led₁ => m₁ (Str.ofString "firsts") = some (.ref Nd) ∧ StrL led₁ Nd (firstsOf (ps.take i)) ∧ (firstsOf (ps.take i)).length ≤ i ∧ (L' + 1, oc) ∈ led₁ ∧ ∀ q ∈ led, q ∈ led₁) ⟨by rfl, ⟨[], 0, .head _, .nil⟩, by simp [firstsOf], .tail _ (.head _), fun q hq => .tail _ (.tail _ hq)⟩ ?_ ?_
  · rintro i v m₁ led₁ h tk I oI ic hi hv p1x0 hcI hic NDs hfx Fs Ns
    refine fresh_turn fun G1 hG1 => ?_
    obtain ⟨e1, ⟨us, un, MU, hus⟩, hul, hMc, hsub⟩ := p1x0
    obtain ⟨q, hq, T0, t1, t2, t3, rfl, MT⟩ := hvs.get (by simpa using hv)
    have MT1 := hsub _ MT
    have hi' : i < ps.length := by simp at hi; rw [← hvs.1]; exact hi
    have hsz2 : us.toArray.size ≤ sizeLine := by rw [sizeLine_eq, List.size_toArray, hus.length]; exact oq87 hsz hul hi'
    have hNI : I ≠ Nd := (NDs.head _ MU).symm
    have hst := firstsOf_take hq
    have hul3 := ins_len (firstsOf (ps.take i)) q.1
    generalize firstsOf (ps.take i) = acc at *
    refine hG1 fun Q1 hQ1 => ?_
    clear hG1 G1
    by_cases hin : q.1 ∈ acc
    · k_steps
      show LoopEnd _ _ _ _ _ _ _ _
      rename Fr _ _ _ _ => F3
      rename News _ _ _ _ => N3
      refine ⟨_, _, _, _, rfl, F3, N3, NDs, .head _, fun q hq => .tail _ (hfx q hq), fun led' kk => ⟨by walk_at "lk", ?_⟩⟩
      rw [hst, show ins acc q.1 = acc from if_pos hin]
      exact ⟨⟨us, un, kk _ (.tail _ MU) hNI.symm, hus⟩, by exact Nat.le_succ_of_le hul, kk _ (.tail _ hMc) (NDs.head _ hMc), fun q hq => kk _ (.tail _ (hsub q hq)) (NDs.head _ (hsub q hq))⟩
    · k_steps
      show LoopEnd _ _ _ _ _ _ _ _
      rename Fr _ _ _ _ => F3
      rename News _ _ _ _ => N3
      refine ⟨_, _, _, _, rfl, F3, N3, NDs.upd, mem_upd_ne (.head _) hNI, fun q hq => ?_, fun led' kk => ⟨by walk_at "lk", ?_⟩⟩
      · rw [List.mem_singleton.mp hq]; exact mem_upd_ne (.tail _ (hsub _ M)) (hNl _ M)
      rw [hst]
      refine ⟨⟨us ++ [.str q.1 t1], un + 1, kk _ ?_ hNI.symm, ?_⟩, by exact oq88 hul hul3, kk _ (mem_upd_ne (.tail _ hMc) hNc.symm) (NDs.head _ hMc), fun q hq => kk _ (mem_upd_ne (.tail _ (hsub q hq)) (hNl q hq)) (NDs.head _ (hsub q hq))⟩
      · have := mem_upd_self (o := listOf (us.toArray.push (.str q.1 t1)) (un + 1)) (List.mem_cons_of_mem (I, oI) MU)
        simpa using this
      · rw [show ins acc q.1 = acc ++ [q.1] from if_neg hin]; exact hus.push
  · rintro m₁ led₁ h tk p2x0 NDs _ Fs Ns
    refine fresh_goal fun G2 hG2 => ?_
    obtain ⟨e1, ⟨us, un, MU, hus⟩, hul, hMc, hsub⟩ := p2x0
    have hul' : (firstsOf ps).length ≤ 900 := by
      rw [List.size_toArray, hvs.1] at hul
      rw [List.take_length] at hul; exact oq89 hsz hul
    rw [List.size_toArray, hvs.1, List.take_length] at hus
    refine hG2 ?_
    clear hG2 G2
    k_steps
    unfold Halt
    have hun : us.length = (firstsOf ps).length := hus.length
    refine comp_srcC (src_list hh Fs Ns MU) NDs (by intro q hq; rw [List.mem_singleton.mp hq]; exact MU) (fun _ _ => rfl) (fun _ => rfl) rfl (by rw [sizeLine_eq, List.size_toArray]; exact oq90 hul' hun) (fun i ys led₁ => PairsAre led₁ ys ((entriesOf ps).take i) ∧ (Nd, listOf us.toArray un) ∈ led₁ ∧ (L' + 1, oc) ∈ led₁ ∧ ∀ q ∈ led, q ∈ led₁)
      ⟨by simpa using PairsAre.nil, MU, hMc, hsub⟩ ?_ ?_
    · rintro i v ys led₂ h2 tk2 I oI ic D C oC mC c oc3 vc hi hv p3x0 hyl hcI hic hnC hdc ND3 _ F3 N3
      refine fresh_goal fun G3 hG3 => ?_
      obtain ⟨hys, hMN, hMc2, hsub2⟩ := p3x0
      obtain ⟨k, t, hk, rfl⟩ := hus.get' (by simpa using hv)
      have hCc : L' + 1 ≠ C := (ND3.tail.tail.head _ (.tail _ hMc2))
      have hcc : L' + 1 ≠ c := (ND3.tail.head _ (.tail _ (.tail _ hMc2)))
      refine hG3 ?_
      clear hG3 G3
      k_steps
      unfold Halt
      walk_at "eval Name"
      k_steps
      rename_i h4 oc4 dc4 F4 N4
      have hIc : I ≠ c := (ND3.head _ (.head _)).symm
      have hCc3 : C ≠ c := ND3.tail.head _ (.head _)
      have hDc3 : D ≠ c := ND3.tail.head _ (.tail _ (.head _))
      have ND4 := ND3.upd (o := oc4) (a := c)
      have hI4 : (I, oI) ∈ (upd ((I, oI) :: (c, oc3) :: (C, oC) :: (D, lstO ys) :: led₂) c oc4) := mem_upd_ne (.head _) hIc
      have hc4 : (c, oc4) ∈ (upd ((I, oI) :: (c, oc3) :: (C, oC) :: (D, lstO ys) :: led₂) c oc4) := mem_upd_self (.tail _ (.head _))
      have hC4 : (C, oC) ∈ (upd ((I, oI) :: (c, oc3) :: (C, oC) :: (D, lstO ys) :: led₂) c oc4) := mem_upd_ne (.tail _ (.tail _ (.head _))) hCc3
      have hD4 : (D, lstO ys) ∈ (upd ((I, oI) :: (c, oc3) :: (C, oC) :: (D, lstO ys) :: led₂) c oc4) := mem_upd_ne (.tail _ (.tail _ (.tail _ (.head _)))) hDc3
      have up4 : ∀ q ∈ led₂, q ∈ (upd ((I, oI) :: (c, oc3) :: (C, oC) :: (D, lstO ys) :: led₂) c oc4) := fun q hq => mem_upd_ne (.tail _ (.tail _ (.tail _ (.tail _ hq)))) (ND3.tail.head _ (.tail _ (.tail _ hq)))
      generalize upd ((I, oI) :: (c, oc3) :: (C, oC) :: (D, lstO ys) :: led₂) c oc4 = led4 at *
      have hMa := up4 _ (hsub2 _ M)
      have hMc4 := up4 _ hMc2
      unfold Halt
      refine' cx_D (c := L' + 1) (o := oc) ?h1 N4 d1 hMc4 ?hq ?h5 ?h6 ?h7
      case h1 => rfl
      case h5 => kernel_rfl!
      case h6 => kernel_rfl!
      case h7 => decide +kernel
      refine comp_src (src_list hh F4 N4 hMa) ND4 (by intro q hq; rw [List.mem_singleton.mp hq]; exact hMa) (by decide) rfl (by rw [sizeLine_eq, List.size_toArray, hvs.1]; exact oq31 hsz) (fun j zs led₅ => StrsAre zs (valsOf (ps.take j) k) ∧ ∀ q ∈ led4, q ∈ led₅) ⟨by simpa [valsOf] using StrsAre.nil, fun q hq => hq⟩ ?_ ?_
      · rintro j v zs led₅ h5 tk5 I2 oI2 ic2 D2 C2 oC2 mC2 hj hv2 p4x0 hzl hcI2 hic2 hnC2 ND5 hfx5 F5 N5
        refine fresh_goal fun G4 hG4 => ?_
        obtain ⟨hzs, hsub5⟩ := p4x0
        obtain ⟨q, hq, T0, t1, t2, t3, rfl, MT⟩ := hvs.get (by simpa using hv2)
        have MT5 := hsub5 _ (up4 _ (hsub2 _ MT))
        have hc5 := hsub5 _ hc4
        have hc2 : c ≠ C2 := ND5.tail.head _ (.tail _ hc5)
        have hT2 : T0 ≠ C2 := ND5.tail.head _ (.tail _ MT5)
        have hvt : valsOf (ps.take (j + 1)) k = valsOf (ps.take j) k ++ if q.1 = k then [q.2.1] else [] := by
          unfold valsOf
          rw [List.take_add_one, hq, List.filter_append, List.map_append]
          congr 1
          by_cases e : q.1 = k <;> simp [e]
        refine hG4 ?_
        clear hG4 G4
        by_cases hqk : q.1 = k
        · have hb : (q.1 == k) = true := by simpa using hqk
          k_steps
          unfold Halt
          rename_i h6 F6 N6 h7 oC7 nC7 F7 N7 h8 oC8 nC8 F8 N8 h9 oC9 nC9 F9 N9
          rw [upd_upd, upd_upd] at N9
          clear F6 N6 F7 N7 F8 N8
          refine' cx_D (c := c) (o := oc4) ?e1 N9 dc4 ?e4 ?eq ?e5 ?e6 ?e7
          case e1 => rfl
          case e4 => exact mem_upd_ne (.tail _ (.tail _ (.tail _ hc5))) hc2
          case e5 => kernel_rfl!
          case e6 => kernel_rfl!
          case e7 => decide +kernel
          k_steps
          refine cEnd0 F9 N9 ND5 nC9 hfx5 (fun led' kk => ⟨?_, fun q hq => kk q (hsub5 q hq)⟩) rfl
          rw [hvt, if_pos hqk]; exact hzs.push
        · have hb : (q.1 == k) = false := by simpa using hqk
          k_steps
          unfold Halt
          rename_i h6 F6 N6 h7 oC7 nC7 F7 N7 h8 oC8 nC8 F8 N8 h9 oC9 nC9 F9 N9
          rw [upd_upd, upd_upd] at N9
          clear F6 N6 F7 N7 F8 N8
          refine' cx_D (c := c) (o := oc4) ?f1 N9 dc4 ?f4 ?fq ?f5 ?f6 ?f7
          case f1 => rfl
          case f4 => exact mem_upd_ne (.tail _ (.tail _ (.tail _ hc5))) hc2
          case f5 => kernel_rfl!
          case f6 => kernel_rfl!
          case f7 => decide +kernel
          k_steps
          refine cEnd0 F9 N9 ND5 nC9 hfx5 (fun led' kk => ⟨?_, fun q hq => kk q (hsub5 q hq)⟩) rfl
          rw [hvt, if_neg hqk, List.append_nil]; exact hzs
      · rintro zs led₅ h5 tk5 D2 p5x0 ND5 hfx5 F5 N5
        refine fresh_goal fun G5 hG5 => ?_
        obtain ⟨hzs, hsub5⟩ := p5x0
        rw [List.size_toArray, hvs.1, List.take_length] at hzs
        have hvl : (valsOf ps k).length ≤ 900 := Nat.le_trans (by unfold valsOf; rw [List.length_map]; exact List.length_filter_le _ _) hsz
        have hkm : k ∈ firstsOf ps := List.mem_of_getElem? hk
        obtain ⟨xs, x, hx⟩ := valsOf_some hkm
        obtain ⟨zs0, tz, rfl⟩ : ∃ zs0 tz, zs = zs0 ++ [.str x tz] := by
          rw [hx] at hzs; exact hzs.last
        have hzl : zs0.length < 2 ^ 62 := by
          have h1 := hzs.length
          rw [List.length_append, List.length_singleton] at h1
          have h2 : zs0.length ≤ 900 := by exact oq91 hvl h1
          exact Nat.lt_of_le_of_lt h2 (by decide)
        refine hG5 ?_
        clear hG5 G5
        k_steps
        rename_i D8 h8 F8 N8 l8
        have ND8 : NDL ((D8, ({ cls := .type "tuple", data := .seq #[.str k t, .str x tz] } : Obj)) :: (D2, lstO (zs0 ++ [.str x tz])) :: led₅) := ND5.cons fun q hq => by
          rcases List.mem_cons.mp hq with rfl | hq
          · exact l8.1
          · exact ktn_ltOf l8.2 q hq
        have hlt : ∀ q ∈ led4, q.1 ≠ D8 := fun q hq => Nat.ne_of_lt (ktn_ltOf l8.2 q (hsub5 q hq))
        refine ⟨_, _, _, oC, _, oc4, _, rfl, F8, N8, ND8, .tail _ (.tail _ (hsub5 _ hI4)), .tail _ (.tail _ (hsub5 _ hD4)), .tail _ (.tail _ (hsub5 _ hC4)), hnC, .tail _ (.tail _ (hsub5 _ hc4)), dc4, fun q hq => by rw [List.mem_singleton.mp hq]; exact .tail _ (.tail _ (hsub5 _ (up4 _ hMN))), fun led' kk => ?_⟩
        have up' : ∀ q ∈ led₂, q ∈ led' := fun q hq => kk q (.tail _ (.tail _ (hsub5 _ (up4 q hq)))) (ND3.head _ (.tail _ (.tail _ (.tail _ hq)))) (ND3.tail.tail.tail.head _ hq) (ND3.tail.tail.head _ (.tail _ hq)) (ND3.tail.head _ (.tail _ (.tail _ hq)))
        refine ⟨?_, up' _ hMN, up' _ hMc2, fun q hq => up' q (hsub2 q hq)⟩
        have hk' : (entriesOf ps).take (i + 1) = (entriesOf ps).take i ++ [(k, x)] := by
          have : (entriesOf ps)[i]? = some (k, x) := by unfold entriesOf; rw [List.getElem?_map, hk, Option.map_some, hx]; simp
          rw [List.take_add_one, this]; rfl
        rw [hk']
        have hT := kk _ (.head _) (hlt _ hI4).symm (hlt _ hD4).symm (hlt _ hC4).symm (hlt _ hc4).symm
        exact (hys.mono up').snoc ⟨D8, t, tz, rfl, hT⟩
    · rintro ys led₂ h2 tk2 D p6x0 ND3 _ F3 N3
      refine fresh_goal fun G6 hG6 => ?_
      obtain ⟨hys, hMN, hMc2, hsub2⟩ := p6x0
      rw [List.take_of_length_le (by simp [entriesOf, hun])] at hys
      refine hG6 ?_
      clear hG6 G6
      k_steps
      rename_i kF kN _ _
      exact hret _ _ _ _ kF kN ND3 ⟨D, rfl, ⟨ys, _, .head _, hys.mono fun q hq => .tail _ hq⟩, fun q hq => .tail _ (hsub2 q hq)⟩


theorem rst_Stab : True := by
  w_top off
  trivial
section
/-- the place at which an item stood -/
noncomputable def Rk (ρ : Keyed → Nat) (xs : Array Keyed) (i : Nat) : Nat := match xs[i]? with
  | some p => ρ p
  | none => i
noncomputable def Ls (k : Nat → Int) (r : Nat → Nat) (i j : Nat) : Prop := k i < k j ∨ (k i = k j ∧ r i < r j)
noncomputable def Up (k : Nat → Int) (r : Nat → Nat) (n : Nat) : Prop := ∀ i j, i < j → j < n → Ls k r i j
noncomputable def Dn (k : Nat → Int) (r : Nat → Nat) (n : Nat) : Prop := ∀ i j, i < j → j < n → Ls k r j i
noncomputable def Off (r : Nat → Nat) (x : Nat) : Prop := (∀ i, x ≤ i → r i = i) ∧ ∀ i, i < x → r i < x
theorem Off.succ {r : Nat → Nat} {x : Nat} (h : Off r x) : Off r (x + 1) := ⟨fun i hi => h.1 i (by exact Nat.le_of_lt hi), fun i hi => by
  by_cases e : i < x
  · have := h.2 i e; exact Nat.lt_succ_of_lt this
  · have := h.1 i (by exact Nat.le_of_not_lt e); exact oq92 hi e this⟩
theorem Rk_mirror {ρ : Keyed → Nat} {xs : Array Keyed} {i j : Nat} (hj : j ≤ xs.size) (k : Nat) :
    Rk ρ (mirror xs i j ((j - i) / 2)) k = if i ≤ k ∧ k < j then Rk ρ xs (i + j - 1 - k) else Rk ρ xs k := by
  have e := getElem?_mirror_all (i := i) hj k
  by_cases h1 : i ≤ k ∧ k < j
  · rw [if_pos h1] at e ⊢
    have h2 : i + j - 1 - k < xs.size := by exact oq93 hj h1
    unfold Rk; rw [e, getElem?_pos xs _ h2]
  · rw [if_neg h1] at e ⊢; unfold Rk; rw [e]
theorem Rk_bubble {ρ : Keyed → Nat} {xs : Array Keyed} {src d : Nat} (hs : src < xs.size) (hd : d ≤ src) (k : Nat) :
    Rk ρ (bubble xs src d) k = if k = src - d then Rk ρ xs src else if src - d < k ∧ k ≤ src then Rk ρ xs (k - 1) else Rk ρ xs k := by
  have e := getElem?_bubble hs d hd k
  by_cases h1 : k = src - d
  · rw [if_pos h1] at e ⊢; unfold Rk; rw [e, getElem?_pos xs _ hs]
  · rw [if_neg h1] at e ⊢
    by_cases h2 : src - d < k ∧ k ≤ src
    · rw [if_pos h2] at e ⊢
      have h3 : k - 1 < xs.size := by exact oq94 hs h2
      unfold Rk; rw [e, getElem?_pos xs _ h3]
    · rw [if_neg h2] at e ⊢; unfold Rk; rw [e]
/-- what the falling part of a run looks like: its last block, of equal keys, still stands as it stood -/
structure Blk (k : Nat → Int) (r : Nat → Nat) (b x : Nat) : Prop where
  lt : b < x
  dn : Dn k r b
  below : ∀ i j, i < b → b ≤ j → j < x → k j < k i
  same : ∀ j, b ≤ j → j < x → k j = k b
  inc : ∀ i j, b ≤ i → i < j → j < x → r i < r j
  off : Off r x
theorem Blk.one {k : Nat → Int} {r : Nat → Nat} {n : Nat} (h : Dn k r n) (o : Off r n) (hk : 0 < n → k n < k (n - 1)) : Blk k r n (n + 1) where
  lt := by exact Nat.le_refl _
  dn := h
  below := fun i j h1 h2 h3 => by
    have : j = n := by exact Nat.eq_of_le_of_lt_succ h2 h3
    subst this
    have h4 := hk (by exact Nat.zero_lt_of_lt h1)
    by_cases e : i = j - 1
    · subst e; exact h4
    · rcases h i (j - 1) (by exact oq95 h1 e) (by exact oq96 h1) with h5 | ⟨h5, _⟩ <;> (first | exact oq97 h4 h5 | exact oq98 h4 h5)
  same := fun j h1 h2 => by have : j = n := by exact Nat.eq_of_le_of_lt_succ h1 h2
                            rw [this]
  inc := fun i j h1 h2 h3 => by exact oq99 h1 h2 h3
  off := o.succ
theorem Blk.more {k : Nat → Int} {r : Nat → Nat} {b x : Nat} (h : Blk k r b x) (hk : k x = k (x - 1)) : Blk k r b (x + 1) where
  lt := by have := h.lt; exact Nat.lt_succ_of_lt this
  dn := h.dn
  below := fun i j h1 h2 h3 => by
    have hlt := h.lt
    by_cases e : j < x
    · exact h.below i j h1 h2 e
    · have : j = x := by exact Nat.eq_of_lt_succ_of_not_lt h3 e
      subst this
      have := h.below i (j - 1) h1 (by exact oq100 h1 hlt) (by exact oq101 h1 hlt); exact oq102 hk this
  same := fun j h1 h2 => by
    have hlt := h.lt
    by_cases e : j < x
    · exact h.same j h1 e
    · have : j = x := by exact Nat.eq_of_lt_succ_of_not_lt h2 e
      subst this
      have := h.same (j - 1) (by exact oq103 hlt) (by exact oq96 hlt); exact oq104 hk this
  inc := fun i j h1 h2 h3 => by
    by_cases e : j < x
    · exact h.inc i j h1 h2 e
    · have : j = x := by exact Nat.eq_of_lt_succ_of_not_lt h3 e
      subst this
      have h4 := h.off.1 j (Nat.le_refl _)
      have h5 := h.off.2 i (by exact h2)
      exact oq105 h4 h5
  off := h.off.succ
/-- the last block turned round: the whole falls -/
theorem Blk.turned {k k' : Nat → Int} {r r' : Nat → Nat} {b x : Nat} (h : Blk k r b x) (hk : ∀ i, k' i = if b ≤ i ∧ i < x then k (b + x - 1 - i) else k i) (hr : ∀ i, r' i = if b ≤ i ∧ i < x then r (b + x - 1 - i) else r i) : Dn k' r' x ∧ Off r' x ∧ k' (x - 1) = k (x - 1) ∧ ∀ i, x ≤ i → k' i = k i := by
  have hlt := h.lt
  refine ⟨fun i j hij hj => ?_, ⟨fun i hi => ?_, fun i hi => ?_⟩, ?_, fun i hi => ?_⟩
  · unfold Ls
    rw [hk, hk, hr, hr]
    by_cases hjb : j < b
    · rw [if_neg (by exact oq106 hjb), if_neg (by exact oq107 hij hjb), if_neg (by exact oq106 hjb), if_neg (by exact oq107 hij hjb)]
      exact h.dn i j hij hjb
    · by_cases hib : i < b
      · rw [if_pos (by exact oq108 hj hjb), if_neg (by exact oq106 hib), if_pos (by exact oq108 hj hjb), if_neg (by exact oq106 hib)]
        exact .inl (h.below i _ hib (by exact oq109 hj hib) (by exact oq110 hj hjb))
      · rw [if_pos (by exact oq108 hj hjb), if_pos (by exact oq111 hij hj hib), if_pos (by exact oq108 hj hjb), if_pos (by exact oq111 hij hj hib)]
        refine .inr ⟨?_, h.inc _ _ (by exact oq112 hj) (by exact oq113 hij hj) (by exact oq114 hij hj hib)⟩
        rw [h.same _ (by exact oq112 hj) (by exact oq110 hj hjb), h.same (b + x - 1 - i) (by exact oq115 hij hj) (by exact oq114 hij hj hib)]
  · rw [hr, if_neg (by exact oq116 hi)]; exact h.off.1 i hi
  · rw [hr]
    split
    · exact h.off.2 _ (by (rename_i u0; exact oq117 hi u0))
    · exact h.off.2 _ hi
  · rw [hk, if_pos (by exact oq118 hlt), h.same _ (by exact oq119 hlt) (by exact oq120 hlt), h.same (x - 1) (by exact oq103 hlt) (by exact oq96 hlt)]
  · rw [hk, if_neg (by exact oq116 hi)]
theorem Blk.single {k : Nat → Int} {r : Nat → Nat} {x : Nat} (hx : 0 < x) (h : Blk k r (x - 1) x) : Dn k r x := fun i j hij hj => by
  by_cases e : j < x - 1
  · exact h.dn i j hij e
  · have : j = x - 1 := by exact oq121 hx hj e
    subst this
    exact .inl (h.below i _ (by exact hij) (by exact Nat.le_refl _) (by exact hj))
end
section
variable {prog : Program} {w : World} {A : Around} {E : Value → Shared → Prop} {s : Shared} {a₀ : Array Keyed} {ρ : Keyed → Nat}
noncomputable abbrev UpA (ρ : Keyed → Nat) (xs : Array Keyed) (n : Nat) : Prop := Up (K xs) (Rk ρ xs) n
noncomputable abbrev DnA (ρ : Keyed → Nat) (xs : Array Keyed) (n : Nat) : Prop := Dn (K xs) (Rk ρ xs) n
noncomputable abbrev OffA (ρ : Keyed → Nat) (xs : Array Keyed) (n : Nat) : Prop := Off (Rk ρ xs) n
theorem ascLoopS {st : SortSt} {a nrem : Nat} {Q : AscSt → SortSt → Prop} (h0 : IntKeys a₀) (hn : nrem ≤ a₀.size) (ha : 1 ≤ a) (han : a ≤ nrem) (hB : SBase a₀ st)
    (hs : UpA ρ (arrOf st) a) (ho : OffA ρ (arrOf st) a)
    (h : ∀ n, a ≤ n → n ≤ nrem → UpA ρ (arrOf st) n → OffA ρ (arrOf st) n → (n = nrem ∨ K (arrOf st) n < K (arrOf st) (n - 1)) → Q (none, n) st) :
    wpS (model prog w) A E s (ascLoop a nrem) Q st := by
  unfold ascLoop
  refine wpS_forRange (I := fun x c st' => st' = st ∧ c = (none, x) ∧ UpA ρ (arrOf st) x ∧ OffA ρ (arrOf st) x) ?step ?fin ⟨rfl, rfl, hs, ho⟩
  case fin =>
    rintro c st' ⟨rfl, rfl, hs', ho'⟩
    rw [show max a nrem = nrem by exact oq122 han] at hs' ho' ⊢
    exact h nrem han (Nat.le_refl _) hs' ho' (.inl rfl)
  case step =>
    rintro x c st' hax hxn ⟨rfl, rfl, hs', ho'⟩
    dsimp only
    refine wpS_bind (wpS_ltK hB h0 (by exact Nat.lt_of_lt_of_le hxn hn) (by exact oq123 hn ha hax hxn) ?_)
    by_cases hless : K (arrOf st') x < K (arrOf st') (x - 1)
    · simp only [hless, decide_true, if_true]
      exact wpS_pure (h x hax (by exact Nat.le_of_lt hxn) hs' ho' (.inr hless))
    · simp only [hless, decide_false, Bool.false_eq_true, if_false]
      refine wpS_pure ⟨rfl, rfl, fun i j hij hj => ?_, ho'.succ⟩
      by_cases hjx : j < x
      · exact hs' i j hij hjx
      · have hj' : j = x := by exact Nat.eq_of_lt_succ_of_not_lt hj hjx
        subst hj'
        have r1 := ho'.1 j (Nat.le_refl _)
        have r2 := ho'.2 i (by exact hij)
        have hki : K (arrOf st') i ≤ K (arrOf st') (j - 1) := by
          by_cases hi' : i = j - 1
          · rw [hi']; exact Int.le_refl _
          · rcases hs' i (j - 1) (by exact oq124 hij r1 r2 hi') (by exact oq125 r1 r2) with h5 | ⟨h5, _⟩ <;> (first | exact oq126 h5 | exact oq127 h5)
        unfold Ls; exact oq128 hless r1 r2 hki
theorem tail3S {st : SortSt} {n nrem : Nat} {Q : Option Nat → SortSt → Prop} (h0 : IntKeys a₀) (hn : nrem ≤ a₀.size) (h1 : 1 ≤ n) (hnn : n ≤ nrem) (hB : SBase a₀ st)
    (hs : DnA ρ (arrOf st) n) (ho : OffA ρ (arrOf st) n) (h : ∀ m st', SBase a₀ st' → 1 ≤ m → m ≤ nrem → UpA ρ (arrOf st') m → OffA ρ (arrOf st') m → Q (some m) st') :
    wpS (model prog w) A E s (tail3 n nrem) Q st := by
  unfold tail3
  have hsz : n ≤ (arrOf st).size := by rw [hB.size]; exact Nat.le_trans hnn hn
  refine wpS_bind (wpS_reverse ?_)
  have hB' : SBase a₀ (setArr st (mirror (arrOf st) 0 n ((n - 0) / 2))) := hB.setArr (mirror_perm _ _ _ _)
  refine wpS_bind (ascLoopS (ρ := ρ) h0 hn h1 hnn hB' ?_ ?_ fun m hm1 hm2 hsm hom _ => wpS_pure (h m _ hB' (by exact Nat.lt_of_lt_of_le h1 hm1) hm2 hsm hom))
  · intro i j hij hj
    show Ls (K (mirror (arrOf st) 0 n ((n - 0) / 2))) (Rk ρ (mirror (arrOf st) 0 n ((n - 0) / 2))) i j
    unfold Ls
    rw [K_mirror hsz, K_mirror hsz, Rk_mirror hsz, Rk_mirror hsz, if_pos (by exact oq129 hij hj), if_pos (by exact oq130 hj), if_pos (by exact oq129 hij hj), if_pos (by exact oq130 hj)]
    exact hs _ _ (by exact oq131 hij hj) (by exact oq132 hij hj)
  · show OffA ρ (mirror (arrOf st) 0 n ((n - 0) / 2)) n
    refine ⟨fun i hi => ?_, fun i hi => ?_⟩
    · rw [Rk_mirror hsz, if_neg (by exact oq133 hi)]; exact ho.1 i hi
    · rw [Rk_mirror hsz, if_pos (by exact oq130 hi)]; exact ho.2 _ (by exact oq134 hi)
theorem descLoopS {st : SortSt} {n nrem : Nat} {Q : DescSt → SortSt → Prop} (h0 : IntKeys a₀) (hn : nrem ≤ a₀.size) (h1 : 1 ≤ n) (hnn : n ≤ nrem) (hB : SBase a₀ st)
    (hs : Blk (K (arrOf st)) (Rk ρ (arrOf st)) (n - 1) n)
    (h : ∀ m neq st', SBase a₀ st' → n ≤ m → m ≤ nrem → neq + 1 ≤ m → Blk (K (arrOf st')) (Rk ρ (arrOf st')) (m - (neq + 1)) m → Q (none, m, neq) st') :
    wpS (model prog w) A E s (descLoop n nrem) Q st := by
  unfold descLoop
  refine wpS_forRange (I := fun x c st' => ∃ neq, c = (none, x, neq) ∧ SBase a₀ st' ∧ neq + 1 ≤ x ∧ Blk (K (arrOf st')) (Rk ρ (arrOf st')) (x - (neq + 1)) x) ?step ?fin ⟨0, rfl, hB, by exact h1, hs⟩
  case fin =>
    rintro c st' ⟨neq, rfl, hB', hq, hb⟩
    rw [show max n nrem = nrem by exact oq122 hnn] at hq hb ⊢
    exact h nrem neq st' hB' hnn (Nat.le_refl _) hq hb
  case step =>
    rintro x c st' hax hxn ⟨neq, rfl, hB', hq, hb⟩
    dsimp only
    have hsz : x ≤ (arrOf st').size := by rw [hB'.size]; exact Nat.le_trans (Nat.le_of_lt hxn) hn
    refine wpS_bind (wpS_ltK hB' h0 (by exact Nat.lt_of_lt_of_le hxn hn) (by exact oq135 hn hxn hq) ?_)
    by_cases hless : K (arrOf st') x < K (arrOf st') (x - 1)
    · simp only [hless, decide_true, if_true]
      by_cases hneq : neq > 0
      · rw [if_pos hneq]
        have hB2 : SBase a₀ (setArr st' (mirror (arrOf st') (x - (neq + 1)) x ((x - (x - (neq + 1))) / 2))) := hB'.setArr (mirror_perm _ _ _ _)
        refine wpS_bind (wpS_reverse (wpS_pure ⟨0, rfl, hB2, by exact Nat.succ_pos _, ?_⟩))
        obtain ⟨d1, d2, d3, d4⟩ := hb.turned (k' := K (mirror (arrOf st') (x - (neq + 1)) x ((x - (x - (neq + 1))) / 2))) (r' := Rk ρ (mirror (arrOf st') (x - (neq + 1)) x ((x - (x - (neq + 1))) / 2))) (fun i => K_mirror hsz i) (fun i => Rk_mirror hsz i)
        show Blk (K (mirror (arrOf st') (x - (neq + 1)) x ((x - (x - (neq + 1))) / 2))) (Rk ρ (mirror (arrOf st') (x - (neq + 1)) x ((x - (x - (neq + 1))) / 2))) (x + 1 - (0 + 1)) (x + 1)
        rw [show x + 1 - (0 + 1) = x by exact oq136]
        exact Blk.one d1 d2 fun _ => by rw [d3, d4 x (Nat.le_refl _)]; exact hless
      · rw [if_neg hneq]
        refine wpS_pure ⟨0, rfl, hB', by exact Nat.succ_pos _, ?_⟩
        have : neq = 0 := by exact Nat.eq_zero_of_not_pos hneq
        subst this
        rw [show x + 1 - (0 + 1) = x by exact oq137 hq]
        exact Blk.one (hb.single (by exact hq)) hb.off fun _ => hless
    · simp only [hless, decide_false, Bool.false_eq_true, if_false]
      refine wpS_bind (wpS_ltK hB' h0 (by exact oq135 hn hxn hq) (by exact Nat.lt_of_lt_of_le hxn hn) ?_)
      by_cases hlarger : K (arrOf st') (x - 1) < K (arrOf st') x
      · simp only [hlarger, decide_true, if_true]
        exact wpS_pure (h x neq st' hB' hax (by exact Nat.le_of_lt hxn) hq hb)
      · simp only [hlarger, decide_false, Bool.false_eq_true, if_false]
        have heqx : K (arrOf st') x = K (arrOf st') (x - 1) := by exact oq138 hless hlarger
        refine wpS_pure ⟨neq + 1, rfl, hB', by exact Nat.succ_lt_succ hq, ?_⟩
        rw [show x + 1 - (neq + 1 + 1) = x - (neq + 1) by exact oq139 hq]
        exact hb.more heqx
theorem descPartS {st : SortSt} {n nrem : Nat} {Q : Option Nat → SortSt → Prop} (h0 : IntKeys a₀) (hn : nrem ≤ a₀.size) (hnn : n + 1 ≤ nrem) (hB : SBase a₀ st)
    (hs : Blk (K (arrOf st)) (Rk ρ (arrOf st)) n (n + 1)) (h : ∀ m st', SBase a₀ st' → 1 ≤ m → m ≤ nrem → UpA ρ (arrOf st') m → OffA ρ (arrOf st') m → Q (some m) st') :
    wpS (model prog w) A E s (descPart n nrem) Q st := by
  unfold descPart
  refine wpS_bind (wpS_lift (wpAny_rule ⟨rfl, ?_⟩))
  refine wpS_bind (descLoopS (ρ := ρ) h0 hn (by exact Nat.succ_pos _) hnn hB (by rw [Nat.add_sub_cancel]; exact hs) fun m neq st' hB' hm1 hm2 hq hb => ?_)
  dsimp only
  have hsz : m ≤ (arrOf st').size := by rw [hB'.size]; exact Nat.le_trans hm2 hn
  by_cases hneq : neq > 0
  · rw [if_pos hneq]
    obtain ⟨d1, d2, d3, d4⟩ := hb.turned (k' := K (mirror (arrOf st') (m - (neq + 1)) m ((m - (m - (neq + 1))) / 2))) (r' := Rk ρ (mirror (arrOf st') (m - (neq + 1)) m ((m - (m - (neq + 1))) / 2))) (fun i => K_mirror hsz i) (fun i => Rk_mirror hsz i)
    exact wpS_bind (wpS_reverse (tail3S (ρ := ρ) h0 hn (by exact Nat.zero_lt_of_lt hq) hm2 (hB'.setArr (mirror_perm _ _ _ _)) d1 d2 h))
  · rw [if_neg hneq]
    have : neq = 0 := by exact Nat.eq_zero_of_not_pos hneq
    subst this
    exact tail3S (ρ := ρ) h0 hn (by exact hq) hm2 hB' (hb.single (by exact hq)) hb.off h
theorem countRunS {st : SortSt} {nrem : Nat} {Q : Option Nat → SortSt → Prop} (h0 : IntKeys a₀) (hn : nrem ≤ a₀.size) (h1 : 1 ≤ nrem) (hB : SBase a₀ st) (ho : OffA ρ (arrOf st) 1)
    (h : ∀ m st', SBase a₀ st' → 1 ≤ m → m ≤ nrem → UpA ρ (arrOf st') m → OffA ρ (arrOf st') m → Q (some m) st') :
    wpS (model prog w) A E s (countRun' 0 nrem) Q st := by
  rw [countRun0_eq]
  refine wpS_bind (ascLoopS (ρ := ρ) h0 hn (Nat.le_refl 1) h1 hB (fun i j hij hj => by exact oq140 hij hj) ho fun n hn1 hn2 hsn hon hor => ?_)
  dsimp only
  by_cases hnn : n = nrem
  · rw [if_pos (by simpa using hnn)]
    exact wpS_pure (h n st hB hn1 hn2 hsn hon)
  · rw [if_neg (by simpa using hnn)]
    have hlt : K (arrOf st) n < K (arrOf st) (n - 1) := hor.resolve_left hnn
    by_cases hgt : n > 1
    · rw [if_pos hgt]
      refine wpS_bind (wpS_ltK hB h0 (by exact Nat.lt_of_lt_of_le h1 hn) (by exact oq141 hn hn2 hgt) ?_)
      by_cases hrose : K (arrOf st) 0 < K (arrOf st) (n - 1)
      · simp only [hrose, decide_true, if_true]
        exact wpS_pure (h n st hB hn1 hn2 hsn hon)
      · simp only [hrose, decide_false, Bool.false_eq_true, if_false]
        have hsz : n ≤ (arrOf st).size := by rw [hB.size]; exact Nat.le_trans hn2 hn
        have hall : ∀ k, 0 ≤ k → k < n → K (arrOf st) k = K (arrOf st) 0 := by
          intro k _ hk
          by_cases e : k = 0
          · rw [e]
          · have a1 := hsn 0 k (by (rename_i u0; exact Nat.pos_of_ne_zero e)) hk
            have a2 : K (arrOf st) k ≤ K (arrOf st) (n - 1) := by
              by_cases e2 : k = n - 1
              · rw [e2]; exact Int.le_refl _
              · rcases hsn k (n - 1) (by exact oq142 hgt hk e2) (by exact oq143 hgt) with h5 | ⟨h5, _⟩ <;> (first | exact oq126 h5 | exact oq127 h5)
            rcases a1 with h5 | ⟨h5, _⟩ <;> (first | exact oq144 hrose a2 h5 | exact oq145 h5)
        have hb : Blk (K (arrOf st)) (Rk ρ (arrOf st)) 0 n :=
          ⟨by exact Nat.zero_lt_of_lt hgt, fun i j _ hj => by exact (Nat.not_lt_zero _ hj).elim, fun i j hi => by exact oq146 hi, fun j h1 h2 => hall j h1 h2, fun i j h1 h2 h3 => by
            rcases hsn i j h2 h3 with h5 | ⟨_, h5⟩
            · rw [hall i (by exact Nat.zero_le _) (by exact Nat.lt_trans h2 h3), hall j (by exact Nat.zero_le _) h3] at h5; exact oq147 h5
            · exact h5, hon⟩
        obtain ⟨d1, d2, d3, d4⟩ := hb.turned (k' := K (mirror (arrOf st) 0 n ((n - 0) / 2))) (r' := Rk ρ (mirror (arrOf st) 0 n ((n - 0) / 2))) (fun i => K_mirror hsz i) (fun i => Rk_mirror hsz i)
        refine wpS_bind (wpS_reverse (descPartS (ρ := ρ) h0 hn (by exact Nat.lt_of_le_of_ne hn2 hnn) (hB.setArr (mirror_perm _ _ _ _)) ?_ h))
        exact Blk.one d1 d2 fun _ => by
          show K (mirror (arrOf st) 0 n ((n - 0) / 2)) n < K (mirror (arrOf st) 0 n ((n - 0) / 2)) (n - 1)
          rw [d3, d4 n (Nat.le_refl _)]; exact hlt
    · rw [if_neg hgt]
      have hn1' : n = 1 := by exact oq148 hn1 hgt
      subst hn1'
      refine descPartS (ρ := ρ) h0 hn (by exact Nat.lt_of_le_of_ne h1 hnn) hB ?_ h
      exact Blk.one (fun i j hij hj => by exact oq140 hij hj) hon fun _ => hlt
theorem binarySortS {st : SortSt} {n ok : Nat} {Q : Bool → SortSt → Prop} (h0 : IntKeys a₀) (hn : n ≤ a₀.size) (hok : ok ≤ n) (hok1 : 1 ≤ ok) (hB : SBase a₀ st) (hs : UpA ρ (arrOf st) ok) (ho : OffA ρ (arrOf st) ok)
    (h : ∀ st', SBase a₀ st' → UpA ρ (arrOf st') n → Q true st') : wpS (model prog w) A E s (binarySort' 0 n ok) Q st := by
  rw [binarySort'_eq]
  simp only [Nat.zero_add]
  refine wpS_bind (wpS_mono (wpS_forRange (I := fun k c st' => c = (none, ()) ∧ SBase a₀ st' ∧ UpA ρ (arrOf st') (min k n) ∧ OffA ρ (arrOf st') (min k n))
    (Q := fun c st' => c = (none, ()) ∧ SBase a₀ st' ∧ UpA ρ (arrOf st') n) ?step ?fin ?init) ?post)
  case post =>
    rintro c st' ⟨rfl, hB', hs'⟩
    exact wpS_pure (h st' hB' hs')
  case init =>
    rw [show min (max ok 1) n = ok by exact oq149 hok hok1]
    exact ⟨rfl, hB, hs, ho⟩
  case fin =>
    rintro c st' ⟨hc, hB', hs', _⟩
    refine ⟨hc, hB', ?_⟩
    rwa [show min (max (max ok 1) n) n = n by exact oq150] at hs'
  case step =>
    rintro k c st' hak hkn ⟨rfl, hB', hs', ho'⟩
    rw [show min k n = k by exact oq151 hkn] at hs' ho'
    have hk : k < a₀.size := by exact Nat.lt_of_lt_of_le hkn hn
    have hle : ∀ i j, i ≤ j → j < k → K (arrOf st') i ≤ K (arrOf st') j := fun i j hij hj => by
      by_cases e : i = j
      · rw [e]; exact Int.le_refl _
      · rcases hs' i j (by exact Nat.lt_of_le_of_ne hij e) hj with h5 | ⟨h5, _⟩ <;> (first | exact Int.le_of_lt h5 | exact oq127 h5)
    refine wpS_bind (wpS_mono (wpS_forRange (I := fun x c st'' => st'' = st' ∧ ∃ l r, c = (none, l, r) ∧ l ≤ r ∧ r ≤ k ∧ r - l ≤ k - x ∧
        (∀ i, i < l → K (arrOf st') i ≤ K (arrOf st') k) ∧ (∀ i, r ≤ i → i < k → K (arrOf st') k < K (arrOf st') i))
      (Q := fun c st'' => st'' = st' ∧ ∃ l r, c = (none, l, r) ∧ l ≤ k ∧
        (∀ i, i < l → K (arrOf st') i ≤ K (arrOf st') k) ∧ (∀ i, l ≤ i → i < k → K (arrOf st') k < K (arrOf st') i)) ?istep ?ifin ?iinit) ?ipost)
    case iinit => exact ⟨rfl, 0, k, rfl, by exact Nat.zero_le _, by exact Nat.le_refl _, by exact Nat.sub_le _ _, fun i hi => by exact oq152 hi, fun i h1 h2 => by exact oq153 h1 h2⟩
    case ifin =>
      rintro c st'' ⟨rfl, l, r, rfl, hlr, hrk, hm, hlo, hhi⟩
      have : l = r := by exact oq154 hlr hm
      subst this
      exact ⟨rfl, l, l, rfl, hrk, hlo, hhi⟩
    case istep =>
      rintro x c st'' _ hxk ⟨rfl, l, r, rfl, hlr, hrk, hm, hlo, hhi⟩
      dsimp only
      by_cases hge : l ≥ r
      · rw [if_pos hge]
        have : l = r := by exact Nat.le_antisymm hlr hge
        subst this
        exact wpS_pure ⟨rfl, l, l, rfl, hrk, hlo, hhi⟩
      · rw [if_neg hge]
        refine wpS_bind (wpS_ltK hB' h0 hk (by exact oq155 hk hrk hge) ?_)
        by_cases hless : K (arrOf st'') k < K (arrOf st'') ((l + r) / 2)
        · simp only [hless, decide_true, if_true]
          refine wpS_pure ⟨rfl, l, (l + r) / 2, rfl, by exact oq156 hge, by exact oq157 hrk hge, by exact oq158 hxk hm hge, hlo, fun i h1 h2 => ?_⟩
          exact Int.lt_of_lt_of_le hless (hle _ _ h1 h2)
        · simp only [hless, decide_false, Bool.false_eq_true, if_false]
          refine wpS_pure ⟨rfl, (l + r) / 2 + 1, r, rfl, by exact oq159 hge, by exact hrk, by exact oq160 hxk hm hge, fun i h1 => ?_, hhi⟩
          exact Int.le_trans (hle i ((l + r) / 2) (by exact oq161 h1) (by exact oq162 hrk hge)) (Int.not_lt.mp hless)
    case ipost =>
      rintro c st'' ⟨rfl, l, r, rfl, hlk, hlo, hhi⟩
      show wpS _ _ _ _ (do moveDown' k l; pure (ForInStep.yield (none, ()))) _ _
      rw [moveDown'_eq]
      refine wpS_bind (wpS_modify (wpS_pure ⟨rfl, hB'.setArr (bubble_perm _ _ _), ?_⟩))
      rw [show min (k + 1) n = k + 1 by exact oq163 hkn]
      have hks : k < (arrOf st'').size := by rw [hB'.size]; exact hk
      have rk := ho'.1 k (Nat.le_refl _)
      refine ⟨fun i j hij hj => ?_, fun i hi => ?_, fun i hi => ?_⟩
      · show Ls (K (bubble (arrOf st'') k (k - l))) (Rk ρ (bubble (arrOf st'') k (k - l))) i j
        unfold Ls
        rw [K_bubble hks (by exact Nat.sub_le _ _), K_bubble hks (by exact Nat.sub_le _ _), Rk_bubble hks (by exact Nat.sub_le _ _), Rk_bubble hks (by exact Nat.sub_le _ _), show k - (k - l) = l by exact oq164 hlk rk]
        by_cases hjl : j < l
        · rw [if_neg (by exact oq165 hij hjl), if_neg (by exact oq166 hij hjl), if_neg (by exact Nat.ne_of_lt hjl), if_neg (by exact oq167 hjl), if_neg (by exact oq165 hij hjl), if_neg (by exact oq166 hij hjl), if_neg (by exact Nat.ne_of_lt hjl), if_neg (by exact oq167 hjl)]
          exact hs' i j hij (by exact oq168 hlk rk hj hjl)
        · by_cases hje : j = l
          · rw [if_neg (show i ≠ l by exact oq169 hij hje), if_neg (show ¬ (l < i ∧ i ≤ k) by exact oq170 hij hje), if_pos hje, if_neg (show i ≠ l by exact oq169 hij hje), if_neg (show ¬ (l < i ∧ i ≤ k) by exact oq170 hij hje), if_pos hje]
            have h1 := hlo i (by exact Nat.lt_of_lt_of_eq hij hje)
            have h2 := ho'.2 i (by exact Nat.lt_of_lt_of_le hij (Nat.le_of_lt_succ hj))
            exact oq171 rk h1 h2
          · rw [if_neg hje, if_pos (show l < j ∧ j ≤ k by exact oq172 rk hj hjl hje), if_neg hje, if_pos (show l < j ∧ j ≤ k by exact oq172 rk hj hjl hje)]
            by_cases hil : i < l
            · rw [if_neg (show i ≠ l by exact Nat.ne_of_lt hil), if_neg (show ¬ (l < i ∧ i ≤ k) by exact oq167 hil), if_neg (show i ≠ l by exact Nat.ne_of_lt hil), if_neg (show ¬ (l < i ∧ i ≤ k) by exact oq167 hil)]
              exact hs' i (j - 1) (by exact oq173 hij hjl hje hil) (by exact oq174 rk hij hj)
            · by_cases hie : i = l
              · rw [if_pos hie]
                exact .inl (hhi (j - 1) (by exact oq175 hij hie) (by exact oq174 rk hij hj))
              · rw [if_neg hie, if_pos (show l < i ∧ i ≤ k by exact oq176 rk hij hj hil hie), if_neg hie, if_pos (show l < i ∧ i ≤ k by exact oq176 rk hij hj hil hie)]
                exact hs' (i - 1) (j - 1) (by exact oq177 hij hil hie) (by exact oq174 rk hij hj)
      · show Rk ρ (bubble (arrOf st'') k (k - l)) i = i
        rw [Rk_bubble hks (by exact Nat.sub_le _ _), if_neg (by exact oq178 rk hi), if_neg (by exact oq179 rk hi)]; exact ho'.1 i (by exact Nat.le_of_lt hi)
      · show Rk ρ (bubble (arrOf st'') k (k - l)) i < k + 1
        rw [Rk_bubble hks (by exact Nat.sub_le _ _)]
        split
        · exact oq180 rk
        · split
          · have := ho'.2 (i - 1) (by (rename_i u0; exact oq181 rk hi u0)); exact oq182 rk this
          · have : i < k := by omega
            have := ho'.2 i (by exact this); exact Nat.lt_succ_of_lt this
noncomputable def SDoneS (ρ : Keyed → Nat) (a₀ : Array Keyed) (st : SortSt) : Prop :=
  (arrOf st).Perm a₀ ∧ failedOf st = none ∧ pendingOf st = #[(0, a₀.size, 0)] ∧ UpA ρ (arrOf st) a₀.size
theorem doneS {st : SortSt} (hB : SBase a₀ st) (hs : UpA ρ (arrOf st) a₀.size) : SDoneS ρ a₀ (setPending st ((pendingOf st).push (0, a₀.size, 0))) :=
  ⟨hB.perm, hB.failed, by show (pendingOf st).push _ = _; rw [hB.pend]; rfl, hs⟩
theorem sortRunsS {st : SortSt} {Q : Unit → SortSt → Prop} (h0 : IntKeys a₀) (hB : SBase a₀ st) (ho : OffA ρ (arrOf st) 1) (h2 : 2 ≤ a₀.size) (h64 : a₀.size < 64)
    (h : ∀ st', (arrOf st').Perm a₀ → failedOf st' = none → UpA ρ (arrOf st') a₀.size → Q () st') : wpS (model prog w) A E s sortRuns' Q st := by
  rw [sortRuns'_eq]
  refine wpS_bind (wpS_get ?_)
  dsimp only
  have hmr : minRun' a₀.size a₀.size 0 = a₀.size := by
    obtain ⟨f, hf⟩ : ∃ f, a₀.size = f + 1 := ⟨a₀.size - 1, by exact oq183 h2 h64⟩
    have : minRun' (f + 1) a₀.size 0 = a₀.size := by rw [minRun'_succ, if_pos h64]; rfl
    rwa [← hf] at this
  simp only [hB.size, hmr]
  refine wpS_bind (wpS_mono (wpS_forRange
    (I := fun x c st' => (x = 0 ∧ c = (none, 0) ∧ SBase a₀ st' ∧ OffA ρ (arrOf st') 1) ∨ (1 ≤ x ∧ c = (none, a₀.size) ∧ SDoneS ρ a₀ st'))
    (Q := fun c st' => c = (none, a₀.size) ∧ SDoneS ρ a₀ st') ?step ?fin (.inl ⟨rfl, rfl, hB, ho⟩)) ?post)
  case fin =>
    rintro c st' (⟨hx, _, _⟩ | ⟨_, hc, hD⟩)
    · omega
    · exact ⟨hc, hD⟩
  case step =>
    rintro x c st' _ hx (⟨rfl, rfl, hB', ho'⟩ | ⟨hx1, rfl, hD⟩)
    · dsimp only
      rw [if_neg (by exact oq184 h2 h64 hmr)]
      simp only [Nat.sub_zero, Nat.min_self, Nat.zero_add]
      refine wpS_bind (countRunS (ρ := ρ) h0 (Nat.le_refl _) (by exact Nat.le_of_lt h2) hB' ho' fun m st2 hB2 hm1 hm2 hs2 ho2 => ?_)
      dsimp only
      by_cases hlt : m < a₀.size
      · rw [if_pos hlt]
        refine wpS_bind (wpS_lift (wpAny_rule ⟨rfl, ?_⟩))
        refine wpS_bind (binarySortS (ρ := ρ) h0 (Nat.le_refl _) hm2 hm1 hB2 hs2 ho2 fun st3 hB3 hs3 => ?_)
        simp only [Bool.not_true, Bool.false_eq_true, if_false]
        refine wpS_bind (wpS_get ?_)
        have hb : (pendingOf st3).back? = none := by rw [hB3.pend]; rfl
        rw [hb]
        dsimp only
        exact wpS_bind (wpS_modify (wpS_pure (.inr ⟨by exact Nat.zero_lt_one, rfl, doneS hB3 hs3⟩)))
      · rw [if_neg hlt]
        have hm : m = a₀.size := by exact oq185 hmr hm2 hlt
        subst hm
        refine wpS_bind (wpS_get ?_)
        have hb : (pendingOf st2).back? = none := by rw [hB2.pend]; rfl
        rw [hb]
        dsimp only
        exact wpS_bind (wpS_modify (wpS_pure (.inr ⟨by exact Nat.zero_lt_one, rfl, doneS hB2 hs2⟩)))
    · dsimp only
      rw [if_pos (Nat.le_refl _)]
      exact wpS_pure ⟨rfl, hD⟩
  case post =>
    rintro c st' ⟨rfl, hD⟩
    dsimp only
    refine wpS_bind (wpS_mono (wpS_forRange (I := fun _ c st'' => st'' = st' ∧ c = (none, ())) (Q := fun c st'' => st'' = st' ∧ c = (none, ())) ?_ (fun _ _ hh => hh) ⟨rfl, rfl⟩) ?_)
    · rintro x c st'' _ _ ⟨rfl, rfl⟩
      refine wpS_bind (wpS_get ?_)
      rw [if_pos (by rw [hD.2.2.1]; exact Nat.le_refl 1)]
      exact wpS_pure ⟨rfl, rfl⟩
    · rintro c st'' ⟨rfl, rfl⟩
      exact wpS_pure (h _ hD.1 hD.2.1 hD.2.2.2)
end

theorem rst_StabK : True := by
  w_top off
  trivial
/-- what a stable sort by int keys leaves -/
noncomputable def StabOut (ρ : Value → Nat) (kz : List Int) (vs : List Value) (out : Array Value) : Prop :=
  ∃ (keys : Array Value) (xs : Array Keyed), PyProof.Rows.IntsAre keys.toList kz ∧ xs.Perm (keys.zip vs.toArray) ∧ UpA (fun p => ρ p.2) xs xs.size ∧ out = xs.map (·.2)
section
variable {prog : Program} {w : World} {A : Around} {E : Value → Shared → Prop} {s : Shared} {h₀ : Heap} {L : Addr} {m : Str → Option Value} {news : Led} {a kS : Addr} {vs : List Value} {kz : List Int} {keys : Array Value} {e e1 : Nat} {P : PySem.Fin → Shared → Prop} {ρ : Value → Nat}
theorem stab_tail {st : SortSt} (F : Fr h₀ L s.heap m) (N : News h₀ L s.heap (news ++ [(kS, seqObj "list" keys e), (a, seqObj "list" #[] e1)])) (hka : kS ≠ a) (hnk : ∀ p ∈ news, p.1 ≠ kS) (hna : ∀ p ∈ news, p.1 ≠ a)
    (hks : keys.size = vs.length) (h64 : vs.length < 64) (hp : (arrOf st).Perm (keys.zip vs.toArray)) (hfl : failedOf st = none)
    (h : ∀ h' tk c, Fr h₀ L h' m → News h₀ L h' ((a, seqObj "list" ((arrOf st).map (·.2)) c) :: news) → P (.done (.ret .none)) { s with heap := h', toks := tk }) :
    wpAny (model prog w) A (ksk_tail a false e1 (.ref kS) st) P E s := by
  have nk := N (kS, seqObj "list" keys e) (List.mem_append_right _ (.head _))
  have na := N (a, seqObj "list" #[] e1) (List.mem_append_right _ (.tail _ (.head _)))
  have hsz : ((arrOf st).map (·.2)).size = vs.length := by rw [Array.size_map, hp.size_eq, Array.size_zip, hks, List.size_toArray, Nat.min_self]
  have s1 := Heap.SameBut.update s.heap kS (Obj.mapSeq fun _ => (#[] : Array Value))
  have na1 : (s.heap.update kS (Obj.mapSeq fun _ => (#[] : Array Value))).get? a = some (seqObj "list" #[] e1) := (s1.2 a hka.symm).trans na.1
  have s2 := Heap.SameBut.update (s.heap.update kS (Obj.mapSeq fun _ => (#[] : Array Value))) a (Obj.mapSeq fun _ => (arrOf st).map (·.2))
  obtain ⟨c2, hc2⟩ : ∃ c2, ((s.heap.update kS (Obj.mapSeq fun _ => (#[] : Array Value))).update a (Obj.mapSeq fun _ => (arrOf st).map (·.2))).get? a = some (seqObj "list" ((arrOf st).map (·.2)) c2) := ⟨_, get?_update_seq na1 fun _ => (arrOf st).map (·.2)⟩
  have N2 := ksk_news (ksk_news (fun p hp => N p (List.mem_append_left _ hp)) s1 hnk) s2 hna
  unfold ksk_tail
  dsimp only
  refine wpAny_bind (listUpdate_at nk.1 rfl ?_ (by rw [hks, sizeLine_eq]; exact oq186 hks h64 hsz) (Nat.zero_le _))
  refine wpAny_bind (wpAny_letGo ?_)
  refine wpAny_bind (seqEpoch_at na1 rfl ?_)
  refine wpAny_bind (listUpdate_at na1 rfl ?_ (Nat.zero_le _) (Nat.le_trans (Nat.le_of_eq (by simpa using hsz)) (by rw [sizeLine_eq]; exact oq187 hks h64 hsz)))
  rw [hfl]
  simp only [bne_self_eq_false, Bool.false_eq_true, if_false]
  refine wpAny_pure (h _ _ c2 (ksk_fr (ksk_fr F s1 nk.2.1 nk.2.2) s2 na.2.1 na.2.2) fun p hp => ?_)
  rcases List.mem_cons.mp hp with rfl | hp
  · exact ⟨hc2, na.2⟩
  · exact N2 p hp
theorem stab_end (F : Fr h₀ L s.heap m) (N : News h₀ L s.heap (news ++ [(kS, seqObj "list" keys e), (a, seqObj "list" #[] e1)])) (hka : kS ≠ a) (hnk : ∀ p ∈ news, p.1 ≠ kS) (hna : ∀ p ∈ news, p.1 ≠ a)
    (hk : PyProof.Rows.IntsAre keys.toList kz) (hlen : kz.length = vs.length) (h64 : vs.length < 64) (hρ : ∀ i v, vs[i]? = some v → ρ v = i)
    (h : ∀ h' tk out c, Fr h₀ L h' m → News h₀ L h' ((a, seqObj "list" out c) :: news) → StabOut ρ kz vs out → P (.done (.ret .none)) { s with heap := h', toks := tk }) :
    wpAny (model prog w) A (ksk_end a false vs.toArray e1 (.ref kS) keys) P E s := by
  have hsz : keys.size = vs.length := by
    have h1 := hk.length
    rw [Array.length_toList] at h1
    exact Eq.trans h1 hlen
  have hzs : (keys.zip vs.toArray).size = vs.length := by rw [Array.size_zip, hsz, List.size_toArray, Nat.min_self]
  have hR : ∀ i, Rk (fun p : Keyed => ρ p.2) (keys.zip vs.toArray) i = i := fun i => by
    unfold Rk
    cases hp : (keys.zip vs.toArray)[i]? with
    | none => rfl
    | some p =>
      obtain ⟨x, y⟩ := p
      have hi := (Array.getElem?_eq_some_iff.mp hp).1
      have h1 := (Array.getElem?_eq_some_iff.mp hp).2
      rw [Array.getElem_zip] at h1
      have hi2 : i < vs.length := by exact oq188 hsz hzs hi
      refine hρ i y ?_
      rw [List.getElem?_eq_getElem hi2]
      have := (Prod.mk.inj h1).2
      simpa using this
  unfold ksk_end
  simp only [Bool.false_eq_true, if_false]
  by_cases h2 : vs.toArray.size < 2
  · rw [if_pos h2, if_pos h2]
    refine wpAny_bind (wpAny_pure ?_)
    rw [StateT.run_pure]
    refine wpAny_bind (wpAny_pure ?_)
    dsimp only
    refine stab_tail (st := SortSt.mk' general' (keys.zip vs.toArray) #[] 7 none) F N hka hnk hna hsz h64 (Array.Perm.refl _) rfl fun h' tk c F' N' => h h' tk _ c F' N' ⟨keys, _, hk, Array.Perm.refl _, ?_, rfl⟩
    intro i j hij hj
    rw [List.size_toArray] at h2
    have : j < vs.length := by rw [← hzs]; exact hj
    omega
  · rw [if_neg h2, if_neg h2]
    rw [List.size_toArray] at h2
    rw [ksk_kind hk (by rw [hsz]; exact oq189 hlen h64 hsz hzs h2)]
    refine wpAny_bind (wpAny_pure ?_)
    refine wpAny_bind (wpAny_mono (sortRunsS (ρ := fun p => ρ p.2) (a₀ := keys.zip vs.toArray) (st := SortSt.mk' oneType' (keys.zip vs.toArray) #[] 7 none)
      (Q := fun _ st' => (arrOf st').Perm (keys.zip vs.toArray) ∧ failedOf st' = none ∧ UpA (fun p => ρ p.2) (arrOf st') (keys.zip vs.toArray).size)
      (ksk_intKeys hk) ⟨Array.Perm.refl _, rfl, rfl, rfl⟩ ⟨fun i _ => hR i, fun i hi => by show Rk _ (keys.zip vs.toArray) i < 1; rw [hR]; exact hi⟩ (by rw [hzs]; exact oq189 hlen h64 hsz hzs h2) (by rw [hzs]; exact h64) fun st' a1 a2 a3 => ⟨a1, a2, a3⟩) ?_ fun _ _ e => e)
    rintro ⟨⟨⟩, st'⟩ s' ⟨rfl, hp, hf, hs⟩
    dsimp only
    exact stab_tail F N hka hnk hna hsz h64 hp hf fun h' tk c F' N' => h h' tk _ c F' N' ⟨keys, _, hk, hp, by rw [hp.size_eq]; exact hs, rfl⟩
theorem stab_rest {f : Value} (F : Fr h₀ L s.heap m) (N : News h₀ L s.heap (news ++ [(kS, seqObj "list" #[] 0), (a, seqObj "list" #[] e1)])) (hka : kS ≠ a) (hnk : ∀ p ∈ news, p.1 ≠ kS) (hna : ∀ p ∈ news, p.1 ≠ a)
    (hlen : kz.length = vs.length) (h64 : vs.length < 64) (hρ : ∀ i v, vs[i]? = some v → ρ v = i)
    (turn : ∀ (i : Nat) (v : Value) (k : Int), vs[i]? = some v → kz[i]? = some k → ∀ (h : Heap) (tk : Nat) (own : Led), Fr h₀ L h m → News h₀ L h (news ++ own) →
      wpAny (model prog w) A (call f [v]) (KskEnd h₀ L m (news ++ own) k { s with heap := h, toks := tk }) (fun _ _ => False) { s with heap := h, toks := tk })
    (h : ∀ h' tk out c, Fr h₀ L h' m → News h₀ L h' ((a, seqObj "list" out c) :: news) → StabOut ρ kz vs out → P (.done (.ret .none)) { s with heap := h', toks := tk }) :
    wpAny (model prog w) A (ksk_rest a f false vs.toArray e1 (.ref kS)) P E s := by
  unfold ksk_rest
  refine wpAny_bind (wpAny_rule ?_)
  rw [List.forIn_toArray]
  refine wpAny_bind (ksk_fold (fun i s' => ∃ h' tk kA e, s' = { s with heap := h', toks := tk } ∧ Fr h₀ L h' m ∧ News h₀ L h' (news ++ [(kS, seqObj "list" kA e), (a, seqObj "list" #[] e1)]) ∧ PyProof.Rows.IntsAre kA.toList (kz.take i)) vs 0 s
    ⟨s.heap, s.toks, #[], 0, rfl, F, N, by simpa using PyProof.Rows.IntsAre.nil⟩ ?step ?done)
  case step =>
    rintro j x s' hx ⟨h', tk, kA, e, rfl, F', N', hk⟩
    simp only [Nat.zero_add] at hk ⊢
    have hj : j < vs.length := (List.getElem?_eq_some_iff.mp hx).1
    obtain ⟨k, hkj⟩ : ∃ k, kz[j]? = some k := ⟨_, List.getElem?_eq_getElem (by exact oq105 hlen hj)⟩
    have hz : kA.size ≤ vs.length := by
      have h1 := hk.length
      rw [Array.length_toList, List.length_take] at h1
      exact oq190 hlen hj h1
    refine wpAny_bind (wpAny_attempt (wpAny_mono (turn j x k hx hkj h' tk _ F' N') (fun v s'' he => ?_) fun _ _ hF => hF.elim))
    obtain ⟨g, tk2, t2, rfl, rfl, F2, N2⟩ := he
    dsimp only
    have nk := N2 (kS, seqObj "list" kA e) (List.mem_append_right _ (.head _))
    have na := N2 (a, seqObj "list" #[] e1) (List.mem_append_right _ (.tail _ (.head _)))
    have s1 := Heap.SameBut.update g kS (Obj.mapSeq (·.push (.int k t2)))
    obtain ⟨c2, hc2⟩ : ∃ c2, (g.update kS (Obj.mapSeq (·.push (.int k t2)))).get? kS = some (seqObj "list" (kA.push (.int k t2)) c2) := ⟨_, get?_update_seq nk.1 (·.push (.int k t2))⟩
    have ek : kz.take (j + 1) = kz.take j ++ [k] := by rw [List.take_add_one, hkj]; simp
    refine wpAny_bind (listUpdate_at nk.1 rfl ?_ (by rw [sizeLine_eq]; exact oq191 hlen h64 hz) (Nat.le_trans (Nat.le_of_eq (Array.size_push ..)) (by rw [sizeLine_eq]; exact oq192 hlen h64 hz)))
    refine wpAny_pure ⟨rfl, _, _, kA.push (.int k t2), c2, rfl, ksk_fr F2 s1 nk.2.1 nk.2.2, fun p hp => ?_, by rw [Array.toList_push, ek]; exact ksk_snoc hk⟩
    rcases List.mem_append.mp hp with hp | hp
    · exact ksk_news (fun q hq => N2 q (List.mem_append_left _ hq)) s1 hnk p hp
    · rcases List.mem_cons.mp hp with rfl | hp
      · exact ⟨hc2, nk.2⟩
      · rw [List.mem_singleton.mp hp]
        exact ⟨(s1.2 a hka.symm).trans na.1, na.2⟩
  case done =>
    rintro s' ⟨h', tk, kA, e, rfl, F', N', hk⟩
    rw [show kz.take (0 + vs.length) = kz from List.take_of_length_le (by exact oq193 hlen)] at hk
    have nk := N' (kS, seqObj "list" kA e) (List.mem_append_right _ (.head _))
    try dsimp only
    refine wpAny_bind (listItems_at nk.1 rfl ?_)
    exact stab_end F' N' hka hnk hna hk hlen h64 hρ fun h3 tk3 out c F3 N3 k3 => h h3 tk3 out c F3 N3 k3
theorem stab_sort {f : Value} {n : Nat} (F : Fr h₀ L s.heap m) (N : News h₀ L s.heap news) (ho : s.heap.get? a = some (seqObj "list" vs.toArray n)) (haL : a ≠ L) (ha0 : h₀.get? a = none) (hna : ∀ p ∈ news, p.1 ≠ a)
    (hlen : kz.length = vs.length) (h64 : vs.length < 64) (hρ : ∀ i v, vs[i]? = some v → ρ v = i)
    (turn : ∀ (i : Nat) (v : Value) (k : Int), vs[i]? = some v → kz[i]? = some k → ∀ (h : Heap) (tk : Nat) (own : Led), Fr h₀ L h m → News h₀ L h (news ++ own) →
      wpAny (model prog w) A (call f [v]) (KskEnd h₀ L m (news ++ own) k { s with heap := h, toks := tk }) (fun _ _ => False) { s with heap := h, toks := tk })
    (h : ∀ h' tk out c, Fr h₀ L h' m → News h₀ L h' ((a, seqObj "list" out c) :: news) → StabOut ρ kz vs out → P (.done (.ret .none)) { s with heap := h', toks := tk }) :
    wpAny (model prog w) A (ksk_tree a f false) P E s := by
  have ha : a < s.heap.objs.size := Heap.lt_size ho
  have s1 := Heap.SameBut.update s.heap a (Obj.mapSeq fun _ => (#[] : Array Value))
  obtain ⟨e1, ho1⟩ : ∃ e1, (s.heap.update a (Obj.mapSeq fun _ => (#[] : Array Value))).get? a = some (seqObj "list" #[] e1) := ⟨_, get?_update_seq ho fun _ => #[]⟩
  have F1 := ksk_fr F s1 haL ha0
  have N1 := ksk_news N s1 hna
  have hkS : ((s.heap.update a (Obj.mapSeq fun _ => (#[] : Array Value))).push (seqObj "tuple" vs.toArray 0)).objs.size = s.heap.objs.size + 1 := by rw [size_push', Heap.size_update]
  have hLk := (F1.push (seqObj "tuple" vs.toArray 0)).ns.lt
  unfold ksk_tree
  refine wpAny_bind (listItems_at ho rfl ?_)
  refine wpAny_bind (listUpdate_at ho rfl ?_ (by rw [List.size_toArray, sizeLine_eq]; exact oq194 hlen h64) (Nat.zero_le _))
  refine wpAny_bind (seqEpoch_at ho1 rfl ?_)
  refine wpAny_bind (wpAny_newTuple ?_ (by show vs.length ≤ _; rw [sizeLine_eq]; exact oq194 hlen h64))
  refine wpAny_bind (wpAny_newList ?_ (Nat.zero_le _))
  refine wpAny_holding ?_
  refine stab_rest (s := { s with heap := ((s.heap.update a (Obj.mapSeq fun _ => (#[] : Array Value))).push (seqObj "tuple" vs.toArray 0)).push (seqObj "list" #[] 0) }) (kS := ((s.heap.update a (Obj.mapSeq fun _ => (#[] : Array Value))).push (seqObj "tuple" vs.toArray 0)).objs.size)
    ((F1.push _).push _) (fun p hp => ?_) (by rw [hkS]; exact Nat.ne_of_gt (Nat.lt_succ_of_lt ha)) (fun p hp => by rw [hkS]; exact Nat.ne_of_lt (Nat.lt_succ_of_lt (Heap.lt_size (N p hp).1))) hna hlen h64 hρ turn h
  rcases List.mem_append.mp hp with hp | hp
  · exact ⟨Heap.get?_push_of_some _ (Heap.get?_push_of_some _ (N1 p hp).1), (N1 p hp).2⟩
  · rcases List.mem_cons.mp hp with rfl | hp
    · exact ⟨Heap.get?_push_size _ rfl, Nat.ne_of_gt hLk, Heap.get?_none_of_le (Nat.le_trans F.above (Nat.le_of_lt hLk))⟩
    · rw [List.mem_singleton.mp hp]
      exact ⟨Heap.get?_push_of_some _ (Heap.get?_push_of_some _ ho1), haL, ha0⟩
theorem stab_sorted {l q : Addr} {Q : Value → Shared → Prop} (F : Fr h₀ L s.heap m) (N : News h₀ L s.heap news) (hl : s.heap.IsList l vs.toArray) (hlen : kz.length = vs.length) (h64 : vs.length < 64) (hρ : ∀ i v, vs[i]? = some v → ρ v = i)
    (turn : ∀ (i : Nat) (v : Value) (k : Int), vs[i]? = some v → kz[i]? = some k → ∀ (h : Heap) (tk : Nat) (own : Led), Fr h₀ L h m → News h₀ L h (news ++ own) →
      wpAny (model prog w) A.in1.in1 (call (.ref q) [v]) (KskEnd h₀ L m (news ++ own) k { s with heap := h, toks := tk }) (fun _ _ => False) { s with heap := h, toks := tk })
    (h : ∀ D h' tk out c, Fr h₀ L h' m → News h₀ L h' ((D, seqObj "list" out c) :: news) → (∀ q ∈ news, q.1 < D) → StabOut ρ kz vs out → Q (.ref D) { s with heap := h', toks := tk }) :
    wpAny (model prog w) A (call (.builtin "sorted") [.ref l] [(Str.ofString "key", .ref q)]) Q E s := by
  refine call_function_entry_kw kind_sorted plain_sorted entry_sorted (ksk_s1 _ _) ?_
  unfold Builtin.«sorted»
  refine wpAny_bind (m := checkCount "sorted" 1 1 _) (wpAny_pure ?_)
  refine wpAny_bind (collect_list hl ?_ (by rw [sizeLine_eq]; exact oq194 hlen h64))
  refine wpAny_bind (wpAny_newList ?_ (by rw [sizeLine_eq]; exact oq194 hlen h64))
  have hsz : ((s.heap.push (seqObj "list" #[] 0)).update s.heap.objs.size (Obj.mapSeq (· ++ vs.toArray))).objs.size = s.heap.objs.size + 1 := by
    rw [Heap.size_update, size_push']
  have hoL : (((s.heap.push (seqObj "list" #[] 0)).update s.heap.objs.size (Obj.mapSeq (· ++ vs.toArray))).push (seqObj "list" vs.toArray 0)).get? (s.heap.objs.size + 1) = some (seqObj "list" vs.toArray 0) := by
    rw [← hsz]; exact Heap.get?_push_size _ rfl
  have keep : ∀ b o, s.heap.get? b = some o → (((s.heap.push (seqObj "list" #[] 0)).update s.heap.objs.size (Obj.mapSeq (· ++ vs.toArray))).push (seqObj "list" vs.toArray 0)).get? b = some o := fun b o q => by
    have hlt : b < s.heap.objs.size := Heap.lt_size q
    rw [Heap.get?_push_ne _ _ _ (by rw [hsz]; exact Nat.ne_of_lt (Nat.lt_succ_of_lt hlt)), Heap.get?_update_ne _ _ _ _ (Nat.ne_of_lt hlt), Heap.get?_push_ne _ _ _ (Nat.ne_of_lt hlt)]
    exact q
  have hL : L < s.heap.objs.size := F.ns.lt
  show wpAny _ _ _ _ _ { s with heap := ((s.heap.push (seqObj "list" #[] 0)).update s.heap.objs.size (Obj.mapSeq (· ++ vs.toArray))).push (seqObj "list" vs.toArray 0) }
  rw [hsz]
  refine wpAny_bind (wpAny_holding (wpAny_call_entry_kw slot_list_sort ⟨_, hoL, rfl⟩ entry_list_sort ?body (ksk_l1 _ _)))
  case body =>
    show wpAny (model prog w) A.in1.in1 (Builtin.«list.sort» ⟨[.ref (s.heap.objs.size + 1)], _⟩) _ _ _
    rw [ksk_t1]
    refine stab_sort (s := { s with heap := ((s.heap.push (seqObj "list" #[] 0)).update s.heap.objs.size (Obj.mapSeq (· ++ vs.toArray))).push (seqObj "list" vs.toArray 0) })
      (F.kept keep) (N.grown keep) hoL (Nat.ne_of_gt (Nat.lt_succ_of_lt hL)) (Heap.get?_none_of_le (Nat.le_trans F.above (Nat.le_succ_of_le (Nat.le_of_lt hL))))
      (fun p hp => Nat.ne_of_lt (Nat.lt_succ_of_lt (Heap.lt_size (N p hp).1))) hlen h64 hρ turn fun h' tk out c F' N' k' => ⟨_, rfl, ?_⟩
    exact wpAny_pure ⟨_, rfl, h _ h' tk out c F' N' (fun q hq => Nat.lt_succ_of_lt (Heap.lt_size (N q hq).1)) k'⟩
end

theorem rst_LamK : True := by
  w_top off
  trivial
/-- the table of a def's inner code, with or without the one lambda's code -/
noncomputable def LamTab (led : Led) (P : Addr) (pos : Pos) (qual : Str) : Prop :=
  (P, tabObj #[]) ∈ led ∨ ∃ c' oc vs t, (P, tabObj #[rawInt pos.line, rawInt pos.col, .ref c']) ∈ led ∧ (c', oc) ∈ led ∧ oc.data = .fields vs ∧ vs[1]? = some (.str qual t)
theorem updFOf {l : Led} {a : Addr} {o : Obj} (h : NDL l) (hm : (a, o) ∈ l) : UpdF a o l (upd l a) := by
  induction l with
  | nil => cases hm
  | cons p r ih =>
    unfold NDL at h; rw [List.map_cons, List.nodup_cons] at h
    rcases List.mem_cons.mp hm with e | hm
    · subst e
      have hr : ∀ q ∈ r, q.1 ≠ a := fun q hq e => h.1 (List.mem_map.mpr ⟨q, hq, e⟩)
      have : upd ((a, o) :: r) a = fun o' => (a, o') :: r := by
        funext o'
        show (if (a, o).1 = a then (a, o') else (a, o)) :: upd r a o' = _
        rw [if_pos rfl, upd_of_notMem hr]
      rw [this]; exact .head hr
    · have hp : p.1 ≠ a := fun e => h.1 (e ▸ List.mem_map_of_mem (f := (·.1)) hm)
      have : upd (p :: r) a = fun o' => p :: upd r a o' := by
        funext o'
        show (if p.1 = a then (a, o') else p) :: upd r a o' = _
        rw [if_neg hp]
      rw [this]; exact .tail hp (ih h.2 hm)
section
variable {M : Model} {A : Around} {E : Value → Shared → Prop} {s : Shared} {h₀ : Heap} {L a c P : Addr} {m mg mb : Str → Option Value} {cn : Str} {cs : Scope} {ccd : Value} {cl : List (Str × Addr)} {led : Led}
  {p : Program} {loose : List Str} {mean : ExcName → Option Value} {name qual : Str} {params : Arguments} {body : Expr} {scope : Scope} {pos : Pos} {firstLine : Nat} {clos : List (Str × Addr)}
theorem lam_make {Q : Value → Shared → Prop} (F : Fr h₀ L s.heap m) (N : News h₀ L s.heap led) (ND : NDL led) (T : Top p loose mean mg mb h₀) (C : CodeHd h₀ c P) (hcd : ccd = .ref c) (hT : LamTab led P pos qual)
    (hcl : closureFor scope (envX cn cs L a ccd cl) = pure clos)
    (h : ∀ f c' oc vs t pm ctv h' tk led', Fr h₀ L h' m → News h₀ L h' led' → NDL led' → (f, kla_obj name qual params body scope clos pm c' ctv) ∈ led' → (c', oc) ∈ led' → oc.data = .fields vs → vs[1]? = some (.str qual t) →
      LamTab led' P pos qual → Keep [P] led led' → (∀ q ∈ led, q.1 < f) → Q (.ref f) { s with heap := h', toks := tk }) :
    wpAny M A (makeFunction name qual params (.expr body) scope (envX cn cs L a ccd cl) [] [] [] pos firstLine) Q E s := by
  rcases hT with hm | ⟨c', oc, vs, t, hm, hc, hd, hv⟩
  · refine kla_nest F N T C hcd (updFOf ND hm) True.intro rfl hcl fun f c' oc vs t ctv h' tk F' N' hd hv l1 l2 => ?_
    have hPc : P ≠ c' := Nat.ne_of_lt (l1 _ hm)
    refine h f c' oc vs t _ ctv h' tk _ F' N' ?_ (.head _) (.tail _ (.head _)) hd hv (.inr ⟨c', oc, vs, t, .tail _ (.tail _ (mem_upd_self hm)), .tail _ (.head _), hd, hv⟩) (fun q hq hn => .tail _ (.tail _ (mem_upd_ne hq (by simpa using hn)))) fun q hq => Nat.lt_trans (l1 q hq) l2
    have hk : ∀ q ∈ upd led P (tabObj (#[] ++ #[rawInt pos.line, rawInt pos.col, .ref c'])), q.1 < c' := fun q hq => by
      have hmem : q.1 ∈ led.map (·.1) := upd_keys led P _ ▸ List.mem_map_of_mem (f := (·.1)) hq
      obtain ⟨q', hq', e⟩ := List.mem_map.mp hmem
      rw [← e]; exact l1 q' hq'
    refine (ND.upd.cons hk).cons fun q hq => ?_
    rcases List.mem_cons.mp hq with rfl | hq
    · exact l2
    · exact Nat.lt_trans (hk q hq) l2
  · refine kla_hit (c' := c') F N T C hcd hm ?_ ?_ hcl fun f ctv h' tk F' N' l1 => ?_
    · simp [TriplesOk, rawInt]
    · simp [codeAmong, rawInt]
    exact h f c' oc vs t _ ctv h' tk _ F' N' (ND.cons l1) (.head _) (.tail _ hc) hd hv (.inr ⟨c', oc, vs, t, .tail _ hm, .tail _ hc, hd, hv⟩) (fun q hq _ => .tail _ hq) l1
end
theorem l_index {prog : Program} {w : World} {A : Around} {E : Value → Shared → Prop} {s : Shared} {b : Heap} {L D : Addr} {led : Led} {n : Nat} {vs : List Value} {ss : List Str} {k : Str} {t : Tok} {Q : Value → Shared → Prop} (N : News b L s.heap led) (M : (D, listOf vs.toArray n) ∈ led) (hv : StrsAre vs ss) (hk : k ∈ ss) (hz : ss.length < 64)
    (h : Q (.int (ss.idxOf k : Nat) s.toks) { s with toks := s.toks + 1 }) : wpAny (model prog w) A (call (.builtin "list.index") [.ref D, .str k t]) Q E s := by
  have ho := (N _ M).1
  have hlen := hv.length
  have hj : ss.idxOf k < ss.length := List.idxOf_lt_length_iff.mpr hk
  have hat : ∀ (i : Nat) (hi : i < vs.toArray.size) (hi2 : i < ss.length), isStrOf k vs.toArray[i] = (ss[i] == k) := fun i hi hi2 => by
    obtain ⟨u, hu⟩ := hv.get (List.getElem?_eq_getElem hi2)
    have h1 : vs.toArray[i] = .str ss[i] u := by
      have h2 : i < vs.length := by simpa using hi
      rw [List.getElem?_eq_getElem h2] at hu
      simpa using Option.some.inj hu
    rw [h1]; rfl
  refine call_meets PySem.F.slot_list_index ⟨_, ho, rfl⟩ PySem.F.entry_list_index (PySem.F.args_list_index_2 _ _)
    (MeetsSeq.list_index D vs.toArray n (.str k t) (isStrOf k) (fun y hy => eq_isStrOf k t (strsAre_lib hv) y (by simpa using hy)) (ss.idxOf k) (by simpa [hlen] using hj) (by omega) ?_ ?_) ⟨ho, h⟩
  · rw [hat _ _ hj]
    simpa using List.getElem_idxOf hj
  · intro i hi hlt
    rw [hat _ _ (by exact oq195 hlen hj hlt)]
    rw [List.idxOf] at hlt
    have := List.not_of_lt_findIdx hlt
    simpa using this
noncomputable def Lx (key : Str → Nat) (ss : List Str) (a c : Str) : Prop := key a < key c ∨ (key a = key c ∧ ss.idxOf a < ss.idxOf c)
noncomputable def plS (ss : List Str) (v : Value) : Nat := ss.idxOf ((sv v).getD (Str.ofString ""))
theorem stab_strs {key : Str → Nat} {ss : List Str} {vs : List Value} {out : Array Value} (hv : StrsAre vs ss) (h : StabOut (plS ss) (ss.map fun x => (key x : Int)) vs out) :
    ∃ os, StrsAre out.toList os ∧ os.Perm ss ∧ os.Pairwise (Lx key ss) := by
  obtain ⟨keys, xs, hk, hp, hs, rfl⟩ := h
  have hpl : xs.toList.Perm (keys.toList.zip vs) := by rw [← ksk_zip]; exact Array.perm_iff_toList_perm.mp hp
  have hmem : ∀ p ∈ xs.toList, ∃ x t, p.2 = .str x t ∧ numOf p.1 = key x := fun p hm => by
    obtain ⟨i, hi, e⟩ := List.mem_iff_getElem.mp (hpl.mem_iff.mp hm)
    rw [List.getElem_zip] at e
    subst e
    simp only [List.length_zip] at hi
    have h1 : i < ss.length := by have := hv.length; exact oq196 hi this
    obtain ⟨t, ht⟩ := hv.get (List.getElem?_eq_getElem h1)
    obtain ⟨u, hu⟩ := hk.get i (key ss[i] : Int) (by rw [List.getElem?_map, List.getElem?_eq_getElem h1]; rfl)
    have h2 : i < vs.length := by exact oq197 hi
    have h3 : i < keys.toList.length := by exact oq198 hi h2
    rw [List.getElem?_eq_getElem h2] at ht
    rw [List.getElem?_eq_getElem h3] at hu
    refine ⟨ss[i], t, by simpa using Option.some.inj ht, ?_⟩
    have := Option.some.inj hu
    simp only [this]; rfl
  have hlen : keys.toList.length = vs.length := by have h1 := hk.length; rw [List.length_map] at h1; have := hv.length; exact oq199 h1 this
  refine ⟨xs.toList.map fun p => (sv p.2).getD (Str.ofString ""), ?_, ?_, ?_⟩
  · unfold StrsAre
    rw [Array.toList_map, List.map_map, List.map_map]
    exact List.map_congr_left fun p hm => by
      obtain ⟨x, t, e, _⟩ := hmem p hm
      simp [e, sv]
  · refine (hpl.map _).trans (.of_eq ?_)
    have h1 : (keys.toList.zip vs).map (fun p => (sv p.2).getD (Str.ofString "")) = ((keys.toList.zip vs).map Prod.snd).map fun v => (sv v).getD (Str.ofString "") := by rw [List.map_map]; rfl
    rw [h1, List.map_snd_zip (by exact oq16 hlen)]
    have h2 : vs.map (fun v => (sv v).getD (Str.ofString "")) = (vs.map sv).map fun o => o.getD (Str.ofString "") := by rw [List.map_map]; rfl
    have h3 : vs.map sv = ss.map some := hv
    rw [h2, h3, List.map_map]
    exact List.map_id _
  · rw [List.pairwise_map, List.pairwise_iff_getElem]
    intro i j hi hj hij
    obtain ⟨x, t, e1, e2⟩ := hmem _ (List.getElem_mem hi)
    obtain ⟨y, u, e3, e4⟩ := hmem _ (List.getElem_mem hj)
    have h := hs i j hij (by simpa using hj)
    have hi' : i < xs.size := by simpa using hi
    have hj' : j < xs.size := by simpa using hj
    unfold Ls at h
    rw [K_eq hi', K_eq hj'] at h
    unfold Rk at h
    rw [getElem?_pos xs i hi', getElem?_pos xs j hj'] at h
    simp only [Array.getElem_toList] at e1 e2 e3 e4 ⊢
    rw [e2, e4] at h
    simp only [e1, e3, plS, sv, Option.getD_some] at h ⊢
    unfold Lx
    exact oq200 hi hj h
theorem sort_strs {prog : Program} {w : World} {A : Around} {E : Value → Shared → Prop} {s : Shared} {h₀ : Heap} {L : Addr} {m : Str → Option Value} {news : Led} {vs : List Value} {l q : Addr} {ss : List Str} {key : Str → Nat} {Q : Value → Shared → Prop}
    (F : Fr h₀ L s.heap m) (N : News h₀ L s.heap news) (hl : s.heap.IsList l vs.toArray) (hv : StrsAre vs ss) (hnd : ss.Nodup) (h64 : ss.length < 64)
    (turn : ∀ (x : Str) (t : Tok), x ∈ ss → ∀ (h : Heap) (tk : Nat) (own : Led), Fr h₀ L h m → News h₀ L h (news ++ own) →
      wpAny (model prog w) A.in1.in1 (call (.ref q) [.str x t]) (KskEnd h₀ L m (news ++ own) (key x) { s with heap := h, toks := tk }) (fun _ _ => False) { s with heap := h, toks := tk })
    (h : ∀ D h' tk out c os, Fr h₀ L h' m → News h₀ L h' ((D, listOf out c) :: news) → (∀ q ∈ news, q.1 < D) → StrsAre out.toList os → os.Perm ss → os.Pairwise (Lx key ss) → Q (.ref D) { s with heap := h', toks := tk }) :
    wpAny (model prog w) A (call (.builtin "sorted") [.ref l] [(Str.ofString "key", .ref q)]) Q E s := by
  have hvl := hv.length
  refine stab_sorted (kz := ss.map fun x => (key x : Int)) (ρ := plS ss) F N hl (by rw [List.length_map]; exact Eq.symm hvl) (by exact oq201 h64 hvl) (fun i v hi => ?_) (fun i v k hi hk h tk own F' N' => ?_) fun D h' tk out c F' N' l1 ko => ?_
  · obtain ⟨x, t, hx, rfl⟩ := hv.get' hi
    have hil := (List.getElem?_eq_some_iff.mp hx).1
    have hxe := (List.getElem?_eq_some_iff.mp hx).2
    show ss.idxOf x = i
    rw [← hxe]; exact List.Nodup.idxOf_getElem hnd i hil
  · obtain ⟨x, t, hx, rfl⟩ := hv.get' hi
    rw [List.getElem?_map, hx] at hk
    cases hk
    exact turn x t (List.mem_of_getElem? hx) h tk own F' N'
  · obtain ⟨os, h1, h2, h3⟩ := stab_strs hv ko
    exact h D h' tk out c os F' N' l1 h1 h2 h3

theorem rst_SPrep : True := by
  w_top off
  trivial
theorem lines_21 : True := by
  k_with "getMethod ref" => (((with_reducible show wpAny _ _ (getMethod (Value.ref _) (Str.ofString "values") _) _ _ _); with_reducible refine d_valM (by assumption) (by walk_at "di") ?_))
  k_with "call builtin:dict.values" => ((refine d_values (by assumption) (by assumption) (by walk_at "di") ?_; intro _ _ _ _ _))
  k_with "getMethod ref" => (((with_reducible show wpAny _ _ (getMethod (Value.ref _) (Str.ofString "_find_cycle") _) _ _ _); with_reducible refine so_meth (by assumption) (by assumption) (by assumption) (by walk_at "so") (by k_is) (by k_is) (by k_is) (by decide) ?_))
  k_with "call ref" => (((with_reducible show wpAny _ _ (call (Value.ref 139) _) _ _ _); refine halt ?_))
  k_with "leaving ref" => ((refine halt ?_))
  trivial
noncomputable def readyOf (l : List NV) : List Str := (l.filter fun n => n.2.1 = 0).map (·.1)
theorem StrsAre.snocL {zs : List Value} {xs : List Str} {x : Str} (h : StrsAre zs (xs ++ [x])) : ∃ zs0 t, zs = zs0 ++ [.str x t] := by
  have hl := h.length
  rcases List.eq_nil_or_concat zs with rfl | ⟨zs0, z, rfl⟩
  · simp at hl
  · have hz : zs0.length = xs.length := by simp at hl; exact hl
    obtain ⟨t, ht⟩ := h.get (i := xs.length) (s := x) (by simp)
    rw [List.concat_eq_append, ← hz] at ht
    simp at ht
    exact ⟨zs0, t, by rw [List.concat_eq_append, ht]⟩
theorem prepare_ok (w : World) {x dx d2 : Addr} {np nf : Int} {nds : List Nd} {t : Str → Option Str} {Cyc : Str → Prop} (hsz : nds.length ≤ 900) (hsc : SuccLe 900 (nv nds))
    (hG1 : ∀ nd ∈ nds, ∀ s ∈ nd.succ, t s = some nd.name ∧ s ∈ nds.map (·.name)) (hG2 : ∀ nd ∈ nds, (∀ s ∈ nd.succ, ¬ Cyc s) → ¬ Cyc nd.name) (hT : ∀ a b, t a = some b → b ∈ nds.map (·.name))
    (p : Program) (loose : List Str) (mean : ExcName → Option Value) (mg mb : Str → Option Value) (A : Around) (l : List Env) (g : Heap) (s : Shared) (frs led0 : Led) (R : Result → Shared → Prop) :
    A.handled = none → A.frames = some l → A.depth + 5 < recursionLimit → A.units + 16 * 5 < cLine →
    TI.Frs l frs → g.StaysIn s.heap → g.objs.size ≤ s.heap.objs.size → (hd.heap_1 w.params).In g → Top p loose mean mg mb g → NewsG g s.heap (led0 ++ frs) → NDL (led0 ++ frs) → (SorterIn led0 x dx d2 .none np nf ∧ NodesIn w led0 d2 nds) →
    (∀ h' tk' led' frs' r, TI.SameUp frs frs' → g.StaysIn h' → NewsG g h' (led' ++ frs') → NDL (led' ++ frs') → SorterIn led' x dx d2 (.ref r) np nf → NodesIn w led' d2 nds → StrL led' r (readyOf (nv nds)) → Keep [dx] led0 led' → (∀ q ∈ led0, q.1 ≠ r) → (∀ y ∈ nds.map (·.name), ¬ Cyc y) → R (.ok (.ret .none)) { s with heap := h', toks := tk' }) →
    (∀ e h' tk' led' r, FlyT g l frs led' e 67 h' → SorterIn led' x dx d2 (.ref r) np nf → NodesIn w led' d2 nds → StrL led' r (readyOf (nv nds)) → Keep [dx] led0 led' → (∀ q ∈ led0, q.1 ≠ r) →
      (∃ (i : Nat) (y : Str) (c : List Str), (nds.map (·.name))[i]? = some y ∧ c.Nodup ∧ c[0]? = some y ∧ Lnk t (c ++ [y])) → R (.error (.ref e)) { s with heap := h', toks := tk' }) →
    codeAny (model P w) A (.call (.ref 104) ⟨[.ref x], []⟩) R s := by
  intro hh hA hd hu Fs st hsg X T N ND hpre hret herr
  obtain ⟨HS0, HN0⟩ := hpre
  walk_at "enterT"
  rename_i L' h' F' N' lt0
  have NDf : NDL frs := by unfold NDL at ND ⊢; rw [List.map_append, List.nodup_append] at ND; exact ND.2.1
  generalize hled : led0 ++ frs = led at N' ND lt0
  have hsub0 : ∀ q ∈ led0, q ∈ led := fun q hq => hled ▸ List.mem_append_left _ hq
  have hfrs0 : FrmIn frs led := .self fun q hq => hled ▸ List.mem_append_right _ hq
  have HS := HS0.mono hsub0
  have HN := HN0.mono hsub0
  have D1 := HN.1
  k_steps
  unfold Halt
  rename_i V h5 F5 N5 l5
  obtain ⟨lo, o2, Md2, hD2⟩ := HN.1
  have ND5 := ND.cons (o := { cls := .type "dict_values", data := .fields #[.ref d2] }) l5
  refine comp_src (src_values hh F5 N5 (.head _) (.tail _ Md2) hD2) ND5 (by intro q hq; rw [List.mem_singleton.mp hq]; exact .tail _ Md2) (by decide) rfl (by rw [sizeLine_eq]; simp [nkv]; exact oq31 hsz)
    (fun i ys led₁ => StrsAre ys (readyOf ((nv nds).take i)) ∧ ∀ q ∈ led, q ∈ led₁) ⟨by simpa [readyOf] using StrsAre.nil, fun q hq => .tail _ hq⟩ ?_ ?_
  · rintro i v ys led₁ h6 tk6 I oI ic D C oC mC hi p1x0 p1x1 hyl hcI hic hnC ND6 _ F6 N6
    refine fresh_goal fun G1 hG1 => ?_
    obtain ⟨kk, hkv⟩ := p1x0
    obtain ⟨hys, hsub⟩ := p1x1
    obtain ⟨nd, hnd, rfl⟩ : ∃ nd, nds[i]? = some nd ∧ v = .ref nd.at_ := by
      simp only [nkv, List.getElem?_map, Option.map_eq_some_iff] at hkv
      obtain ⟨nd, h1, h2⟩ := hkv
      exact ⟨nd, h1, (Prod.mk.inj h2).2.symm⟩
    have hnm := List.mem_of_getElem? hnd
    obtain ⟨⟨⟨a1, a2, Mn⟩, _, Mdn⟩, _⟩ := (HN.mono hsub).2.1 nd hnm
    have hCa : nd.at_ ≠ C := ND6.tail.head _ (.tail _ Mn)
    have hCd : nd.dn ≠ C := ND6.tail.head _ (.tail _ Mdn)
    have hrd : readyOf ((nv nds).take (i + 1)) = readyOf ((nv nds).take i) ++ if nd.np = 0 then [nd.name] else [] := by
      have hn : (nv nds)[i]? = some (nd.name, nd.np, nd.succ) := by unfold nv; rw [List.getElem?_map, hnd]; rfl
      unfold readyOf
      rw [List.take_add_one, hn, Option.toList_some, List.filter_append, List.map_append]
      congr 1
      by_cases e : nd.np = 0 <;> simp [e]
    refine hG1 ?_
    clear hG1 G1
    k_steps
    · rename_i h8 oC8 nC8 F8 N8 h0
      refine cEnd0 F8 N8 ND6 nC8 (fun q hq => by rw [List.mem_singleton.mp hq]; exact hsub _ Md2) (fun led' kk => ⟨?_, fun q hq => kk q (hsub q hq)⟩) rfl
      rw [hrd, if_pos h0]; exact hys.push
    · rename_i h8 oC8 nC8 F8 N8 h0
      refine cEnd0 F8 N8 ND6 nC8 (fun q hq => by rw [List.mem_singleton.mp hq]; exact hsub _ Md2) (fun led' kk => ⟨?_, fun q hq => kk q (hsub q hq)⟩) rfl
      rw [hrd, if_neg h0, List.append_nil]; exact hys
  · rintro ys led₁ h6 tk6 D p2x0 ND6 _ F6 N6
    refine fresh_goal fun G2 hG2 => ?_
    obtain ⟨hys, hsub⟩ := p2x0
    have HS6 := (HS.mono hsub).mono (sub_cons (q := (D, lstO ys)) sub_self)
    refine hG2 ?_
    clear hG2 G2
    k_steps
    unfold Halt
    rename_i h7 o7 F7 N7 S7
    have hoff : ∀ q ∈ led0, q.1 ∉ frs.map (·.1) := fun q hq hm => by
      rw [← hled] at ND; unfold NDL at ND; rw [List.map_append, List.nodup_append] at ND
      exact ND.2.2 _ (List.mem_map_of_mem hq) _ hm rfl
    have hDl : ∀ q ∈ led, q.1 ≠ D := fun q hq => ND6.head q (hsub q hq)
    have hdxM : ∃ o, (dx, o) ∈ led0 := by obtain ⟨_, _, t1, t2, t3, t4, t5, t6, k1, k2, k3, k4, n, M2⟩ := HS0; exact ⟨_, M2⟩
    obtain ⟨odx, Mdx⟩ := hdxM
    have hDdx : D ≠ dx := (hDl _ (hsub0 _ Mdx)).symm
    have hys' : StrsAre ys (readyOf (nv nds)) := by
      rw [show (nkv nds).length = (nv nds).length by simp [nkv, nv], List.take_length] at hys; exact hys
    have hsubU : Keep [dx] led (upd ((D, lstO ys) :: led₁) dx o7) := (Keep.cons (fun q hq _ => hsub q hq)).upd (by simp)
    have hfr7 : FrmIn frs (upd ((D, lstO ys) :: led₁) dx o7) := hfrs0.keep hsubU fun q hq hm => by
      rw [List.mem_singleton] at hm
      exact hoff _ Mdx (hm ▸ List.mem_map_of_mem (f := (·.1)) hq)
    have MD7 : (D, lstO ys) ∈ (upd ((D, lstO ys) :: led₁) dx o7) := mem_upd_ne (.head _) hDdx
    have ND7 := ND6.upd (a := dx) (o := o7)
    generalize upd ((D, lstO ys) :: led₁) dx o7 = led7 at *
    have hDf : D ∉ frs.map (·.1) := fun hm => by
      obtain ⟨q, hq, e⟩ := List.mem_map.mp hm
      exact hDl q (hled ▸ List.mem_append_right _ hq) e
    have HSoff : x ∉ frs.map (·.1) ∧ dx ∉ frs.map (·.1) := ⟨hoff _ HS0.1, hoff _ Mdx⟩
    have HNoff : d2 ∉ frs.map (·.1) ∧ ∀ nd ∈ nds, nd.at_ ∉ frs.map (·.1) ∧ nd.lst ∉ frs.map (·.1) ∧ nd.dn ∉ frs.map (·.1) := by
      obtain ⟨⟨_, _, a1, _⟩, a2, _⟩ := HN0
      refine ⟨hoff _ a1, fun nd hn => ?_⟩
      obtain ⟨⟨⟨_, _, b1⟩, ⟨_, _, b2, _⟩, b3⟩, _⟩ := a2 nd hn
      exact ⟨hoff _ b1, hoff _ b2, hoff _ b3⟩
    have HN7 : NodesIn w led7 d2 nds := HN.keep hsubU (by
        obtain ⟨_, hdd, _⟩ := HS0; simpa using hdd) fun nd hn => by
      have := (HN0.2.1 nd hn).1
      have ND0 : NDL led0 := by
        have h := ND; rw [← hled] at h; unfold NDL at h ⊢; rw [List.map_append, List.nodup_append] at h; exact h.1
      obtain ⟨_, _, Mdx0⟩ := HS0.dxMem
      simp only [List.mem_singleton]
      exact ⟨this.at_ne ND0 Mdx0 (by simp), this.list_ne ND0 Mdx0 (by simp), this.dn_dx ND0 HS0⟩
    have hlow : ∀ q ∈ led0, q.1 ≠ D := fun q hq => hDl q (hsub0 q hq)
    refine SpecT.useL (find_cycle_ok w (x := x) (dx := dx) (d2 := d2) (rdy := .ref D) (np := np) (nf := nf) hsz hsc hG1 hG2) hh hA rfl rfl (by exact oq202 hd) (by exact oq203 hu) Fs NDf F7 X N7 ND7 T hfr7 (fun new hn => ⟨S7.keep hn HSoff.1 HSoff.2, HN7.keep hn HNoff.1 HNoff.2⟩) ?_
    intro v h8 tk8 new led8 f8 hn1 hn2 su8 F8 N8 ND8 hf8 ⟨hp1, hcyc⟩
    have k8 : Keep (frs.map (·.1)) led7 led8 := fun q hq hn => hp1 q (hn2 q hq hn)
    have S8 := S7.keep k8 HSoff.1 HSoff.2
    have HN8 := HN7.keep k8 HNoff.1 HNoff.2
    have MD8 := k8 _ MD7 hDf
    have K8 : Keep [dx] led0 led8 := fun q hq hn => k8 _ (hsubU q (hsub0 q hq) hn) (hoff q hq)
    have hend : ∀ dst : Led, (∀ q ∈ led8, q.1 ∉ frs.map (·.1) → q ∈ dst) → SorterIn dst x dx d2 (.ref D) np nf ∧ NodesIn w dst d2 nds ∧ StrL dst D (readyOf (nv nds)) ∧ Keep [dx] led0 dst := fun dst hk =>
      ⟨S8.keep hk HSoff.1 HSoff.2, HN8.keep hk HNoff.1 HNoff.2, ⟨ys, _, hk _ MD8 hDf, hys'⟩, fun q hq hn => hk q (K8 q hq hn) (hoff q hq)⟩
    rcases hcyc with ⟨rfl, hno⟩ | ⟨r, i, y, c, rfl, hrn, ⟨rvs, rn, Mr, hrv⟩, hi, hfst, hnd, hc0, hlnk⟩
    · k_steps
      show R _ _
      rename_i F9 N9
      obtain ⟨S9, HN9, L9, K9⟩ := hend led8 fun q hq _ => hq
      exact hret _ _ led8 f8 D su8 (fun b o e => F9.keep b o e) (fun q hq => ⟨(N9 q hq).1, (N9 q hq).2.2⟩) ND8 S9 HN9 L9 K9 hlow hno
    · obtain ⟨rv0, tz, rfl⟩ : ∃ rv0 tz, rvs = rv0 ++ [.str y tz] := hrv.snocL
      have hcl : rv0.length < 2 ^ 62 := by
        have h1 := hrv.length
        rw [List.length_append, List.length_append, List.length_singleton, List.length_singleton] at h1
        have h2 : c.length ≤ (nds.map (·.name)).length := nodup_len hnd fun z hz => by
          obtain ⟨j, hj⟩ := List.getElem?_of_mem hz
          have hjl := (List.getElem?_eq_some_iff.mp hj).1
          have e1 : (c ++ [y])[j]? = some z := by rw [List.getElem?_append_left hjl]; exact hj
          obtain ⟨z', e2⟩ : ∃ z', (c ++ [y])[j + 1]? = some z' := ⟨_, List.getElem?_eq_getElem (by simp; exact hjl)⟩
          exact hT _ _ (hlnk j z z' e1 e2)
        rw [List.length_map] at h2
        have h3 : rv0.length ≤ 900 := by exact oq204 hsz h1 h2
        exact Nat.lt_of_le_of_lt h3 (by decide)
      have Mr' : (r, listOf (rv0 ++ [Value.str y tz]).toArray rn) ∈ led8 ++ f8 := List.mem_append_left _ Mr
      k_steps
      unfold Halt
      rename_i h9 F9 N9 h10 e hx
      refine leaveL hA Fs NDf hx F9 N9 ND8 hf8 fun h11 new2 hs1 hs2 Fl => ?_
      obtain ⟨S9, HN9, L9, K9⟩ := hend new2 fun q hq hn => hs2 q (List.mem_append_left _ hq) hn
      refine herr e h11 _ new2 D Fl S9 HN9 L9 K9 hlow ⟨i, y, c, hi, hnd, hc0, hlnk⟩


theorem rst_LPrep : True := by
  w_top off
  trivial
theorem lines_22 : True := by
  k_with "getMethod ref" => (((with_reducible show wpAny _ _ (getMethod (Value.ref _) (Str.ofString "prepare") _) _ _ _); with_reducible refine so_meth (by assumption) (by assumption) (by assumption) (by walk_at "so") (by k_is) (by k_is) (by k_is) (by decide) ?_))
  k_with "call ref" => (((with_reducible show wpAny _ _ (call (Value.ref 104) _) _ _ _); refine halt ?_))
  trivial
theorem law_prepared_ok (w : World) {x dx d2 : Addr} {np nf : Int} {nds : List Nd} {t : Str → Option Str} {Cyc : Str → Prop} (hsz : nds.length ≤ 900) (hsc : SuccLe 900 (nv nds))
    (hG1 : ∀ nd ∈ nds, ∀ s ∈ nd.succ, t s = some nd.name ∧ s ∈ nds.map (·.name)) (hG2 : ∀ nd ∈ nds, (∀ s ∈ nd.succ, ¬ Cyc s) → ¬ Cyc nd.name) (hT : ∀ a b, t a = some b → b ∈ nds.map (·.name)) :
    SpecT w 7 201 [.ref x] (fun led => SorterIn led x dx d2 .none np nf ∧ NodesIn w led d2 nds)
      (fun led v led' => ∃ r, SorterIn led' x dx d2 (.ref r) np nf ∧ NodesIn w led' d2 nds ∧ StrL led' r (readyOf (nv nds)) ∧ Keep [dx] led led' ∧ (∀ q ∈ led, q.1 ≠ r) ∧
        ((v = .none ∧ ∀ y ∈ nds.map (·.name), ¬ Cyc y) ∨ ((∃ tk, v = .str (Str.ofString "a ring") tk) ∧ ∃ (i : Nat) (y : Str) (c : List Str), (nds.map (·.name))[i]? = some y ∧ c.Nodup ∧ c[0]? = some y ∧ Lnk t (c ++ [y])))) := by
  intro p loose mean mg mb A l g s frs led0 R hh hA hd hu Fs st hsg X T N ND hpre hret
  obtain ⟨HS0, HN0⟩ := hpre
  walk_at "enterT"
  rename_i L' h' F' N' lt0
  have NDf : NDL frs := by unfold NDL at ND ⊢; rw [List.map_append, List.nodup_append] at ND; exact ND.2.1
  have HS : SorterIn (led0 ++ frs) x dx d2 .none np nf := HS0.mono fun q hq => List.mem_append_left _ hq
  k_steps
  unfold Halt
  obtain ⟨oL, es, ep, hL, hLd, hLk, hLf⟩ := F'.ns
  have gL : g.get? L' = none := kts_self F'
  refine wpAny_call (prepare_ok w (x := x) (dx := dx) (d2 := d2) (np := np) (nf := nf) (nds := nds) hsz hsc hG1 hG2 hT p loose mean mg mb (A.deeper _) (_ :: l) g _ ((L', oL) :: frs) led0 _ hh (Around.frames_deeper hA) (by show A.depth + 1 + 5 < _; exact oq205 hd) (by show A.units + 3 + 16 * 5 < _; exact oq206 hu) ⟨by show ScopeKind.function ≠ _; decide, rfl, ⟨es, ep, hLd⟩, Fs⟩ F'.keep (Nat.le_trans F'.above (Nat.le_of_lt F'.ns.lt)) X T ?_ (ND.insert fun q hq => (N' q hq).2.1) ⟨HS0, HN0⟩ ?_ ?_)
  · intro q hq
    rcases List.mem_append.mp hq with hq | hq
    · have := N' q (List.mem_append_left _ hq); exact ⟨this.1, this.2.2⟩
    · rcases List.mem_cons.mp hq with rfl | hq
      · exact ⟨hL, gL⟩
      · have := N' q (List.mem_append_right _ hq); exact ⟨this.1, this.2.2⟩
  · intro h1 tk1 led1 f1 r su st1 N1 ND1 S1 HN1 L1 K1 hr hno
    obtain ⟨sl, frs1, rfl, su'⟩ := sameUp_head su
    obtain ⟨nd1, nd2⟩ := ND1.drop
    show R _ _
    refine hret _ h1 _ led1 frs1 su' st1 (fun q hq => ?_) nd1 ⟨r, S1, HN1, L1, K1, hr, .inl ⟨rfl, hno⟩⟩
    rcases List.mem_append.mp hq with h | h
    · exact N1 q (List.mem_append_left _ h)
    · exact N1 q (List.mem_append_right _ (List.mem_cons_of_mem _ h))
  · intro e h1 tk1 led1 r Fl S1 HN1 L1 K1 hr hc
    dsimp only
    refine catchT hA Fs Fl F' hL X T (by k_is) (by kts_isx) fun h2 f2 su2 F2 N2 ND2 => ?_
    k_steps
    show R _ _
    exact hret _ _ _ led1 f2 su2 (fun b o e => F2.keep b o e) (fun q hq => ⟨(N2 q hq).1, (N2 q hq).2.2⟩) ND2 ⟨r, S1, HN1, L1, K1, hr, .inr ⟨⟨_, rfl⟩, hc⟩⟩

theorem rst_LBehind : True := by
  w_top off
  trivial
theorem lines_23 : True := by
  k_with "eval Name" => (((with_reducible show wpAny _ _ (eval (Expr.Name _ _) (envX _ _ _ _ _ _)) _ _ _); refine halt ?_))
  k_with "call builtin:list.index" => ((refine l_index (by assumption) (by k_mem) (by assumption) (by assumption) (by assumption) ?_))
  k_with "getMethod ref" => (((with_reducible show wpAny _ _ (getMethod (Value.ref _) (Str.ofString "index") _) _ _ _); refine kl_method (by assumption) (by k_mem) PySem.F.slot_list_index PySem.F.type_list_index ?_))
  trivial
local macro_rules | `(tactic| walk_at "exec Assign cons ListComp") => `(tactic| k_dflt (refine' comp_assign ?hsw ?hclos ?hk ?hn ?_ ?hs; (case hsw => with_unfolding_all rfl); (case hclos => with_unfolding_all rfl); (case hk => rfl); (case hn => decide); (case hs => intro _; rfl); k_whole))
theorem lines_24 : True := by
  k_with "call ref" => (((with_reducible show wpAny _ _ (call (Value.ref 182) _) _ _ _); refine halt ?_))
  trivial
local macro_rules | `(tactic| walk_at "eval Name") => `(tactic| ((with_reducible show wpAny _ _ (eval (Expr.Name _ _) (compEnvC _ _ _ _)) _ _ _); first
  | (with_reducible refine cn_L (by assumption) (by k_mem) (by assumption) (by walk_at "lk") ?_ (by kernel_rfl!) (by kernel_rfl!) (by decide +kernel))
  | k_dflt (refine' nameG_K ?k1 ?k2 ?k3 ?k4 ?_ ?k5 ?k6 ?k7 ?k8; (case k1 => assumption); (case k2 => assumption); (case k3 => k_asm); (case k4 => k_is); (case k5 => exact rfl); (case k6 => kernel_rfl!); (case k7 => kernel_rfl!); (case k8 => decide +kernel); k_whole)
  | k_dflt (refine' cx_D ?h1 ?h2 ?h3 ?h4 ?hq ?h5 ?h6 ?h7; (case h1 => exact rfl); (case h2 => assumption); (case h3 => assumption); (case h4 => k_mem); (case h5 => kernel_rfl!); (case h6 => kernel_rfl!); (case h7 => decide +kernel); k_whole)
  | (plain_pass; refine halt ?_)))
theorem lines_25 : True := by
  k_with "eval Lambda" => ((refine halt ?_))
  k_with "call builtin:sorted" => ((refine halt ?_))
  trivial
section
variable {prog : Program} {w : World} {A : Around} {E : Value → Shared → Prop} {s : Shared} {b : Heap} {L : Addr} {m : Str → Option Value} {led : Led} {ic : String}
theorem comp_srcQ {env : Env} {elt target iter : Expr} {ifs : List Expr} {scope : Scope} {pos py : Pos} {y : Str} {cl : List (Str × Addr)} {v : Value} {fixed : Led} {n : Nat} {PV : Nat → Value → Prop} {Q : Shared → Prop}
    (hsrc : wpAny (model prog w) A (pyIter v) (Src prog w A b L m led fixed n PV s) E s) (ND : NDL led) (hfix : ∀ p ∈ fixed, p ∈ led) (hcell : ∀ x ∈ scope.names, x.2 ≠ .cell) (hkind : scope.kind = .function) (hsz : n ≤ sizeLine)
    (hy : env.kindOf y = some .local) (hp : (env.scope.kind == .class || (env.scope.kind == .module && env.locals != env.globals)) = false) (hL : env.locals = L)
    (J : Nat → List Value → Led → Prop) (hJ : J 0 [] led)
    (step : ∀ i v ys led₁ h tk I oI ic D C oC mC, i < n → PV i v → J i ys led₁ → ys.length ≤ i → oI.cls = .type ic → (ic ≠ "list" ∧ ic ≠ "dict" ∧ ic ≠ "tuple" ∧ ic ≠ "cell" ∧ ic ≠ "set") → NsO oC mC → NDL ((I, oI) :: (C, oC) :: (D, lstO ys) :: led₁) → (∀ p ∈ fixed, p ∈ led₁) → Fr b L h m → News b L h ((I, oI) :: (C, oC) :: (D, lstO ys) :: led₁) →
      wpAny (model prog w) A (assign target (compEnvC scope cl C env) v) (fun _ s₂ =>
        wpAny (model prog w) A (forIn ifs true fun c r => if r = true then do let ok ← isTrue c (compEnvC scope cl C env) (eval c (compEnvC scope cl C env)); pure (ForInStep.yield ok) else pure (ForInStep.yield r)) (fun ok s₃ =>
          if ok = true then wpAny (model prog w) A (eval elt (compEnvC scope cl C env)) (fun x s₄ => CompEnd b L m s I oI D ys C fixed (J (i + 1) (ys ++ [x])) s₄) (fun _ _ => False) s₃
          else CompEnd b L m s I oI D ys C fixed (J (i + 1) ys) s₃) (fun _ _ => False) s₂) (fun _ _ => False) { s with heap := h, toks := tk })
    (done : ∀ ys led₁ h tk D, J n ys led₁ → NDL ((D, lstO ys) :: led₁) → (∀ p ∈ fixed, p ∈ led₁) → Fr b L h (fun z => if z = y then some (.ref D) else m z) → News b L h ((D, lstO ys) :: led₁) → Q { s with heap := h, toks := tk }) :
    wpAny (model prog w) A (pyIter v) (fun it s₂ => wpAny (model prog w) A (newList []) (fun acc s₃ => wpAny (model prog w) A (newFunctionEnv scope env.globals cl [] env.qual none .none (some env)) (fun cenv s₄ =>
      codeAny (model prog w) A (.compStart (.ListComp elt [⟨target, iter, ifs, 0⟩] scope pos) 0 it acc { cenv with scope := relabel scope env }) (compPost (model prog w) A E (some (assign (.Name y py) env)) (fun _ s' => Q s') acc cenv.locals) s₄) E s₃) E s₂) E s :=
  comp_srcA (Q := fun _ s' => Q s') hsrc ND hfix hcell hkind hsz hy hp hL J hJ step done
end
theorem nmX_L {M : Model} {A : Around} {E : Value → Shared → Prop} {s : Shared} {b : Heap} {L : Addr} {m : Str → Option Value} {env : Env} {x : Str} {v : Value} {pos : Pos} {Q : Value → Shared → Prop} (F : Fr b L s.heap m) (hL : env.locals = L) (hv : m x = some v) (h : Q v s)
    (hk : env.scope.kind = .function) (hx : env.kindOf x = some .local) (hd : (x == ("__debug__" : Str)) = false) : wpAny M A (eval (.Name x pos) env) Q E s := by
  subst hL; exact wpAny_Name (wpAny_loadName_local hk hx F.ns hv h) hd
noncomputable def freeOf (ps tab : Tab) (far : Nat) : List Str := (ps.map (·.1)).filter fun k => stepsN (lk tab) (tab.length + 1) k = far
noncomputable abbrev lamPos : Pos := { line := 197, col := 28, endLine := 197, endCol := 61 }
noncomputable abbrev lamQ : Str := (Str.ofString "_law_behind" ++ ".<locals>.") ++ "<lambda>"
/-- a contract whose def makes a lambda: its code's table (191) stands in the ledger -/
noncomputable def SpecH (w : World) (k : Nat) (f : Addr) (args : List Value) (Pre : Led → Prop) (Post : Led → Value → Led → Prop) : Prop :=
  ∀ (p : Program) (loose : List Str) (mean : ExcName → Option Value) (mg mb : Str → Option Value) (A A₀ : Around) (env : Env) (outer : List Env) (base b : Heap) (L : Addr) (m : Str → Option Value) (s : Shared) (led : Led) (R : Result → Shared → Prop),
    A.handled = none → A.frames = some (env :: outer) → env.frame = some L → env.scope.kind = .function → A.depth + k < recursionLimit → A.units + 16 * k < cLine →
    Below A₀ base outer b → Fr b L s.heap m → (hd.heap_1 w.params).In b → News b L s.heap led → NDL led → Top p loose mean mg mb b → CodeHd b 193 191 → Pre led →
    (∀ v h' tk' led', Fr b L h' m → News b L h' led' → NDL led' → Post led v led' → R (.ok (.ret v)) { s with heap := h', toks := tk' }) →
    codeAny (model P w) A (.call (.ref f) ⟨args, []⟩) R s
theorem SpecH.use {w : World} {k : Nat} {f : Addr} {args : List Value} {Pre : Led → Prop} {Post : Led → Value → Led → Prop} (S : SpecH w k f args Pre Post)
    {p : Program} {loose : List Str} {mean : ExcName → Option Value} {mg mb : Str → Option Value} {A : Around} {env env' : Env} {outer : List Env} {base b : Heap} {L : Addr} {m : Str → Option Value} {s : Shared} {led : Led} {Q E : Value → Shared → Prop}
    (hh : A.handled = none) (hA : A.frames = some (env :: outer)) (hf : env'.frame = some L) (hke : env'.scope.kind = .function) (hdp : A.depth + 1 + k < recursionLimit) (hu : A.units + 3 + 16 * k < cLine)
    (B : Below A base (env :: outer) b) (F : Fr b L s.heap m) (X : (hd.heap_1 w.params).In b) (N : News b L s.heap led) (ND : NDL led) (T : Top p loose mean mg mb b) (C : CodeHd b 193 191) (pre : Pre led)
    (ret : ∀ v h' tk' led', Fr b L h' m → News b L h' led' → NDL led' → Post led v led' → Q v { s with heap := h', toks := tk' }) :
    wpAny (model P w) (A.deeper env') (call (.ref f) args) Q E s :=
  wpAny_call (S p loose mean mg mb (A.deeper env') A env' (env :: outer) base b L m s led _ hh (Around.frames_deeper hA) hf hke hdp hu B F X N ND T C pre ret)
theorem law_behind_ok (w : World) {d e : Addr} {tab : Tab} {due : List Str} {far : Nat} {tf : Tok} (hsz : tab.length ≤ 60) (hdue : due.length < 64) (hnd : (tab.map (·.1)).Nodup) (hin : ∀ k ∈ freeOf tab tab far, ∃ z, lk tab k = some z ∧ z ∈ due) :
    SpecH w 5 194 [.ref d, .ref e, .int far tf] (fun led => StrD w led d tab ∧ StrL led e due ∧ LamTab led 191 lamPos lamQ)
      (fun led v led' => ∃ r os, v = .ref r ∧ StrL led' r os ∧ os.Perm (freeOf tab tab far) ∧ os.Pairwise (Lx (fun k => due.idxOf ((lk tab k).getD (Str.ofString ""))) (freeOf tab tab far)) ∧ Keep [191] led led' ∧ LamTab led' 191 lamPos lamQ ∧ ∀ q ∈ led, q.1 ≠ r) := by
  intro p loose mean mg mb A A₀ env outer base b L m s led R hh hA hf hke hd hu B F X N ND T hC hpre hret
  obtain ⟨⟨kvs, D1, hk⟩, ⟨vs, n, M, hvs⟩, hlam⟩ := hpre
  walk_at "enterC"
  k_steps
  unfold Halt
  rename_i g L' h0 tk0 FG F1 B' X' T' l1 o3 o2 o1 d3 d2 d1 N1
  replace d3 : o3.data = .cell (some (.int far tf)) := d3
  replace d2 : o2.data = .cell (some (.ref e)) := d2
  replace d1 : o1.data = .cell (some (.ref d)) := d1
  have hlt1 : ∀ (q : Addr × Obj) (k : Nat), q ∈ led → q.1 < L' + k := fun q k hq => Nat.lt_of_lt_of_le (l1 q hq) (Nat.le_add_right _ _)
  have ND1 : NDL ((L' + 1 + 1 + 1, o3) :: (L' + 1 + 1, o2) :: (L' + 1, o1) :: led) := by
    refine ((ND.cons fun q hq => hlt1 q 1 hq).cons fun q hq => ?_).cons fun q hq => ?_
    · rcases List.mem_cons.mp hq with rfl | hq
      · exact Nat.lt_succ_self _
      · exact hlt1 q 2 hq
    · rcases List.mem_cons.mp hq with rfl | hq
      · exact Nat.lt_succ_self _
      · rcases List.mem_cons.mp hq with rfl | hq
        · exact Nat.lt_succ_of_lt (Nat.lt_succ_self _)
        · exact hlt1 q 3 hq
  have Mc3 : (L' + 1 + 1 + 1, o3) ∈ (L' + 1 + 1 + 1, o3) :: (L' + 1 + 1, o2) :: (L' + 1, o1) :: led := .head _
  have Mc2 : (L' + 1 + 1, o2) ∈ (L' + 1 + 1 + 1, o3) :: (L' + 1 + 1, o2) :: (L' + 1, o1) :: led := .tail _ (.head _)
  have Mc1 : (L' + 1, o1) ∈ (L' + 1 + 1 + 1, o3) :: (L' + 1 + 1, o2) :: (L' + 1, o1) :: led := .tail _ (.tail _ (.head _))
  have hs1 : ∀ q ∈ led, q ∈ (L' + 1 + 1 + 1, o3) :: (L' + 1 + 1, o2) :: (L' + 1, o1) :: led := fun q hq => .tail _ (.tail _ (.tail _ hq))
  generalize (L' + 1 + 1 + 1, o3) :: (L' + 1 + 1, o2) :: (L' + 1, o1) :: led = led1 at *
  obtain ⟨lo, od, Md, hD⟩ := D1
  have hkl := StrD.len hk
  refine' comp_srcQ (src_dict hh F1 N1 lo (hs1 _ Md) hD) ND1 (by intro q hq; rw [List.mem_singleton.mp hq]; exact hs1 _ Md) ?ccell rfl (by rw [sizeLine_eq]; exact oq207 hsz hkl) ?cy ?cp ?cL
    (fun i ys led₁ => StrsAre ys (freeOf (tab.take i) tab far) ∧ ∀ q ∈ led1, q ∈ led₁) ⟨by simpa [freeOf] using StrsAre.nil, fun q hq => hq⟩ ?_ ?_
  case ccell => decide
  case cy => rfl
  case cp => rfl
  case cL => rfl
  · rintro i v ys led₂ h2 tk2 I oI ic D C oC mC hi p1x0 p1x1 hyl hcI hic hnC ND2 hfx F2 N2
    refine fresh_goal fun G1 hG1 => ?_
    obtain ⟨k, x, t, hkv, rfl⟩ := p1x0
    obtain ⟨hys, hsub⟩ := p1x1
    have hC1 : L' + 1 ≠ C := ND2.tail.head _ (.tail _ (hsub _ Mc1))
    have hC3 : L' + 1 + 1 + 1 ≠ C := ND2.tail.head _ (.tail _ (hsub _ Mc3))
    have M1' := hsub _ Mc1
    have M3' := hsub _ Mc3
    refine hG1 ?_
    clear hG1 G1
    k_steps
    unfold Halt
    walk_at "eval Name"
    k_steps
    unfold Halt
    rename_i h4 oC4 nC4 F4 N4 cE4
    have ND4 := ND2.upd (a := C) (o := oC4)
    have up4 : ∀ q ∈ led₂, q ∈ (upd ((I, oI) :: (C, oC) :: (D, lstO ys) :: led₂) C oC4) := fun q hq => mem_upd_ne (.tail _ (.tail _ (.tail _ hq))) (ND2.tail.head _ (.tail _ hq))
    have hST : StrD w (upd ((I, oI) :: (C, oC) :: (D, lstO ys) :: led₂) C oC4) d tab := ⟨kvs, ⟨lo, od, up4 _ (hsub _ (hs1 _ Md)), hD⟩, hk⟩
    refine Spec.use (law_steps_ok w (y := k) (t := t) (tab := tab) (d := d) (by exact oq208 hsz hkl)) hh hA rfl rfl (by exact oq202 hd) (by exact oq203 hu) B' F4 X' N4 ND4 T' hST ?_
    rintro _ h5 tk5 _ F5 N5 ND5 p2x0
    refine fresh_goal fun G2 hG2 => ?_
    obtain ⟨rfl, tk6, rfl⟩ := p2x0
    refine hG2 ?_
    clear hG2 G2
    k_steps
    unfold Halt
    refine' cx_D (c := L' + 1 + 1 + 1) (o := o3) ?f1 N5 d3 ?f4 ?fq ?f5 ?f6 ?f7
    case f1 => rfl
    case f4 => exact up4 _ M3'
    case f5 => kernel_rfl!
    case f6 => kernel_rfl!
    case f7 => decide +kernel
    have hfr : freeOf (tab.take (i + 1)) tab far = freeOf (tab.take i) tab far ++ if stepsN (lk tab) (tab.length + 1) k = far then [k] else [] := by
      have hti : ∃ z, tab[i]? = some (k, z) := by
        have h1 := congrArg (·[i]?) (StrD.keys hk)
        simp only [List.getElem?_map, hkv, Option.map_some] at h1
        cases h2 : tab[i]? with
        | none => rw [h2] at h1; cases h1
        | some q => rw [h2] at h1; exact ⟨q.2, by have := Option.some.inj h1; simp at this; rw [this]⟩
      obtain ⟨z, hti⟩ := hti
      unfold freeOf
      rw [List.take_add_one, hti, Option.toList_some, List.map_append, List.filter_append]
      congr 1
      by_cases e : stepsN (lk tab) (tab.length + 1) k = far <;> simp [e]
    k_steps
    · have hst : stepsN (lk tab) (tab.length + 1) k = far := by
        (rename_i u0; exact oq209 u0)
      refine cEnd0 F5 N5 ND2 nC4 hfx (fun led' kk => ⟨?_, fun q hq => kk q (hsub q hq)⟩) rfl
      rw [hfr, if_pos hst]; exact hys.push
    · have hst : ¬ stepsN (lk tab) (tab.length + 1) k = far := by
        (rename_i u0; exact oq210 u0)
      refine cEnd0 F5 N5 ND2 nC4 hfx (fun led' kk => ⟨?_, fun q hq => kk q (hsub q hq)⟩) rfl
      rw [hfr, if_neg hst, List.append_nil]; exact hys
  · rintro ys led₂ h2 tk2 D p3x0 ND2 hfx F2 N2
    refine fresh_goal fun G3 hG3 => ?_
    obtain ⟨hys, hsub⟩ := p3x0
    rw [hkl, List.take_length] at hys
    have hsub' : ∀ q ∈ led, q ∈ (D, lstO ys) :: led₂ := fun q hq => .tail _ (hsub q (hs1 q hq))
    have hlam2 : LamTab ((D, lstO ys) :: led₂) 191 lamPos lamQ := by
      rcases hlam with h | ⟨c', oc, us, t, h1, h2, h3, h4⟩
      · exact .inl (hsub' _ h)
      · exact .inr ⟨c', oc, us, t, hsub' _ h1, hsub' _ h2, h3, h4⟩
    refine hG3 ?_
    clear hG3 G3
    k_steps
    unfold Halt
    refine kla_eval rfl ?_
    refine lam_make (c := 193) (P := 191) F2 N2 ND2 T' (hC.keeps FG.keep) rfl hlam2 (by rfl) ?_
    intro f c' oc us t pm ctv h3 tk3 led3 F3 N3 ND3 Mf Mc hoc hus hlam3 K3 hflt
    k_steps
    unfold Halt
    have hDP : D ≠ 191 := fun e => by
      rcases hlam2 with h | ⟨_, _, _, _, h, _⟩
      · subst e; exact absurd (ND2.eq (.head _) h) (by intro e; cases e)
      · subst e; exact absurd (ND2.eq (.head _) h) (by intro e; cases e)
    have MD3 : (D, lstO ys) ∈ led3 := K3 _ (.head _) (by simpa using hDP)
    show wpAny _ _ (call (.builtin "sorted") [.ref D] [(Str.ofString "key", .ref f)]) _ _ _
    have hfl : (freeOf tab tab far).length ≤ 60 := Nat.le_trans (List.length_filter_le _ _) (by rw [List.length_map]; exact hsz)
    have hfn : (freeOf tab tab far).Nodup := hnd.filter _
    refine sort_strs (key := fun k => due.idxOf ((lk tab k).getD (Str.ofString ""))) F3 N3 (isList_of N3 MD3) hys hfn (by exact oq211 hfl) ?_ ?_
    · intro x t hx h4 tk4 own F4 N4
      obtain ⟨z, hz1, hz2⟩ := hin x hx
      have hcd4 : h4.CodeRec (.ref c') lamQ := codeRec_news N4 (List.mem_append_left _ Mc) hoc hus
      obtain ⟨ot, Mt, hot⟩ : ∃ ot, (191, ot) ∈ led ∧ ∃ ps, ot = tabObj ps := by
        rcases hlam with h | ⟨_, _, _, _, h, _⟩
        · exact ⟨_, h, _, rfl⟩
        · exact ⟨_, h, _, rfl⟩
      obtain ⟨tps, rfl⟩ := hot
      have h191 := l1 _ Mt
      obtain ⟨hne1, hne2, hned, hnee⟩ : L' + 1 ≠ 191 ∧ L' + 1 + 1 ≠ 191 ∧ d ≠ 191 ∧ e ≠ 191 := by
        refine ⟨Nat.ne_of_gt (Nat.lt_succ_of_lt h191), Nat.ne_of_gt (Nat.lt_succ_of_lt (Nat.lt_succ_of_lt h191)), ND.neC Md Mt ?_, ND.ne M Mt ?_⟩
        · rw [isDict_cls hD]; intro e; cases e
        · intro e; cases e
      have Mc1' : (L' + 1, o1) ∈ led3 ++ own := List.mem_append_left _ (K3 _ (.tail _ (hsub _ Mc1)) (by simpa using hne1))
      have Mc2' : (L' + 1 + 1, o2) ∈ led3 ++ own := List.mem_append_left _ (K3 _ (.tail _ (hsub _ Mc2)) (by simpa using hne2))
      have Md' : DictIn w (led3 ++ own) d kvs := ⟨lo, od, List.mem_append_left _ (K3 _ (hsub' _ Md) (by simpa using hned)), hD⟩
      have Me' : (e, listOf vs.toArray n) ∈ led3 ++ own := List.mem_append_left _ (K3 _ (hsub' _ M) (by simpa using hnee))
      obtain ⟨tz, hval⟩ : ∃ tz, valueAt kvs x = some (.str z tz) := by
        rcases StrD.at hk x with ⟨h1, _⟩ | ⟨z', t', h1, h2⟩
        · rw [hz1] at h1; cases h1
        · rw [hz1] at h1; cases h1; exact ⟨t', h2⟩
      refine wpAny_call (kla_code B' F4 X' N4 T' (Around.frames_deeper hA) rfl rfl (List.mem_append_left _ Mf) hcd4 ?room rfl (locs rfl) ?_ rfl rfl rfl ?cell)
      case room => show A.depth + 1 < recursionLimit; exact oq212 hd
      case cell => decide
      intro g5 L5 h5 FG5 F5 N5 B5 X5 T5
      k_steps
      unfold Halt
      refine nameX_F N5 (by rfl) Mc2' d2 ?_ (by rfl) (by rfl) (by decide) (by decide)
      k_steps
      unfold Halt
      refine nameX_F N5 (by rfl) Mc1' d1 ?_ (by rfl) (by rfl) (by decide) (by decide)
      k_steps
      unfold Halt
      refine nmX_L F5 rfl (by rfl) ?_ (by rfl) (by rfl) (by decide)
      k_steps
      rename_i kF kN _ _
      have hkey : due.idxOf ((lk tab x).getD (Str.ofString "")) = due.idxOf z := by rw [hz1]; rfl
      show KskEnd _ _ _ _ _ _ _ _
      rw [hkey]
      exact ⟨_, _, _, rfl, rfl, kF, kN⟩
    · intro D2 h4 tk4 out c4 os F4 N4 l4 h1 h2 h3
      k_steps
      rename_i kF kN _ _
      refine hret _ _ _ _ kF kN (ND3.cons l4) ⟨D2, os, rfl, ⟨out.toList, c4, by simpa using List.Mem.head _, h1⟩, h2, h3, fun q hq hn => .tail _ (K3 q (hsub' q hq) hn), ?_, fun q hq => ?_⟩
      · rcases hlam3 with h | ⟨c', oc, us, t, h1, h2, h3, h4⟩
        · exact .inl (.tail _ h)
        · exact .inr ⟨c', oc, us, t, .tail _ h1, .tail _ h2, h3, h4⟩
      · by_cases e : q.1 = 191
        · rw [e]
          rcases hlam3 with h | ⟨_, _, _, _, h, _⟩
          · exact Nat.ne_of_lt (l4 _ h)
          · exact Nat.ne_of_lt (l4 _ h)
        · exact Nat.ne_of_lt (l4 _ (K3 q (hsub' q hq) (by simpa using e)))


theorem rst_Plain0 : True := by
  w_top off
  trivial
noncomputable def piece (p : Str × Str × Nat) : Str := p.1 ++ Str.ofString "=" ++ wr p.2.1 p.2.2
noncomputable def PsOk (ps : List (Str × Str × Nat)) : Prop := ∀ p ∈ ps, p.1 ∈ keys6 ∧ p.2.1 ∈ nms ∧ (p.2.2 = 0 ∨ p.2.2 = 1 ∨ p.2.2 = 2)
theorem nmAt_mem {i : Int} (h0 : 0 ≤ i) (h : i < 7) : nmAt i ∈ nms := by
  unfold nmAt
  have : i.toNat < nms.length := by show i.toNat < 7; omega
  rw [List.getD_eq_getElem?_getD, List.getElem?_eq_getElem this]
  exact List.getElem_mem this
theorem nmAt_mem6 {i : Int} (h0 : 0 ≤ i) (h : i < 6) : nmAt i ∈ keys6 := by
  have h7 : i.toNat < nms.length := by show i.toNat < 7; omega
  unfold nmAt
  rw [List.getD_eq_getElem?_getD, List.getElem?_eq_getElem h7, Option.getD_some]
  refine List.mem_of_getElem? (i := i.toNat) ?_
  show (nms.take 6)[i.toNat]? = _
  rw [List.getElem?_take_of_lt (by omega), List.getElem?_eq_getElem h7]
theorem pk_ok (ns : List Int) : PsOk (ns.map pk) := fun p hp => by
  obtain ⟨n, _, rfl⟩ := List.mem_map.mp hp
  have c1 : 0 ≤ (n.fdiv 42).fmod 3 := Int.fmod_nonneg_of_pos _ (by decide)
  have c2 : (n.fdiv 42).fmod 3 < 3 := Int.fmod_lt_of_pos _ (by decide)
  exact ⟨nmAt_mem6 (Int.fmod_nonneg_of_pos _ (by decide)) (Int.fmod_lt_of_pos _ (by decide)), nmAt_mem (Int.fmod_nonneg_of_pos _ (by decide)) (Int.fmod_lt_of_pos _ (by decide)), by show ((n.fdiv 42).fmod 3).toNat = 0 ∨ ((n.fdiv 42).fmod 3).toNat = 1 ∨ ((n.fdiv 42).fmod 3).toNat = 2; omega⟩
theorem keys6_nms {x : Str} (h : x ∈ keys6) : x ∈ nms := List.mem_of_mem_take h
theorem piece_len {p : Str × Str × Nat} (h : p.1 ∈ keys6 ∧ p.2.1 ∈ nms ∧ (p.2.2 = 0 ∨ p.2.2 = 1 ∨ p.2.2 = 2)) : (p.1 ++ Str.ofString "=").length ≤ 9 ∧ (wr p.2.1 p.2.2).length ≤ 100 ∧ (piece p).length ≤ 109 := by
  obtain ⟨h1, h2, h3⟩ := h
  have a := (nms_len _ (keys6_nms h1)).1
  have w := (nms_len _ h2).2.2.2.2.2.2.2
  have e1 : (Str.ofString "=").length = 1 := by decide +kernel
  have hw : (wr p.2.1 p.2.2).length ≤ 100 := by
    rcases h3 with e | e | e <;> rw [e]
    · exact w.1
    · exact w.2.1
    · exact w.2.2
  refine ⟨by rw [Str.length_append, e1]; exact oq213 a, hw, ?_⟩
  unfold piece
  rw [Str.length_append, Str.length_append, e1]; exact oq214 a hw
theorem sum_le {l : List Nat} {c : Nat} (h : ∀ x ∈ l, x ≤ c) : l.sum ≤ c * l.length := by
  induction l with
  | nil => simp
  | cons x r ih =>
    rw [List.sum_cons, List.length_cons]
    have h1 := h x (.head _)
    have h2 := ih fun y hy => h y (.tail _ hy)
    rw [Nat.mul_succ]; exact oq215 h1 h2
theorem join_eq (sep : Str) (l : List Str) : Txt.join sep l = Str.join sep l := StrLaws.glued_eq_join sep l
theorem join_len (sep : Str) : ∀ l : List Str, (Str.join sep l).length ≤ (l.map (·.length)).sum + l.length * sep.length
  | [] => by simp [Str.join, Str.empty, Str.length]
  | [x] => by simp [Str.join]
  | x :: y :: r => by
    have ih := join_len sep (y :: r)
    show (x ++ sep ++ Str.join sep (y :: r)).length ≤ _
    rw [Str.length_append, Str.length_append, List.map_cons, List.sum_cons, List.length_cons, Nat.succ_mul]
    exact oq216 ih
theorem head_len {ps : List (Str × Str × Nat)} (h : PsOk ps) (hl : ps.length ≤ 13) : (Txt.join (Str.ofString ", ") (ps.map piece)).length ≤ 2000 := by
  rw [join_eq]
  refine Nat.le_trans (join_len _ _) ?_
  have h1 := sum_le (l := (ps.map piece).map (·.length)) (c := 109) fun x hx => by
    obtain ⟨y, hy, rfl⟩ := List.mem_map.mp hx
    obtain ⟨p, hp, rfl⟩ := List.mem_map.mp hy
    exact (piece_len (h p hp)).2.2
  simp only [List.length_map] at h1 ⊢
  rw [show (Str.ofString ", ").length = 2 by decide +kernel]
  exact oq217 hl h1
noncomputable def qf (p : Str × Str × Nat) : Bool := !(decide (p.2.2 = 0) && decide (p.2.1 ≠ Str.ofString ""))
noncomputable def entP (p : Str × Str × Nat) : Str := ent p.1 p.2.1 (qf p)
theorem piece_run : ∀ k ∈ keys6, ∀ v ∈ nms, ∀ d ∈ [0, 1, 2], (hrun (piece (k, v, d)).cps.toList).res = [] ∧ (hrun (piece (k, v, d)).cps.toList).part = entP (k, v, d) ∧ (hrun (piece (k, v, d)).cps.toList).esc = false ∧ (hrun (piece (k, v, d)).cps.toList).quo = false := by decide +kernel
theorem ent_strip : ∀ k ∈ keys6, ∀ v ∈ nms, ∀ q : Bool, Txt.strip (ent k v q) = ent k v q ∧ Txt.strip (Str.ofString " " ++ ent k v q) = ent k v q ∧ ent k v q ≠ Str.ofString "" ∧ Str.ofString " " ++ ent k v q ≠ Str.ofString "" := by decide +kernel
theorem res_grows (l : List Nat) : ∀ st : HS, st.res.length ≤ (l.foldl hstep st).res.length := by
  induction l with
  | nil => intro st; exact Nat.le_refl _
  | cons c r ih =>
    intro st
    rw [List.foldl_cons]
    refine Nat.le_trans ?_ (ih _)
    unfold hstep
    repeat' split
    all_goals simp
theorem run_shift (R : List Str) (P : Str) (l : List Nat) : ∀ (x y : Str) (e q e' q' : Bool), l.foldl hstep ⟨[], x, e, q⟩ = ⟨[], y, e', q'⟩ → l.foldl hstep ⟨R, P ++ x, e, q⟩ = ⟨R, P ++ y, e', q'⟩ := by
  induction l with
  | nil =>
    intro x y e q e' q' h
    simp only [List.foldl_nil, HS.mk.injEq] at h
    obtain ⟨_, rfl, rfl, rfl⟩ := h
    rfl
  | cons c r ih =>
    intro x y e q e' q' h
    rw [List.foldl_cons] at h ⊢
    have hP : ∀ a, P ++ x ++ a = P ++ (x ++ a) := fun a => Str.append_assoc P x a
    have hno : ∀ st : HS, st.res ≠ [] → r.foldl hstep st ≠ ⟨[], y, e', q'⟩ := fun st hs he => by
      have := res_grows r st
      rw [he] at this
      have h2 := List.length_pos_iff.mpr hs
      simp at this
      exact hs this
    cases e with
    | true => simp only [hstep, if_true, hP] at h ⊢; exact ih _ _ _ _ _ _ h
    | false =>
      cases q with
      | true =>
        by_cases h1 : c = 92
        · simp only [hstep, h1, Bool.false_eq_true, if_true, if_false] at h ⊢; exact ih _ _ _ _ _ _ h
        · by_cases h2 : c = 34
          · simp only [hstep, h2, Bool.false_eq_true, if_true, if_false, hP] at h ⊢; exact ih _ _ _ _ _ _ h
          · simp only [hstep, h1, h2, Bool.false_eq_true, if_true, if_false, hP] at h ⊢; exact ih _ _ _ _ _ _ h
      | false =>
        by_cases h1 : c = 44
        · simp only [hstep, h1, Bool.false_eq_true, if_true, if_false] at h
          exact absurd h (hno _ (by simp))
        · by_cases h2 : c = 34
          · simp only [hstep, h2, Bool.false_eq_true, if_true, if_false, hP] at h ⊢; exact ih _ _ _ _ _ _ h
          · simp only [hstep, h1, h2, Bool.false_eq_true, if_true, if_false, hP] at h ⊢; exact ih _ _ _ _ _ _ h
theorem piece_shift {p : Str × Str × Nat} (h : p.1 ∈ keys6 ∧ p.2.1 ∈ nms ∧ (p.2.2 = 0 ∨ p.2.2 = 1 ∨ p.2.2 = 2)) (R : List Str) (P : Str) : (piece p).cps.toList.foldl hstep ⟨R, P, false, false⟩ = ⟨R, P ++ entP p, false, false⟩ := by
  obtain ⟨k, v, d⟩ := p
  obtain ⟨a1, a2, a3, a4⟩ := piece_run k h.1 v h.2.1 d (by simpa using h.2.2)
  have e : (piece (k, v, d)).cps.toList.foldl hstep ⟨[], Str.ofString "", false, false⟩ = ⟨[], entP (k, v, d), false, false⟩ := by
    show hrun _ = _
    generalize hrun (piece (k, v, d)).cps.toList = st at a1 a2 a3 a4
    cases st
    simp only at a1 a2 a3 a4
    rw [a1, a2, a3, a4]
  have := run_shift R P _ _ _ _ _ _ _ e
  rwa [show P ++ Str.ofString "" = P from Str.append_empty P] at this
noncomputable def outP (P : Str) : List Str → List Str
  | [] => []
  | x :: r => (P ++ x) :: r.map fun y => Str.ofString " " ++ y
theorem join_run : ∀ (ps : List (Str × Str × Nat)), PsOk ps → ps ≠ [] → ∀ (R : List Str) (P : Str), ∃ A B, (Str.join (Str.ofString ", ") (ps.map piece)).cps.toList.foldl hstep ⟨R, P, false, false⟩ = ⟨R ++ A, B, false, false⟩ ∧ A ++ [B] = outP P (ps.map entP)
  | [], _, h, _, _ => absurd rfl h
  | [p], h, _, R, P => ⟨[], P ++ entP p, by
      show (piece p).cps.toList.foldl hstep _ = _
      rw [piece_shift (h p (.head _)), List.append_nil], rfl⟩
  | p :: q :: r, h, _, R, P => by
    obtain ⟨A, B, h1, h2⟩ := join_run (q :: r) (fun x hx => h x (.tail _ hx)) (by simp) (R ++ [P ++ entP p]) (Str.ofString " ")
    refine ⟨(P ++ entP p) :: A, B, ?_, ?_⟩
    · show (piece p ++ Str.ofString ", " ++ Str.join (Str.ofString ", ") ((q :: r).map piece)).cps.toList.foldl hstep _ = _
      rw [Str.cps_append, Str.cps_append, Array.toList_append, Array.toList_append, List.foldl_append, List.foldl_append, piece_shift (h p (.head _))]
      have e : (Str.ofString ", ").cps.toList.foldl hstep ⟨R, P ++ entP p, false, false⟩ = ⟨R ++ [P ++ entP p], Str.ofString " ", false, false⟩ := by
        have e1 : (Str.ofString ", ").cps.toList = [44, 32] := by decide +kernel
        rw [e1]
        have e2 : Str.ofString "" ++ sgn 32 = Str.ofString " " := by decide +kernel
        simp [hstep, e2]
      rw [e, h1, List.append_assoc]; rfl
    · rw [List.cons_append, h2]; rfl
theorem http_head {ps : List (Str × Str × Nat)} (h : PsOk ps) : httpOf (Txt.join (Str.ofString ", ") (ps.map piece)) = ps.map entP := by
  rw [join_eq]
  by_cases hne : ps = []
  · subst hne
    show (httpRes (hrun (Str.join (Str.ofString ", ") []).cps.toList)).map Txt.strip = []
    have : hrun (Str.join (Str.ofString ", ") []).cps.toList = hs0 := rfl
    rw [this]
    simp [httpRes, hs0]
  · obtain ⟨A, B, h1, h2⟩ := join_run ps h hne [] (Str.ofString "")
    have hst : ∀ p ∈ ps, _ := fun p hp => ent_strip p.1 (h p hp).1 p.2.1 (h p hp).2.1 (qf p)
    unfold httpOf hrun
    rw [show hs0 = ⟨[], Str.ofString "", false, false⟩ from rfl, h1, List.nil_append]
    cases ps with
    | nil => exact absurd rfl hne
    | cons p r =>
      have hB : B ≠ Str.ofString "" := by
        have hl : (A ++ [B]).getLast? = some B := by simp
        rw [h2] at hl
        rw [List.map_cons, outP, show Str.ofString "" ++ entP p = entP p from Str.empty_append _] at hl
        have hm := List.mem_of_getLast? hl
        rcases List.mem_cons.mp hm with rfl | hm
        · exact (hst p (.head _)).2.2.1
        · obtain ⟨y, hy, rfl⟩ := List.mem_map.mp hm
          obtain ⟨p', hp', rfl⟩ := List.mem_map.mp hy
          exact (hst p' (.tail _ hp')).2.2.2
      unfold httpRes
      rw [if_neg hB, h2, List.map_cons, outP, show Str.ofString "" ++ entP p = entP p from Str.empty_append _, List.map_cons, List.map_map, List.map_map]
      congr 1
      · exact (hst p (.head _)).1
      · exact List.map_congr_left fun p' hp' => (hst p' (.tail _ hp')).2.1
theorem vals_take {ps : List (Str × Str × Nat)} {i : Nat} {p : Str × Str × Nat} (h : ps[i]? = some p) (k : Str) : valsOf (ps.take (i + 1)) k = valsOf (ps.take i) k ++ if p.1 = k then [p.2.1] else [] := by
  unfold valsOf
  rw [List.take_add_one, h, Option.toList_some, List.filter_append, List.map_append]
  congr 1
  by_cases e : p.1 = k <;> simp [e]
theorem entries_take {ps : List (Str × Str × Nat)} {i : Nat} {p : Str × Str × Nat} (h : ps[i]? = some p) : entriesOf (ps.take (i + 1)) = tset (entriesOf (ps.take i)) p.1 p.2.1 := by
  have hany : (entriesOf (ps.take i)).any (fun q => decide (q.1 = p.1)) = decide (p.1 ∈ firstsOf (ps.take i)) := by
    unfold entriesOf
    rw [List.any_map]
    by_cases e : p.1 ∈ firstsOf (ps.take i)
    · rw [decide_eq_true e]; exact List.any_eq_true.mpr ⟨_, e, by simp⟩
    · rw [decide_eq_false e]; exact List.any_eq_false.mpr fun x hx h2 => e (by simp at h2; exact h2 ▸ hx)
  have hmap : ∀ k, (k, (valsOf (ps.take (i + 1)) k).getLastD (Str.ofString "")) = if k = p.1 then (k, p.2.1) else (k, (valsOf (ps.take i) k).getLastD (Str.ofString "")) := fun k => by
    rw [vals_take h]
    by_cases e : k = p.1
    · rw [if_pos e, if_pos e.symm, List.getLastD_concat]
    · rw [if_neg e, if_neg fun h2 => e h2.symm, List.append_nil]
  unfold tset
  rw [hany]
  conv => lhs; unfold entriesOf
  rw [firstsOf_take h]
  by_cases e : p.1 ∈ firstsOf (ps.take i)
  · rw [decide_eq_true e, if_pos rfl, show ins (firstsOf (ps.take i)) p.1 = firstsOf (ps.take i) from if_pos e]
    unfold entriesOf
    rw [List.map_map]
    exact List.map_congr_left fun k _ => hmap k
  · rw [decide_eq_false e, if_neg (by simp), show ins (firstsOf (ps.take i)) p.1 = firstsOf (ps.take i) ++ [p.1] from if_neg e, List.map_append, List.map_singleton, hmap p.1, if_pos rfl]
    congr 1
    unfold entriesOf
    exact List.map_congr_left fun k hk => by rw [hmap k, if_neg fun h2 : k = p.1 => e (h2 ▸ hk)]
theorem tab_head {ps : List (Str × Str × Nat)} : ∀ i, i ≤ ps.length → tabOf ((ps.take i).map fun p => (p.1, p.2.1, qf p)) = entriesOf (ps.take i)
  | 0, _ => by simp [tabOf, entriesOf, firstsOf]
  | i + 1, hi => by
    obtain ⟨p, hp⟩ : ∃ p, ps[i]? = some p := ⟨_, List.getElem?_eq_getElem (by exact hi)⟩
    rw [entries_take hp, ← tab_head i (by exact Nat.le_of_lt hi), List.take_add_one, hp, List.map_append]
    unfold tabOf
    rw [List.foldl_append]; rfl
theorem head_parse {ps : List (Str × Str × Nat)} (h : PsOk ps) (hl : ps.length ≤ 13) : ∃ es, (∀ e ∈ es, EntOk e) ∧ httpOf (Txt.join (Str.ofString ", ") (ps.map piece)) = es.map (fun e => ent e.1 e.2.1 e.2.2) ∧ es.length = ps.length ∧ tabOf es = entriesOf ps := by
  refine ⟨ps.map fun p => (p.1, p.2.1, qf p), fun e he => ?_, ?_, by simp, ?_⟩
  · obtain ⟨p, hp, rfl⟩ := List.mem_map.mp he
    obtain ⟨a, c, _⟩ := h p hp
    refine ⟨a, c, fun hq => ?_⟩
    simp only [qf, Bool.not_eq_false', Bool.and_eq_true, decide_eq_true_eq] at hq
    exact hq.2
  · rw [http_head h, List.map_map]; rfl
  · have := tab_head (ps := ps) ps.length (Nat.le_refl _)
    rwa [List.take_length] at this
theorem foldIns_len {ps : List (Str × Str × Nat)} : ∀ {acc : List Str}, (ps.foldl (fun acc p => ins acc p.1) acc).length ≤ acc.length + ps.length := by
  induction ps with
  | nil => intro acc; simp
  | cons p r ih =>
    intro acc
    rw [List.foldl_cons, List.length_cons]
    have h1 := ih (acc := ins acc p.1)
    have h2 := ins_len acc p.1
    exact oq218 h1 h2
theorem entries_len {ps : List (Str × Str × Nat)} (h : ps.length ≤ 13) : (entriesOf ps).length ≤ 13 := by
  unfold entriesOf firstsOf
  rw [List.length_map]
  have := foldIns_len (ps := ps) (acc := [])
  simp only [List.length_nil] at this
  exact oq219 h this
theorem lk_get {tab : Tab} (hn : (tab.map (·.1)).Nodup) {i : Nat} {k z : Str} (h : tab[i]? = some (k, z)) : lk tab k = some z := by
  induction tab generalizing i with
  | nil => simp at h
  | cons p r ih =>
    rw [List.map_cons, List.nodup_cons] at hn
    cases i with
    | zero => simp at h; subst h; simp [lk]
    | succ i =>
      have hm : (k, z) ∈ r := List.mem_of_getElem? (by simpa using h)
      have hne : p.1 ≠ k := fun e => hn.1 (e ▸ List.mem_map_of_mem (f := (·.1)) hm)
      have := ih hn.2 (i := i) (by simpa using h)
      unfold lk at this ⊢
      rw [List.find?_cons, decide_eq_false hne]; exact this
theorem foldIns_nodup {ps : List (Str × Str × Nat)} : ∀ {acc : List Str}, acc.Nodup → (ps.foldl (fun acc p => ins acc p.1) acc).Nodup := by
  induction ps with
  | nil => intro acc h; exact h
  | cons p r ih =>
    intro acc h
    rw [List.foldl_cons]
    refine ih ?_
    unfold ins
    split
    · exact h
    · rename_i hn
      rw [List.nodup_append]
      exact ⟨h, List.nodup_cons.mpr ⟨List.not_mem_nil, List.nodup_nil⟩, fun a ha b hb e => hn (by rw [List.mem_singleton.mp hb] at e; exact e ▸ ha)⟩
theorem entries_nodup {ps : List (Str × Str × Nat)} : ((entriesOf ps).map (·.1)).Nodup := by
  unfold entriesOf
  rw [List.map_map]
  have : (List.map ((fun x : Str × Str => x.1) ∘ fun k => (k, (valsOf ps k).getLastD (Str.ofString ""))) (firstsOf ps)) = firstsOf ps := List.map_id _
  rw [this]
  exact foldIns_nodup List.nodup_nil
theorem entries_ok {ps : List (Str × Str × Nat)} (h : PsOk ps) : ∀ p ∈ entriesOf ps, p.1 ∈ nms ∧ p.2 ∈ nms := fun p hp => by
  obtain ⟨k, hk, rfl⟩ := List.mem_map.mp hp
  obtain ⟨q, hq, e⟩ := (foldIns_mem.mp hk).resolve_left (by simp)
  refine ⟨by rw [← e]; exact keys6_nms (h q hq).1, ?_⟩
  obtain ⟨xs, x, hx⟩ := valsOf_some hk
  show (valsOf ps k).getLastD _ ∈ nms
  rw [hx]
  have hxm : x ∈ valsOf ps k := by rw [hx]; simp
  obtain ⟨r, hr, rfl⟩ := List.mem_map.mp hxm
  rw [List.getLastD_concat]
  exact (h r (List.mem_filter.mp hr).1).2.1
noncomputable def graphOf (tab : Tab) : List NV := tab.foldl (fun l p => addEdge p.1 p.2 l) []
theorem graphOf_take {tab : Tab} {i : Nat} {p : Str × Str} (h : tab[i]? = some p) : graphOf (tab.take (i + 1)) = addEdge p.1 p.2 (graphOf (tab.take i)) := by
  unfold graphOf; rw [List.take_add_one, h, List.foldl_append]; rfl

theorem rst_Plain1 : True := by
  w_top off
  trivial
noncomputable def itT (t : Str → Option Str) : Nat → Str → Option Str
  | 0, y => some y
  | n + 1, y => (t y).bind (itT t n)
noncomputable def CycT (t : Str → Option Str) (y : Str) : Prop := ∃ n, itT t (n + 1) y = some y
noncomputable def dueOf (tab : Tab) : List Str := (namedOf tab).filter fun y => decide (y ∉ tab.map (·.1))
theorem itT_succ {t : Str → Option Str} : ∀ (n : Nat) (y : Str), itT t (n + 1) y = (itT t n y).bind t
  | 0, y => by simp [itT]
  | n + 1, y => by
    have e : itT t (n + 1 + 1) y = (t y).bind (itT t (n + 1)) := rfl
    rw [e]
    have e2 : itT t (n + 1) y = (t y).bind (itT t n) := rfl
    rw [e2]
    cases h : t y with
    | none => rfl
    | some z => simp only [Option.bind_some]; exact itT_succ n z
/-- the way of pointers from y -/
noncomputable def PathT (t : Str → Option Str) (y : Str) (l : List Str) : Prop := l ≠ [] ∧ ∀ i, i < l.length → l[i]? = itT t i y
theorem PathT.way {t : Str → Option Str} {y : Str} : ∀ (n : Nat) {l : List Str}, PathT t y l → PathT t y (wayF t n l)
  | 0, _, h => h
  | n + 1, l, h => by
    unfold wayF
    cases hl : l.getLast? with
    | none => exact h
    | some x =>
      dsimp only
      cases hx : t x with
      | none => exact h
      | some z =>
        dsimp only
        split
        · exact h
        · refine PathT.way n ⟨by simp, fun i hi => ?_⟩
          rw [List.length_append, List.length_singleton] at hi
          by_cases e : i < l.length
          · rw [List.getElem?_append_left e]; exact h.2 i e
          · have : i = l.length := by exact Nat.eq_of_lt_succ_of_not_lt hi e
            subst this
            have h1 : 0 < l.length := List.length_pos_iff.mpr h.1
            have h2 := h.2 (l.length - 1) (by exact oq220 h1)
            rw [← List.getLast?_eq_getElem?, hl] at h2
            obtain ⟨k, hk⟩ : ∃ k, l.length = k + 1 := ⟨l.length - 1, by exact oq221 h1⟩
            rw [hk] at h2 ⊢
            rw [Nat.add_sub_cancel] at h2
            rw [itT_succ, ← h2, Option.bind_some, hx, ← hk]
            simp
theorem ring_none {t : Str → Option Str} {n : Nat} {names : List Str} (h : ∀ y ∈ names, ¬ CycT t y) : ringOf t n names = none := by
  refine ringOf_none fun y hy => ?_
  unfold ringAt
  split
  · rename_i hc
    exfalso
    have hp : PathT t y (wayF t n [y]) := PathT.way n ⟨by simp, fun i hi => by
      have : i = 0 := by simpa using hi
      subst this; rfl⟩
    generalize wayF t n [y] = l at hc hp
    cases hl : l.getLast? with
    | none => rw [hl] at hc; cases hc
    | some x =>
      rw [hl, Option.bind_some] at hc
      have h1 : 0 < l.length := List.length_pos_iff.mpr hp.1
      have h2 := hp.2 (l.length - 1) (by exact oq220 h1)
      rw [← List.getLast?_eq_getElem?, hl] at h2
      refine h y hy ⟨l.length - 1, ?_⟩
      rw [itT_succ, ← h2, Option.bind_some, hc]
  · rfl
theorem lnk_it {t : Str → Option Str} {y : Str} {l : List Str} (hl : Lnk t (l ++ [y])) : ∀ k, k ≤ l.length → itT t k y = (l ++ [y])[l.length - k]?
  | 0, _ => by simp [itT]
  | k + 1, hk => by
    rw [itT_succ, lnk_it hl k (by exact Nat.le_of_lt hk)]
    have h1 : l.length - (k + 1) < (l ++ [y]).length := by simp; exact oq222 hk
    have h2 : l.length - k < (l ++ [y]).length := by simp; exact oq223 hk
    rw [List.getElem?_eq_getElem h1, List.getElem?_eq_getElem h2, Option.bind_some]
    refine hl (l.length - (k + 1)) _ _ (List.getElem?_eq_getElem h1) ?_
    rw [show l.length - (k + 1) + 1 = l.length - k by exact oq224 hk, List.getElem?_eq_getElem h2]
theorem way_full {t : Str → Option Str} {y : Str} {q : List Str} (hn : q.Nodup) (h0 : q[0]? = some y) (hs : ∀ i a c, q[i]? = some a → q[i + 1]? = some c → t a = some c) (he : ∀ a, q.getLast? = some a → t a = some y) :
    ∀ (n k : Nat), 1 ≤ k → k ≤ q.length → q.length - k ≤ n → wayF t n (q.take k) = q
  | n, k, h1, h2, h3 => by
    have hk1 : k - 1 < q.length := by exact oq225 h1 h2
    have e : q.take k = q.take (k - 1) ++ [q[k - 1]] := by
      have h4 : q.take (k - 1 + 1) = _ := List.take_add_one
      rw [show k - 1 + 1 = k by exact Nat.sub_add_cancel h1] at h4
      rw [h4, List.getElem?_eq_getElem hk1]; rfl
    by_cases hk : k = q.length
    · have hlast : q.getLast? = some q[k - 1] := by
        rw [List.getLast?_eq_getElem?, List.getElem?_eq_getElem (by exact oq226 h1 hk)]
        simp only [hk]
      have ht := he _ hlast
      have hq : q.take k = q := by rw [hk]; exact List.take_length
      rw [e, wayF_in ht, ← e, hq]
      rw [← e, hq]
      exact List.mem_of_getElem? h0
    · have hk2 : k < q.length := by exact Nat.lt_of_le_of_ne h2 hk
      cases n with
      | zero => omega
      | succ n =>
        have ht : t q[k - 1] = some q[k] := hs (k - 1) _ _ (List.getElem?_eq_getElem hk1) (by rw [show k - 1 + 1 = k by exact Nat.sub_add_cancel h1]; exact List.getElem?_eq_getElem hk2)
        have hnm : q[k] ∉ q.take (k - 1) ++ [q[k - 1]] := by
          rw [← e]
          intro hm
          obtain ⟨i, hi, hi2⟩ := List.mem_iff_getElem.mp hm
          rw [List.length_take] at hi
          rw [List.getElem_take] at hi2
          have := (List.getElem_inj hn).mp hi2
          exact oq227 hk2 hi this
        have e3 : q.take (k - 1) ++ [q[k - 1]] ++ [q[k]] = q.take (k + 1) := by
          rw [← e, List.take_add_one, List.getElem?_eq_getElem hk2]; rfl
        rw [e, wayF_next ht hnm, e3]
        exact way_full hn h0 hs he n (k + 1) (by exact Nat.succ_pos _) (by exact hk2) (by exact oq228 hk2 h3)
theorem ring_at {t : Str → Option Str} {y : Str} {l : List Str} {n : Nat} (hn : l.Nodup) (h0 : l[0]? = some y) (hl : Lnk t (l ++ [y])) (hlen : l.length ≤ n) : ringAt t n y = some (l ++ [y]) := by
  cases l with
  | nil => simp at h0
  | cons a l' =>
    have : a = y := by simpa using h0
    subst this
    have hq : (a :: l'.reverse).Nodup := by
      rw [List.nodup_cons] at hn ⊢
      exact ⟨by simpa using hn.1, (List.reverse_perm l').nodup_iff.mpr hn.2⟩
    have hidx : ∀ i, i < l'.length + 1 → (a :: l'.reverse)[i]? = (a :: l' ++ [a])[l'.length + 1 - i]? := fun i hi => by
      cases i with
      | zero => simp
      | succ i =>
        rw [List.getElem?_cons_succ, List.getElem?_reverse (by exact Nat.lt_of_succ_lt_succ hi), show l'.length + 1 - (i + 1) = l'.length - 1 - i + 1 by exact oq229 hi, List.cons_append, List.getElem?_cons_succ, List.getElem?_append_left (by exact oq230 hi)]
    have hw := way_full (t := t) hq rfl (fun i b c h1 h2 => ?_) (fun b h1 => ?_) n 1 (Nat.le_refl _) (by simp) (by simp at hlen ⊢; exact Nat.le_of_lt hlen)
    · have e1 : (a :: l'.reverse).take 1 = [a] := rfl
      rw [e1] at hw
      have hlast : ∃ pre x, a :: l'.reverse = pre ++ [x] := by
        rcases List.eq_nil_or_concat (a :: l'.reverse) with h | ⟨pre, x, h⟩
        · cases h
        · exact ⟨pre, x, by rw [h, List.concat_eq_append]⟩
      obtain ⟨pre, x, hpx⟩ := hlast
      have hx : t x = some a := by
        have hg : (a :: l'.reverse)[l'.length]? = some x := by
          have hle : pre.length = l'.length := by have := congrArg List.length hpx; simp at this; exact Eq.symm this
          rw [hpx, ← hle]; simp
        rw [hidx _ (by exact Nat.le_refl _), show l'.length + 1 - l'.length = 0 + 1 by exact oq231] at hg
        exact hl 0 a x rfl hg
      rw [ringAt_yes (hw.trans hpx) hx, ← hpx]
      simp
    · have hb := (List.getElem?_eq_some_iff.mp h2).1
      simp only [List.length_cons, List.length_reverse] at hb
      rw [hidx i (by exact oq232 hb)] at h1
      rw [hidx (i + 1) (by exact hb)] at h2
      refine hl (l'.length + 1 - (i + 1)) c b h2 ?_
      rw [show l'.length + 1 - (i + 1) + 1 = l'.length + 1 - i by exact oq233 hb]; exact h1
    · rw [List.getLast?_eq_getElem?] at h1
      simp only [List.length_cons, List.length_reverse, Nat.add_sub_cancel] at h1
      rw [hidx _ (by exact Nat.le_refl _), show l'.length + 1 - l'.length = 0 + 1 by exact oq231] at h1
      exact hl 0 a b rfl h1
theorem ring_keys {tab : Tab} {l : List Str} {y : Str} (h0 : l[0]? = some y) (hl : Lnk (lk tab) (l ++ [y])) : ∀ x ∈ l, x ∈ tab.map (·.1) := fun x hx => by
  obtain ⟨i, hi, rfl⟩ := List.mem_iff_getElem.mp hx
  cases i with
  | zero =>
    rw [List.getElem?_eq_getElem hi] at h0
    have e0 : l[0] = y := Option.some.inj h0
    rw [e0]
    have h1 : (l ++ [y])[l.length - 1]? = some l[l.length - 1] := by rw [List.getElem?_append_left (by exact oq220 hi), List.getElem?_eq_getElem]
    have h2 : (l ++ [y])[l.length - 1 + 1]? = some y := by rw [Nat.sub_add_cancel hi]; simp
    exact lk_mem (hl _ _ _ h1 h2)
  | succ i =>
    have h1 : (l ++ [y])[i]? = some l[i] := by rw [List.getElem?_append_left (by exact Nat.lt_of_succ_lt hi), List.getElem?_eq_getElem]
    have h2 : (l ++ [y])[i + 1]? = some l[i + 1] := by rw [List.getElem?_append_left hi, List.getElem?_eq_getElem]
    exact lk_mem (hl _ _ _ h1 h2)
theorem ring_len {tab : Tab} {l : List Str} {y : Str} (hn : l.Nodup) (h0 : l[0]? = some y) (hl : Lnk (lk tab) (l ++ [y])) : l.length ≤ tab.length + 1 := by
  have := nodup_len hn (ring_keys h0 hl)
  rw [List.length_map] at this; exact Nat.le_succ_of_le this
theorem ring_some {tab : Tab} {names l : List Str} {i : Nat} {y : Str} (hi : names[i]? = some y) (hf : ∀ (j : Nat) u, j < i → names[j]? = some u → ¬ CycT (lk tab) u) (hn : l.Nodup) (h0 : l[0]? = some y) (hl : Lnk (lk tab) (l ++ [y])) : ringOf (lk tab) (tab.length + 1) names = some (l ++ [y]) := by
  refine ringOf_some hi (fun j u hj hu => ?_) (ring_at hn h0 hl (ring_len hn h0 hl))
  have h1 := ring_none (t := lk tab) (n := tab.length + 1) (names := [u]) fun z hz => by rw [List.mem_singleton.mp hz]; exact hf j u hj hu
  unfold ringOf at h1
  rw [List.findSome?_cons] at h1
  cases h2 : ringAt (lk tab) (tab.length + 1) u with
  | none => rfl
  | some r => rw [h2] at h1; cases h1
theorem ring_yes {tab : Tab} {names l : List Str} {i : Nat} {y : Str} (hi : names[i]? = some y) (hn : l.Nodup) (h0 : l[0]? = some y) (hl : Lnk (lk tab) (l ++ [y])) : ∃ r, ringOf (lk tab) (tab.length + 1) names = some r := by
  have h1 := ring_at hn h0 hl (ring_len hn h0 hl)
  cases h2 : ringOf (lk tab) (tab.length + 1) names with
  | some r => exact ⟨r, rfl⟩
  | none =>
    unfold ringOf at h2
    rw [List.findSome?_eq_none_iff] at h2
    have := h2 y (List.mem_of_getElem? hi)
    rw [h1] at this; cases this
theorem way_in {t : Str → Option Str} {S : Str → Prop} (ht : ∀ a c, t a = some c → S c) : ∀ (n : Nat) {l : List Str}, (∀ a ∈ l, S a) → ∀ a ∈ wayF t n l, S a
  | 0, _, h => h
  | n + 1, l, h => by
    unfold wayF
    cases hl : l.getLast? with
    | none => exact h
    | some x =>
      dsimp only
      cases hx : t x with
      | none => exact h
      | some z =>
        dsimp only
        split
        · exact h
        · refine way_in ht n fun a ha => ?_
          rcases List.mem_append.mp ha with ha | ha
          · exact h a ha
          · rw [List.mem_singleton.mp ha]; exact ht _ _ hx
theorem lk_pair {tab : Tab} {a c : Str} (h : lk tab a = some c) : (a, c) ∈ tab := by
  unfold lk at h
  rw [Option.map_eq_some_iff] at h
  obtain ⟨p, hp, rfl⟩ := h
  have h1 := List.mem_of_find?_eq_some hp
  have h2 := List.find?_some hp
  have h3 : p.1 = a := by simpa using h2
  rw [← h3]; exact h1
theorem ring_in {tab : Tab} {names r : List Str} {n : Nat} (hn : ∀ y ∈ names, y ∈ nms) (ht : ∀ p ∈ tab, p.1 ∈ nms ∧ p.2 ∈ nms) (h : ringOf (lk tab) n names = some r) : ∀ y ∈ r, y ∈ nms := by
  unfold ringOf at h
  obtain ⟨y, hy, hr⟩ := List.exists_of_findSome?_eq_some h
  have hyn := hn y hy
  unfold ringAt at hr
  split at hr
  · cases hr
    intro a ha
    rcases List.mem_cons.mp ha with rfl | ha
    · exact hyn
    · exact way_in (S := fun a => a ∈ nms) (fun a c hac => (ht _ (lk_pair hac)).2) n (fun a ha => by rw [List.mem_singleton.mp ha]; exact hyn) a (List.mem_reverse.mp ha)
  · cases hr
theorem namedFold_mem {ps : List (Str × Str)} : ∀ {acc : List Str} {z : Str}, z ∈ ps.foldl (fun acc p => ins (ins acc p.1) p.2) acc ↔ z ∈ acc ∨ ∃ p ∈ ps, p.1 = z ∨ p.2 = z := by
  induction ps with
  | nil => simp
  | cons p r ih =>
    intro acc z
    rw [List.foldl_cons, ih, ins_mem, ins_mem]
    simp only [List.mem_cons, exists_eq_or_imp]
    constructor
    · rintro (((h | rfl) | rfl) | h)
      · exact .inl h
      · exact .inr (.inl (.inl rfl))
      · exact .inr (.inl (.inr rfl))
      · exact .inr (.inr h)
    · rintro (h | (rfl | rfl) | h)
      · exact .inl (.inl (.inl h))
      · exact .inl (.inl (.inr rfl))
      · exact .inl (.inr rfl)
      · exact .inr h
theorem named_mem {tab : Tab} {z : Str} : z ∈ namedOf tab ↔ ∃ p ∈ tab, p.1 = z ∨ p.2 = z := by unfold namedOf; rw [namedFold_mem]; simp
theorem named_in {tab : Tab} (ht : ∀ p ∈ tab, p.1 ∈ nms ∧ p.2 ∈ nms) : ∀ y ∈ namedOf tab, y ∈ nms := fun y hy => by
  obtain ⟨p, hp, rfl | rfl⟩ := named_mem.mp hy
  · exact (ht p hp).1
  · exact (ht p hp).2
theorem ensure_map {N : List Str} {F : Str → NV} {y : Str} (hid : ∀ z, (F z).1 = z) (hF : y ∉ N → F y = (y, 0, [])) : vEnsure y (N.map F) = (ins N y).map F := by
  have e : (N.map F).map (·.1) = N := by
    rw [List.map_map]
    exact (List.map_congr_left fun z _ => hid z).trans (List.map_id' _)
  unfold vEnsure ins
  rw [e]
  split
  · rfl
  · rename_i h; rw [List.map_append, List.map_singleton, hF h]
/-- a name's node -/
noncomputable def nodeOf (tab : Tab) (z : Str) : NV := (z, if z ∈ tab.map (·.1) then 1 else 0, (tab.filter fun p => p.2 = z).map (·.1))
theorem graph_eq {tab : Tab} (hn : (tab.map (·.1)).Nodup) : ∀ i, i ≤ tab.length → graphOf (tab.take i) = (namedOf (tab.take i)).map (nodeOf (tab.take i))
  | 0, _ => by simp [graphOf, namedOf]
  | i + 1, hi => by
    obtain ⟨p, hp⟩ : ∃ p, tab[i]? = some p := ⟨_, List.getElem?_eq_getElem (by exact hi)⟩
    obtain ⟨k, v⟩ := p
    have ih := graph_eq hn i (by exact Nat.le_of_lt hi)
    rw [graphOf_take hp, namedOf_take hp, ih]
    have hT : tab.take (i + 1) = tab.take i ++ [(k, v)] := by rw [List.take_add_one, hp]; rfl
    have hk : k ∉ (tab.take i).map (·.1) := by
      intro hm
      have h1 : ((tab.take (i + 1)).map (·.1)).Nodup := hn.sublist (List.Sublist.map _ (List.take_sublist _ _))
      rw [hT, List.map_append, List.nodup_append] at h1
      exact h1.2.2 k hm k (by simp) rfl
    rw [hT]
    generalize tab.take i = T at *
    have hno : ∀ z, z ∉ namedOf T → nodeOf T z = (z, 0, []) := fun z hz => by
      unfold nodeOf
      have h1 : z ∉ T.map (·.1) := fun hm => by
        obtain ⟨q, hq, e⟩ := List.mem_map.mp hm
        exact hz (named_mem.mpr ⟨q, hq, .inl e⟩)
      have h2 : T.filter (fun p => decide (p.2 = z)) = [] := List.filter_eq_nil_iff.mpr fun q hq e => hz (named_mem.mpr ⟨q, hq, .inr (by simpa using e)⟩)
      rw [if_neg h1, h2]; rfl
    unfold addEdge
    rw [ensure_map (fun _ => rfl) (hno k)]
    have e1 : vInc k 1 ((ins (namedOf T) k).map (nodeOf T)) = (ins (namedOf T) k).map fun z => if z = k then (z, (nodeOf T z).2.1 + 1, (nodeOf T z).2.2) else nodeOf T z := by
      unfold vInc; rw [List.map_map]; exact List.map_congr_left fun z _ => rfl
    rw [e1, ensure_map (fun z => by split <;> rfl) fun hv => by
      have h1 : v ≠ k := fun e => hv (ins_mem.mpr (.inr e))
      rw [if_neg h1]; exact hno v fun h => hv (ins_mem.mpr (.inl h))]
    unfold vPush
    rw [List.map_map]
    refine List.map_congr_left fun z _ => ?_
    simp only [Function.comp]
    have e2 : nodeOf (T ++ [(k, v)]) z = (z, (nodeOf T z).2.1 + (if z = k then 1 else 0), (nodeOf T z).2.2 ++ if v = z then [k] else []) := by
      unfold nodeOf
      simp only [List.map_append, List.map_cons, List.map_nil, List.mem_append, List.mem_singleton, List.filter_append]
      by_cases h1 : z = k
      · subst h1; simp only [hk, or_true, if_true, if_false, false_or]
        by_cases h2 : v = z <;> simp [h2]
      · simp only [h1, or_false, if_false, Int.add_zero]
        by_cases h2 : v = z <;> simp [h2]
    rw [e2]
    by_cases h1 : z = k
    · rw [if_pos h1]
      by_cases h2 : z = v
      · rw [if_pos h2, if_pos h1, if_pos h2.symm]
      · rw [if_neg h2, if_pos h1, if_neg fun e => h2 e.symm, List.append_nil]
    · rw [if_neg h1]
      by_cases h2 : z = v
      · have h3 : (nodeOf T z).1 = v := h2
        rw [if_pos h3, if_neg h1, if_pos h2.symm, Int.add_zero]; rfl
      · have h3 : ¬ (nodeOf T z).1 = v := h2
        rw [if_neg h3, if_neg h1, if_neg fun e => h2 e.symm, List.append_nil, Int.add_zero]; rfl
theorem graph_full {tab : Tab} (hn : (tab.map (·.1)).Nodup) : graphOf tab = (namedOf tab).map (nodeOf tab) := by
  have := graph_eq hn tab.length (Nat.le_refl _)
  rwa [List.take_length] at this
theorem lk_of {tab : Tab} (hn : (tab.map (·.1)).Nodup) {k z : Str} (h : (k, z) ∈ tab) : lk tab k = some z := by
  obtain ⟨i, hi⟩ := List.getElem?_of_mem h
  exact lk_get hn hi
theorem graph_ok {tab : Tab} {nds : List Nd} (hn : (tab.map (·.1)).Nodup) (h : nv nds = graphOf tab) :
    nds.map (·.name) = namedOf tab ∧ (∀ nd ∈ nds, ∀ s ∈ nd.succ, lk tab s = some nd.name ∧ s ∈ nds.map (·.name)) ∧ (∀ nd ∈ nds, (∀ s ∈ nd.succ, ¬ CycT (lk tab) s) → ¬ CycT (lk tab) nd.name) ∧
      (∀ a b, lk tab a = some b → b ∈ nds.map (·.name)) ∧ readyOf (nv nds) = dueOf tab := by
  have hg := h.trans (graph_full hn)
  have h1 : nds.map (·.name) = namedOf tab := by
    have := congrArg (List.map (·.1)) hg
    unfold nv at this
    rw [List.map_map, List.map_map] at this
    exact this.trans (List.map_id' _)
  have hs : ∀ nd ∈ nds, nd.succ = (tab.filter fun p => p.2 = nd.name).map (·.1) := fun nd hnd => by
    have hm : (nd.name, nd.np, nd.succ) ∈ nv nds := List.mem_map.mpr ⟨nd, hnd, rfl⟩
    rw [hg] at hm
    obtain ⟨z, _, e⟩ := List.mem_map.mp hm
    unfold nodeOf at e
    have e1 : z = nd.name := (Prod.mk.inj e).1
    have e2 := (Prod.mk.inj (Prod.mk.inj e).2).2
    rw [← e2, e1]
  have hsp : ∀ nd ∈ nds, ∀ s, s ∈ nd.succ ↔ lk tab s = some nd.name := fun nd hnd s => by
    rw [hs nd hnd]
    constructor
    · intro hm
      obtain ⟨q, hq, rfl⟩ := List.mem_map.mp hm
      obtain ⟨hq1, hq2⟩ := List.mem_filter.mp hq
      have e : q.2 = nd.name := by simpa using hq2
      rw [← e]; exact lk_of hn hq1
    · intro hm
      exact List.mem_map.mpr ⟨(s, nd.name), List.mem_filter.mpr ⟨lk_pair hm, by simp⟩, rfl⟩
  refine ⟨h1, fun nd hnd s hsm => ?_, fun nd hnd hno hc => ?_, fun a b hab => ?_, ?_⟩
  · have := (hsp nd hnd s).mp hsm
    exact ⟨this, by rw [h1]; exact named_mem.mpr ⟨_, lk_pair this, .inl rfl⟩⟩
  · obtain ⟨n, hc⟩ := hc
    have h2 := hc
    rw [itT_succ] at h2
    cases hz : itT (lk tab) n nd.name with
    | none => rw [hz] at h2; cases h2
    | some z =>
      rw [hz, Option.bind_some] at h2
      refine hno z ((hsp nd hnd z).mpr h2) ⟨n, ?_⟩
      show (lk tab z).bind (itT (lk tab) n) = some z
      rw [h2, Option.bind_some, hz]
  · rw [h1]; exact named_mem.mpr ⟨_, lk_pair hab, .inr rfl⟩
  · rw [hg]
    unfold readyOf dueOf
    rw [List.filter_map, List.map_map]
    refine (List.map_congr_left fun z _ => rfl).trans ((List.map_id' _).trans (List.filter_congr fun z _ => ?_))
    simp only [Function.comp, nodeOf]
    by_cases hz : z ∈ tab.map (·.1) <;> simp only [hz, if_true, if_false, not_true_eq_false, not_false_eq_true, decide_false, decide_true] <;> rfl

theorem rst_Plain2 : True := by
  w_top off
  trivial
/-- how far a name's pointers lead -/
noncomputable def lev (tab : Tab) (z : Str) : Nat := stepsN (lk tab) (tab.length + 1) z
noncomputable def succs (tab : Tab) (z : Str) : List Str := (tab.filter fun p => p.2 = z).map (·.1)
noncomputable def npL (tab : Tab) (f : Nat) (z : Str) : Int := if lev tab z < f then -2 else if lev tab z = f then 0 else 1
structure Lev (tab : Tab) (f : Nat) (due : List Str) (l : List NV) : Prop where
  nd : due.Nodup
  mem : ∀ y, y ∈ due ↔ y ∈ namedOf tab ∧ lev tab y = f
  le : f ≤ tab.length + 1
  top : f = tab.length + 1 → due = []
  st : l = (namedOf tab).map fun z => (z, npL tab f z, succs tab z)
theorem steps_le {t : Str → Option Str} : ∀ (n : Nat) (y : Str), stepsN t n y ≤ n
  | 0, _ => Nat.le_refl _
  | n + 1, y => by
    unfold stepsN
    cases t y with
    | none => exact Nat.zero_le _
    | some z => exact Nat.succ_le_succ (steps_le n z)
theorem steps_min {t : Str → Option Str} : ∀ (n : Nat) (y : Str), stepsN t n y = min n (stepsN t (n + 1) y)
  | 0, y => by simp [stepsN]
  | n + 1, y => by
    have e1 : stepsN t (n + 1) y = match t y with | none => 0 | some z => stepsN t n z + 1 := rfl
    have e2 : stepsN t (n + 1 + 1) y = match t y with | none => 0 | some z => stepsN t (n + 1) z + 1 := rfl
    rw [e1, e2]
    cases t y with
    | none => simp
    | some z =>
      have := steps_min (t := t) n z
      simp only
      exact oq234 this
theorem lev_none {tab : Tab} {z : Str} (h : lk tab z = none) : lev tab z = 0 := by unfold lev stepsN; rw [h]
theorem lev_some {tab : Tab} {z y : Str} (h : lk tab z = some y) : lev tab z = min tab.length (lev tab y) + 1 := by
  unfold lev
  rw [← steps_min]
  conv => lhs; unfold stepsN
  rw [h]
theorem lev_key {tab : Tab} {z : Str} (h : lev tab z ≠ 0) : ∃ y, lk tab z = some y := by
  cases hz : lk tab z with
  | none => exact absurd (lev_none hz) h
  | some y => exact ⟨y, rfl⟩
theorem key_lk {tab : Tab} (hn : (tab.map (·.1)).Nodup) {z : Str} (h : z ∈ tab.map (·.1)) : ∃ y, lk tab z = some y := by
  obtain ⟨p, hp, rfl⟩ := List.mem_map.mp h
  exact ⟨p.2, lk_of hn hp⟩
theorem pigeon {tab : Tab} {y : Str} (hy : lev tab y = tab.length) (z : Str) : lev tab z ≠ tab.length + 1 := by
  intro hz
  have hc : ∀ i, i ≤ tab.length → ∃ u, itT (lk tab) i y = some u ∧ lev tab u = tab.length - i := by
    intro i
    induction i with
    | zero => intro _; exact ⟨y, rfl, hy⟩
    | succ i ih =>
      intro hi
      obtain ⟨u, hu, hlu⟩ := ih (by exact Nat.le_of_lt hi)
      obtain ⟨v, hv⟩ := lev_key (tab := tab) (z := u) (by exact oq235 hz hi hlu)
      have := lev_some hv
      exact ⟨v, by rw [itT_succ, hu, Option.bind_some, hv], by exact oq236 hz hi hlu this⟩
  let c : Nat → Str := fun i => (itT (lk tab) i y).getD (Str.ofString "")
  have hcl : ∀ i, i ≤ tab.length → lev tab (c i) = tab.length - i := fun i hi => by
    obtain ⟨u, hu, hlu⟩ := hc i hi
    show lev tab ((itT (lk tab) i y).getD _) = _
    rw [hu]; exact hlu
  have hnd : (z :: (List.range tab.length).map c).Nodup := by
    rw [List.nodup_cons]
    refine ⟨fun hm => ?_, ?_⟩
    · obtain ⟨i, hi, e⟩ := List.mem_map.mp hm
      have h1 := hcl i (Nat.le_of_lt (List.mem_range.mp hi))
      rw [e, hz] at h1; exact oq237 hy hz h1
    · unfold List.Nodup
      rw [List.pairwise_map]
      refine List.Pairwise.imp_of_mem ?_ List.pairwise_lt_range
      intro i j hi hj hij e
      have h1 := hcl i (Nat.le_of_lt (List.mem_range.mp hi))
      have h2 := hcl j (Nat.le_of_lt (List.mem_range.mp hj))
      have h3 := List.mem_range.mp hj
      rw [e] at h1; exact oq238 hz hij h1 h2 h3
  have := nodup_len hnd (c := tab.map (·.1)) fun x hx => by
    have hx0 : lev tab x ≠ 0 := by
      rcases List.mem_cons.mp hx with rfl | hx
      · exact oq239 hy hz
      · obtain ⟨i, hi, rfl⟩ := List.mem_map.mp hx
        have h1 := hcl i (Nat.le_of_lt (List.mem_range.mp hi))
        have h3 := List.mem_range.mp hi
        exact oq240 hz h1 h3
    obtain ⟨v, hv⟩ := lev_key hx0
    exact lk_mem hv
  simp only [List.length_cons, List.length_map, List.length_range] at this
  exact Nat.lt_irrefl _ this
theorem ins_nodup {acc : List Str} {y : Str} (h : acc.Nodup) : (ins acc y).Nodup := by
  unfold ins
  split
  · exact h
  · rename_i hn
    rw [List.nodup_append]
    exact ⟨h, List.nodup_cons.mpr ⟨List.not_mem_nil, List.nodup_nil⟩, fun a ha b hb e => hn (by rw [List.mem_singleton.mp hb] at e; exact e ▸ ha)⟩
theorem namedFold_nodup {ps : List (Str × Str)} : ∀ {acc : List Str}, acc.Nodup → (ps.foldl (fun acc p => ins (ins acc p.1) p.2) acc).Nodup := by
  induction ps with
  | nil => intro acc h; exact h
  | cons p r ih => intro acc h; rw [List.foldl_cons]; exact ih (ins_nodup (ins_nodup h))
theorem Lev.start {tab : Tab} {l : List NV} (hn : (tab.map (·.1)).Nodup) (h : l = graphOf tab) : Lev tab 0 (dueOf tab) l := by
  have h0 : ∀ z, lev tab z = 0 ↔ z ∉ tab.map (·.1) := fun z => by
    constructor
    · intro h1 h2
      obtain ⟨y, hy⟩ := key_lk hn h2
      have := lev_some hy; exact oq241 h1 this
    · intro h1
      cases hz : lk tab z with
      | none => exact lev_none hz
      | some y => exact absurd (lk_mem hz) h1
  refine ⟨(namedFold_nodup List.nodup_nil).filter _, fun y => ?_, Nat.zero_le _, fun e => by omega, ?_⟩
  · unfold dueOf; rw [List.mem_filter, h0]; simp
  · rw [h, graph_full hn]
    refine List.map_congr_left fun z _ => ?_
    unfold nodeOf npL succs
    rw [if_neg (Nat.not_lt_zero _)]
    by_cases e : z ∈ tab.map (·.1)
    · rw [if_pos e, if_neg fun h1 => (h0 z).mp h1 e]
    · rw [if_neg e, if_pos ((h0 z).mpr e)]
theorem Lev.lt {tab : Tab} {f : Nat} {due : List Str} {l : List NV} (h : Lev tab f due l) (hne : due ≠ []) : f ≤ tab.length := by
  have h1 := h.le
  by_cases e : f = tab.length + 1
  · exact absurd (h.top e) hne
  · exact oq242 h1 e
theorem Lev.len {tab : Tab} {f : Nat} {due : List Str} {l : List NV} (h : Lev tab f due l) (hn : ∀ y ∈ namedOf tab, y ∈ nms) : due.length ≤ 7 ∧ ∀ y ∈ due, y ∈ nms := by
  have h1 : ∀ y ∈ due, y ∈ nms := fun y hy => hn y ((h.mem y).mp hy).1
  exact ⟨nodup_len h.nd h1, h1⟩
section
variable {tab : Tab} {a : Str → Int}
noncomputable def stA (tab : Tab) (a : Str → Int) : List NV := (namedOf tab).map fun z => (z, a z, succs tab z)
theorem stA_congr {a c : Str → Int} (h : ∀ z ∈ namedOf tab, a z = c z) : stA tab a = stA tab c := List.map_congr_left fun z hz => by rw [h z hz]
theorem vSet_st (y : Str) (k : Int) : vSet y k (stA tab a) = stA tab fun z => if z = y then k else a z := by
  unfold vSet stA
  rw [List.map_map]
  exact List.map_congr_left fun z _ => by simp only [Function.comp]; split <;> rfl
theorem vInc_st (y : Str) (k : Int) : vInc y k (stA tab a) = stA tab fun z => if z = y then a z + k else a z := by
  unfold vInc stA
  rw [List.map_map]
  exact List.map_congr_left fun z _ => by simp only [Function.comp]; split <;> rfl
theorem find_st {y : Str} (h : y ∈ namedOf tab) : (stA tab a).find? (fun n => decide (n.1 = y)) = some (y, a y, succs tab y) := by
  unfold stA
  rw [List.find?_map]
  have : (namedOf tab).find? ((fun n : NV => decide (n.1 = y)) ∘ fun z => (z, a z, succs tab z)) = some y := by
    cases hf : (namedOf tab).find? ((fun n : NV => decide (n.1 = y)) ∘ fun z => (z, a z, succs tab z)) with
    | none =>
      rw [List.find?_eq_none] at hf
      exact absurd (by simp) (hf y h)
    | some z =>
      have := List.find?_some hf
      simp only [Function.comp, decide_eq_true_eq] at this
      rw [this]
  rw [this]; rfl
theorem npOf_st {y : Str} (h : y ∈ namedOf tab) : npOf (stA tab a) y = some (a y) := by unfold npOf; rw [find_st h]; rfl
theorem succOf_st {y : Str} (h : y ∈ namedOf tab) : succOf (stA tab a) y = succs tab y := by unfold succOf; rw [find_st h]; rfl
theorem decFold : ∀ (zs : List Str) (a : Str → Int) (r : List Str), zs.Nodup → (∀ z ∈ zs, z ∈ namedOf tab ∧ a z = 1) → zs.foldl decOne (stA tab a, r) = (stA tab (fun u => if u ∈ zs then 0 else a u), r ++ zs)
  | [], a, r, _, _ => by simp
  | z :: zs, a, r, hn, h => by
    rw [List.nodup_cons] at hn
    obtain ⟨hzN, hz1⟩ := h z (.head _)
    rw [List.foldl_cons]
    have e : decOne (stA tab a, r) z = (stA tab (fun u => if u = z then a u + -1 else a u), r ++ [z]) := by
      unfold decOne
      simp only [vInc_st, npOf_st hzN, if_true, hz1]
      rfl
    rw [e, decFold zs _ _ hn.2 fun z' hz' => ⟨(h z' (.tail _ hz')).1, by
      have : z' ≠ z := fun e => hn.1 (e ▸ hz')
      rw [if_neg this]; exact (h z' (.tail _ hz')).2⟩]
    rw [List.append_assoc]
    refine Prod.ext (stA_congr fun u _ => ?_) rfl
    simp only [List.mem_cons]
    by_cases hu : u = z
    · subst hu; simp [hn.1, hz1]
    · simp [hu]
theorem doneOne_st {y : Str} {r : List Str} (hy : y ∈ namedOf tab) (hn : (succs tab y).Nodup) (h : ∀ z ∈ succs tab y, z ∈ namedOf tab ∧ a z = 1 ∧ z ≠ y) :
    doneOne (stA tab a, r) y = (stA tab (fun u => if u ∈ succs tab y then 0 else if u = y then -2 else a u), r ++ succs tab y) := by
  unfold doneOne
  simp only [succOf_st hy, vSet_st]
  exact decFold _ _ _ hn fun z hz => ⟨(h z hz).1, by rw [if_neg (h z hz).2.2]; exact (h z hz).2.1⟩
end
theorem outAll_st {tab : Tab} : ∀ (ss : List Str) (a : Str → Int) (nds : List Nd), nv nds = stA tab a → nv (outAll ss nds) = stA tab fun z => if z ∈ ss then -1 else a z
  | [], a, nds, h => by simpa [outAll] using h
  | y :: ss, a, nds, h => by
    show nv (outAll ss (setNp y (-1) nds)) = _
    rw [outAll_st ss _ _ (by rw [nv_setNp', h, vSet_st])]
    refine stA_congr fun z _ => ?_
    simp only [List.mem_cons]
    by_cases h1 : z = y <;> by_cases h2 : z ∈ ss <;> simp [h1, h2]
theorem uniq_sorted {R : Str → Str → Prop} (hR : ∀ a c, R a c → R c a → False) : ∀ {l₁ l₂ : List Str}, (∀ z, z ∈ l₁ ↔ z ∈ l₂) → l₁.Pairwise R → l₂.Pairwise R → l₁ = l₂
  | [], [], _, _, _ => rfl
  | [], b :: r, h, _, _ => absurd ((h b).mpr (.head _)) List.not_mem_nil
  | a :: r, [], h, _, _ => absurd ((h a).mp (.head _)) List.not_mem_nil
  | a :: r₁, b :: r₂, h, h1, h2 => by
    rw [List.pairwise_cons] at h1 h2
    have hab : a = b := by
      rcases List.mem_cons.mp ((h a).mp (.head _)) with e | ha
      · exact e
      · rcases List.mem_cons.mp ((h b).mpr (.head _)) with e | hb
        · exact e.symm
        · exact (hR _ _ (h2.1 a ha) (h1.1 b hb)).elim
    subst hab
    have n1 : a ∉ r₁ := fun hm => hR _ _ (h1.1 a hm) (h1.1 a hm)
    have n2 : a ∉ r₂ := fun hm => hR _ _ (h2.1 a hm) (h2.1 a hm)
    rw [uniq_sorted hR (fun z => ?_) h1.2 h2.2]
    have hz := h z
    rw [List.mem_cons, List.mem_cons] at hz
    constructor
    · intro hm
      rcases hz.mp (.inr hm) with rfl | h3
      · exact absurd hm n1
      · exact h3
    · intro hm
      rcases hz.mpr (.inr hm) with rfl | h3
      · exact absurd hm n2
      · exact h3
theorem idx_pairwise {l : List Str} (hn : l.Nodup) : l.Pairwise fun a c => l.idxOf a < l.idxOf c := by
  rw [List.pairwise_iff_getElem]
  intro i j hi hj hij
  rw [List.Nodup.idxOf_getElem hn, List.Nodup.idxOf_getElem hn]; exact hij
theorem not_take {l : List Str} (hn : l.Nodup) {i : Nat} {y : Str} (h : l[i]? = some y) : y ∉ l.take i := fun hm => by
  obtain ⟨j, hj, e⟩ := List.mem_iff_getElem.mp hm
  rw [List.length_take] at hj
  rw [List.getElem_take] at e
  have hi := (List.getElem?_eq_some_iff.mp h).1
  have he := (List.getElem?_eq_some_iff.mp h).2
  have := (List.getElem_inj hn).mp (e.trans he.symm)
  exact oq243 hj hi this
theorem succs_iff {tab : Tab} (hn : (tab.map (·.1)).Nodup) {z y : Str} : z ∈ succs tab y ↔ lk tab z = some y := by
  unfold succs
  constructor
  · intro hm
    obtain ⟨q, hq, rfl⟩ := List.mem_map.mp hm
    obtain ⟨hq1, hq2⟩ := List.mem_filter.mp hq
    have e : q.2 = y := by simpa using hq2
    rw [← e]; exact lk_of hn hq1
  · intro hm
    exact List.mem_map.mpr ⟨(z, y), List.mem_filter.mpr ⟨lk_pair hm, by simp⟩, rfl⟩
theorem succs_nodup {tab : Tab} (hn : (tab.map (·.1)).Nodup) (y : Str) : (succs tab y).Nodup := hn.sublist (List.Sublist.map _ List.filter_sublist)
theorem Lev.next {tab : Tab} {f : Nat} {due : List Str} {nds : List Nd} (hn : (tab.map (·.1)).Nodup) (hl : tab.length ≤ 13) (h : Lev tab f due (nv nds)) (hne : due ≠ []) :
    (∀ y ∈ due, y ∈ nds.map (·.name)) ∧ (∀ i y, due[i]? = some y → npOf (doneAll (due.take i) (nv (outAll due nds), [])).1 y = some (-1)) ∧ (∀ n ∈ nv (outAll due nds), ∀ z ∈ n.2.2, z ∈ (nv (outAll due nds)).map (·.1)) ∧ SuccLe 900 (nv (outAll due nds)) ∧
      Lev tab (f + 1) (doneAll due (nv (outAll due nds), [])).2 (doneAll due (nv (outAll due nds), [])).1 ∧ (∀ k ∈ freeOf tab tab (f + 1), ∃ z, lk tab k = some z ∧ z ∈ due) ∧
      ∀ os, os.Perm (freeOf tab tab (f + 1)) → os.Pairwise (Lx (fun k => due.idxOf ((lk tab k).getD (Str.ofString ""))) (freeOf tab tab (f + 1))) → os = (doneAll due (nv (outAll due nds), [])).2 := by
  have hfl := h.lt hne
  have hnames : nds.map (·.name) = namedOf tab := by
    have := congrArg (List.map (·.1)) h.st
    unfold nv at this
    rw [List.map_map, List.map_map] at this
    exact this.trans (List.map_id' _)
  have hS2 : ∀ y ∈ due, ∀ z, lk tab z = some y → lev tab z = f + 1 ∧ z ∈ namedOf tab ∧ z ∉ due := fun y hy z hz => by
    have h1 := lev_some hz
    have h2 := ((h.mem y).mp hy).2
    have h3 : lev tab z = f + 1 := by exact oq244 hfl h1 h2
    exact ⟨h3, named_mem.mpr ⟨_, lk_pair hz, .inl rfl⟩, fun hm => by have := ((h.mem z).mp hm).2; exact oq245 h1 h2 h3 this⟩
  have hpg : f = tab.length → ∀ z, lev tab z ≠ tab.length + 1 := fun e z => by
    obtain ⟨y0, r0, e0⟩ : ∃ y r, due = y :: r := by
      cases due with
      | nil => exact absurd rfl hne
      | cons y r => exact ⟨y, r, rfl⟩
    have := ((h.mem y0).mp (by rw [e0]; exact .head _)).2
    exact pigeon (y := y0) (by exact Eq.trans this e) z
  have hS3 : ∀ z, lev tab z = f + 1 → ∃ y, lk tab z = some y ∧ y ∈ due := fun z hz => by
    obtain ⟨y, hy⟩ := lev_key (tab := tab) (z := z) (by exact oq246 hz)
    have h1 := lev_some hy
    have h2 : lev tab y = f := by
      by_cases e : f = tab.length
      · exact absurd (by exact oq247 hz h1 e) (hpg e z)
      · exact oq248 hfl hz h1 e
    exact ⟨y, hy, (h.mem y).mpr ⟨named_mem.mpr ⟨_, lk_pair hy, .inr rfl⟩, h2⟩⟩
  have hst : nv nds = stA tab (npL tab f) := h.st
  have hout := outAll_st due _ nds hst
  generalize nv (outAll due nds) = l1 at *
  subst hout
  have hdone : ∀ i, i ≤ due.length → doneAll (due.take i) (stA tab (fun z => if z ∈ due then -1 else npL tab f z), []) =
      (stA tab (fun u => if u ∈ due.take i then -2 else if u ∈ (due.take i).flatMap (succs tab) then 0 else if u ∈ due then -1 else npL tab f u), (due.take i).flatMap (succs tab)) := by
    intro i
    induction i with
    | zero => intro _; simp [doneAll]
    | succ i ih =>
      intro hi
      obtain ⟨y, hy⟩ : ∃ y, due[i]? = some y := ⟨_, List.getElem?_eq_getElem (by exact hi)⟩
      have hyd := List.mem_of_getElem? hy
      have hyt := not_take h.nd hy
      rw [doneAll_take hy, ih (by exact Nat.le_of_lt hi), doneOne_st ((h.mem y).mp hyd).1 (succs_nodup hn y) fun z hz => ?_]
      · have ht : due.take (i + 1) = due.take i ++ [y] := by rw [List.take_add_one, hy]; rfl
        rw [ht, List.flatMap_append]
        have e1 : [y].flatMap (succs tab) = succs tab y := by simp
        rw [e1]
        refine Prod.ext (stA_congr fun u _ => ?_) rfl
        simp only [List.mem_append, List.mem_singleton]
        by_cases hu : u ∈ succs tab y
        · have h1 := (hS2 y hyd u ((succs_iff hn).mp hu)).2.2
          have h2 : u ∉ due.take i := fun hm => h1 (List.mem_of_mem_take hm)
          have h3 : u ≠ y := fun e => h1 (e ▸ hyd)
          simp [hu, h2, h3]
        · by_cases h3 : u = y
          · simp [hu, h3, h3 ▸ hu]
          · simp [hu, h3]
      · have hz1 := (succs_iff hn).mp hz
        obtain ⟨a1, a2, a3⟩ := hS2 y hyd z hz1
        have h2 : z ∉ due.take i := fun hm => a3 (List.mem_of_mem_take hm)
        have h4 : z ∉ (due.take i).flatMap (succs tab) := fun hm => by
          obtain ⟨y', hy', hz'⟩ := List.mem_flatMap.mp hm
          have := (succs_iff hn).mp hz'
          rw [hz1] at this
          cases this
          exact hyt hy'
        refine ⟨a2, ?_, fun e => a3 (e ▸ hyd)⟩
        rw [if_neg h2, if_neg h4, if_neg a3]
        unfold npL
        rw [if_neg (by exact oq249 a1), if_neg (by exact oq250 a1)]
  have hall := hdone due.length (Nat.le_refl _)
  rw [List.take_length] at hall
  have hrd : ∀ z, z ∈ due.flatMap (succs tab) ↔ z ∈ namedOf tab ∧ lev tab z = f + 1 := fun z => by
    rw [List.mem_flatMap]
    constructor
    · rintro ⟨y, hy, hz⟩
      obtain ⟨a1, a2, _⟩ := hS2 y hy z ((succs_iff hn).mp hz)
      exact ⟨a2, a1⟩
    · rintro ⟨_, hz⟩
      obtain ⟨y, hy1, hy2⟩ := hS3 z hz
      exact ⟨y, hy2, (succs_iff hn).mpr hy1⟩
  have hfree : ∀ z, z ∈ freeOf tab tab (f + 1) ↔ z ∈ due.flatMap (succs tab) := fun z => by
    rw [hrd]
    unfold freeOf
    rw [List.mem_filter]
    constructor
    · rintro ⟨h1, h2⟩
      have h2' : lev tab z = f + 1 := by simpa [lev] using h2
      obtain ⟨y, hy, _⟩ := hS3 z h2'
      exact ⟨named_mem.mpr ⟨_, lk_pair hy, .inl rfl⟩, h2'⟩
    · rintro ⟨_, h2⟩
      obtain ⟨y, hy, _⟩ := hS3 z h2
      exact ⟨lk_mem hy, by simpa [lev] using h2⟩
  refine ⟨fun y hy => by rw [hnames]; exact ((h.mem y).mp hy).1, fun i y hy => ?_, fun n hnm z hz => ?_, fun n hnm => ?_, ?_, fun k hk => ?_, fun os hp hpw => ?_⟩
  · have hyd := List.mem_of_getElem? hy
    have hi := (List.getElem?_eq_some_iff.mp hy).1
    rw [hdone i (Nat.le_of_lt hi), npOf_st ((h.mem y).mp hyd).1, if_neg (not_take h.nd hy), if_neg, if_pos hyd]
    intro hm
    obtain ⟨y', hy', hz'⟩ := List.mem_flatMap.mp hm
    exact (hS2 y' (List.mem_of_mem_take hy') y ((succs_iff hn).mp hz')).2.2 hyd
  · unfold stA at hnm ⊢
    obtain ⟨u, hu, rfl⟩ := List.mem_map.mp hnm
    rw [List.map_map]
    refine List.mem_map.mpr ⟨z, named_mem.mpr ⟨_, lk_pair ((succs_iff hn).mp hz), .inl rfl⟩, rfl⟩
  · unfold stA at hnm
    obtain ⟨u, hu, rfl⟩ := List.mem_map.mp hnm
    show (succs tab u).length ≤ 900
    unfold succs
    rw [List.length_map]
    exact Nat.le_trans (List.length_filter_le _ _) (by exact oq251 hl)
  · rw [hall]
    refine ⟨?_, hrd, by exact Nat.lt_succ_of_le hfl, fun e => ?_, stA_congr fun z hz => ?_⟩
    · unfold List.Nodup
      rw [List.pairwise_flatMap]
      refine ⟨fun y _ => succs_nodup hn y, h.nd.imp fun hne z hz z' hz' e => ?_⟩
      have h1 := (succs_iff hn).mp hz
      have h2 := (succs_iff hn).mp hz'
      rw [e, h2] at h1
      exact hne (Option.some.inj h1).symm
    · refine List.eq_nil_iff_forall_not_mem.mpr fun z hz => ?_
      have := ((hrd z).mp hz).2
      exact hpg (by exact oq252 e) z (by exact oq253 e this)
    · by_cases h1 : z ∈ due
      · rw [if_pos h1]
        have := ((h.mem z).mp h1).2
        unfold npL
        rw [if_pos (by exact oq180 this)]
      · rw [if_neg h1]
        by_cases h2 : z ∈ due.flatMap (succs tab)
        · rw [if_pos h2]
          have := ((hrd z).mp h2).2
          unfold npL
          rw [if_neg (by exact oq254 this), if_pos this]
        · rw [if_neg h2, if_neg h1]
          have h3 : lev tab z ≠ f := fun e => h1 ((h.mem z).mpr ⟨hz, e⟩)
          have h4 : lev tab z ≠ f + 1 := fun e => h2 ((hrd z).mpr ⟨hz, e⟩)
          unfold npL
          by_cases h5 : lev tab z < f
          · rw [if_pos h5, if_pos (by exact Nat.lt_succ_of_lt h5)]
          · rw [if_neg h5, if_neg h3, if_neg (by exact oq255 h3 h4 h5), if_neg h4]
  · have := (hfree k).mp hk
    obtain ⟨y, hy, hz⟩ := List.mem_flatMap.mp this
    exact ⟨y, (succs_iff hn).mp hz, hy⟩
  · rw [hall]
    refine uniq_sorted (R := Lx (fun k => due.idxOf ((lk tab k).getD (Str.ofString ""))) (freeOf tab tab (f + 1))) (fun a c h1 h2 => by unfold Lx at h1 h2; exact oq256 h1 h2) (fun z => (hp.mem_iff).trans (hfree z)) hpw ?_
    rw [List.pairwise_flatMap]
    have hfn : (freeOf tab tab (f + 1)).Nodup := hn.filter _
    refine ⟨fun y hy => ?_, (idx_pairwise h.nd).imp fun hlt z hz z' hz' => ?_⟩
    · have e : succs tab y = (freeOf tab tab (f + 1)).filter fun k => decide (lk tab k = some y) := by
        unfold freeOf succs
        rw [List.filter_filter, List.filter_map]
        congr 1
        refine List.filter_congr fun p hp => ?_
        have h1 := lk_of hn (k := p.1) (z := p.2) hp
        simp only [Function.comp, h1]
        by_cases e : p.2 = y
        · have h2 := (hS2 y hy p.1 (by rw [h1, e])).1
          unfold lev at h2
          simp [e, h2]
        · simp [e]
      rw [e]
      refine List.Pairwise.imp_of_mem ?_ ((idx_pairwise hfn).filter _)
      intro z z' hz hz' hlt
      have h1 : lk tab z = some y := by simpa using (List.mem_filter.mp hz).2
      have h2 : lk tab z' = some y := by simpa using (List.mem_filter.mp hz').2
      exact .inr ⟨by show due.idxOf ((lk tab z).getD _) = due.idxOf ((lk tab z').getD _); rw [h1, h2], hlt⟩
    · refine .inl ?_
      show due.idxOf ((lk tab z).getD _) < due.idxOf ((lk tab z').getD _)
      rw [(succs_iff hn).mp hz, (succs_iff hn).mp hz']
      exact hlt

theorem rst_Cmp : True := by
  w_top off
  trivial
open Classical in
theorem dat_eqv {d e : Dat} (ha : kqdOk 9 d = true) (hb : kqdOk 9 e = true) : PyData.eqv (kqdP d) (kqdP e) = decide (d = e) := by
  have q := kqd_eqv 9 d e 9 ha hb
  by_cases hq : d = e
  · rw [decide_eq_true hq]; exact q.mpr hq
  · rw [decide_eq_false hq]; exact Bool.eq_false_iff.mpr fun x => hq (q.mp x)
section
variable {prog : Program} {w : World} {A : Around} {E : Value → Shared → Prop} {s : Shared} {b : Heap} {L : Addr} {led : Led} {v u : Value} {d e : Dat} {Q : Value → Shared → Prop}
open Classical in
theorem dat_ne (N : News b L s.heap led) (Da : DatIn led v d) (Db : DatIn led u e) (ha : kqdOk 9 d = true) (hb : kqdOk 9 e = true) (hu : A.units + 64 < cLine) (h : Q (.bool (!decide (d = e))) s) : wpAny (model prog w) A (compareOp .NotEq v u) Q E s := by
  obtain ⟨as, ra⟩ := kqd_in N 9 Da ha
  obtain ⟨bs, rb⟩ := kqd_in N 9 Db hb
  have la := kqd_lay 9 d ha
  have lb := kqd_lay 9 e hb
  refine ne_dataH ra rb ?_ ?_ hu (by rw [dat_eqv ha hb]; exact h)
  · unfold SeqAt.shaped; rw [la.1, Bool.true_and]; exact decide_eq_true (Nat.le_trans la.2 (by decide))
  · unfold SeqAt.shaped; rw [lb.1, Bool.true_and]; exact decide_eq_true (Nat.le_trans lb.2 (by decide))
open Classical in
theorem dat_eq (N : News b L s.heap led) (Da : DatIn led v d) (Db : DatIn led u e) (ha : kqdOk 9 d = true) (hb : kqdOk 9 e = true) (hu : A.units + 64 < cLine) (h : Q (.bool (decide (d = e))) s) : wpAny (model prog w) A (compareOp .Eq v u) Q E s := by
  obtain ⟨as, ra⟩ := kqd_in N 9 Da ha
  obtain ⟨bs, rb⟩ := kqd_in N 9 Db hb
  have la := kqd_lay 9 d ha
  have lb := kqd_lay 9 e hb
  refine eq_dataH ra rb ?_ ?_ hu (by rw [dat_eqv ha hb]; exact h)
  · unfold SeqAt.shaped; rw [la.1, Bool.true_and]; exact decide_eq_true (Nat.le_trans la.2 (by decide))
  · unfold SeqAt.shaped; rw [lb.1, Bool.true_and]; exact decide_eq_true (Nat.le_trans lb.2 (by decide))
end
noncomputable def dS (ss : List Str) : List Dat := ss.map Dat.str
noncomputable def dP (ps : List (Str × Str)) : List Dat := ps.map fun p => Dat.tuple [.str p.1, .str p.2]
theorem dS_inj {a c : List Str} : dS a = dS c ↔ a = c := ⟨fun h => by
  have := congrArg (List.map fun d : Dat => match d with | .str x => x | _ => Str.ofString "") h
  unfold dS at this
  simpa [List.map_map, Function.comp_def] using this, fun h => by rw [h]⟩
theorem datAll_strs {led : Led} {vs : List Value} {ss : List Str} (h : StrsAre vs ss) : DatAll led vs (dS ss) := by
  induction vs generalizing ss with
  | nil => cases ss with
    | nil => exact .nil
    | cons => simp [StrsAre] at h
  | cons v r ih =>
    obtain ⟨t, x, ss', rfl, rfl, h'⟩ := h.uncons
    exact .cons (.str x t) (ih h')
theorem dat_strL {led : Led} {r : Addr} {ss : List Str} (h : StrL led r ss) : DatIn led (.ref r) (.list (dS ss)) :=
  let ⟨_, _, M, hv⟩ := h; .list M (datAll_strs hv)
theorem dat_tup {led : Led} {r : Addr} {vs : List Value} {n : Nat} {ss : List Str} (M : (r, tupOf vs.toArray n) ∈ led) (h : StrsAre vs ss) : DatIn led (.ref r) (.tuple (dS ss)) := .tuple M (datAll_strs h)
theorem datAll_pairs {led : Led} : ∀ {vs : List Value} {ps : List (Str × Str)}, PairsAre led vs ps → DatAll led vs (dP ps)
  | [], [], _ => .nil
  | [], _ :: _, h => by have := h.1; simp at this
  | _ :: _, [], h => by have := h.1; simp at this
  | v :: vs, p :: ps, h => by
    obtain ⟨T, t1, t2, rfl, M⟩ := h.2 0 v p rfl rfl
    refine .cons (.tuple (vs := [.str p.1 t1, .str p.2 t2]) M (.cons (.str _ _) (.cons (.str _ _) .nil))) (datAll_pairs ⟨by simpa using h.1, fun i v' p' a c => h.2 (i + 1) v' p' (by simpa using a) (by simpa using c)⟩)
theorem dat_pairsL {led : Led} {r : Addr} {ps : List (Str × Str)} (h : PairsL led r ps) : DatIn led (.ref r) (.list (dP ps)) :=
  let ⟨_, _, M, hv⟩ := h; .list M (datAll_pairs hv)
theorem nms_ok : ∀ x ∈ nms, PyData.strOk x = true := by decide +kernel
theorem dS_ok {ss : List Str} (h : ∀ x ∈ ss, x ∈ nms) (n : Nat) : ∀ d ∈ dS ss, kqdOk n d = true := fun d hd => by
  obtain ⟨x, hx, rfl⟩ := List.mem_map.mp hd
  cases n <;> exact nms_ok x (h x hx)
theorem lS_ok {ss : List Str} (h : ∀ x ∈ ss, x ∈ nms) : kqdOk 9 (.list (dS ss)) = true := by
  simp only [kqdOk]; exact List.all_eq_true.mpr (dS_ok h 8)
theorem tS_ok {ss : List Str} (h : ∀ x ∈ ss, x ∈ nms) : kqdOk 9 (.tuple (dS ss)) = true := by
  simp only [kqdOk]; exact List.all_eq_true.mpr (dS_ok h 8)
theorem lP_ok {ps : List (Str × Str)} (h : ∀ p ∈ ps, p.1 ∈ nms ∧ p.2 ∈ nms) : kqdOk 9 (.list (dP ps)) = true := by
  simp only [kqdOk]
  refine List.all_eq_true.mpr fun d hd => ?_
  obtain ⟨p, hp, rfl⟩ := List.mem_map.mp hd
  simp only [kqdOk, List.all_cons, List.all_nil, Bool.and_true, Bool.and_eq_true]
  exact ⟨nms_ok _ (h p hp).1, nms_ok _ (h p hp).2⟩

theorem rst_LTop : True := by
  w_top off
  trivial
theorem LamTab.mono {led led' : Led} {P : Addr} {pos : Pos} {q : Str} (h : LamTab led P pos q) (k : ∀ p ∈ led, p ∈ led') : LamTab led' P pos q := by
  rcases h with h | ⟨c', oc, us, t, m1, m2, m3, m4⟩
  · exact .inl (k _ h)
  · exact .inr ⟨c', oc, us, t, k _ m1, k _ m2, m3, m4⟩
theorem StrD.keepS {w : World} {S : List Addr} {led led' : Led} {d : Addr} {tab : Tab} (h : StrD w led d tab) (k : Keep S led led') (hd : d ∉ S) : StrD w led' d tab :=
  let ⟨kvs, ⟨lo, o, M, hD⟩, hk⟩ := h; ⟨kvs, ⟨lo, o, k _ M hd, hD⟩, hk⟩
theorem StrD.mono {w : World} {led led' : Led} {d : Addr} {tab : Tab} (h : StrD w led d tab) (k : ∀ p ∈ led, p ∈ led') : StrD w led' d tab :=
  let ⟨kvs, ⟨lo, o, M, hD⟩, hk⟩ := h; ⟨kvs, ⟨lo, o, k _ M, hD⟩, hk⟩
theorem lam_keep {w : World} {led led' : Led} {x dx d2 rr : Addr} {rdy : Value} {np nf : Int} {ss : List Str} {nds : List Nd} {q : Str} {pos : Pos} (ND : NDL led) (HS : SorterIn led x dx d2 rdy np nf) (HL : StrL led rr ss) (HN : NodesIn w led d2 nds)
    (K : Keep (dx :: rr :: nds.map (·.at_)) led led') (h1 : (191 : Nat) ∉ dx :: rr :: nds.map (·.at_)) (h : LamTab led 191 pos q) : LamTab led' 191 pos q := by
  rcases h with h | ⟨c', oc, us, t, m1, m2, m3, m4⟩
  · exact .inl (K _ h h1)
  · refine .inr ⟨c', oc, us, t, K _ m1 h1, K _ m2 ?_, m3, m4⟩
    simp only [List.mem_cons, not_or]
    refine ⟨fun e => ?_, fun e => ?_, fun hm => ?_⟩
    · obtain ⟨es, n, M⟩ := HS.dxMem
      have h2 : (dx, oc) ∈ led := e ▸ m2
      have := ND.eq h2 M
      rw [this] at m3; cases m3
    · obtain ⟨vs, n, M, _⟩ := HL
      have h2 : (rr, oc) ∈ led := e ▸ m2
      have := ND.eq h2 M
      rw [this] at m3; cases m3
    · obtain ⟨nd, hnd, e⟩ := List.mem_map.mp hm
      obtain ⟨⟨⟨_, _, M⟩, _⟩, _⟩ := HN.2.1 nd hnd
      have h2 : (nd.at_, oc) ∈ led := e ▸ m2
      have := ND.eq h2 M
      rw [this] at m3; cases m3
theorem Spec.useG {w : World} {k : Nat} {f : Addr} {args : List Value} {Pre : Led → Prop} {Post : Led → Value → Led → Prop} (S : Spec w k f args Pre Post)
    {p : Program} {loose : List Str} {mean : ExcName → Option Value} {mg mb : Str → Option Value} {A : Around} {env' : Env} {outer : List Env} {base b : Heap} {L : Addr} {m : Str → Option Value} {s : Shared} {led : Led} {Q E : Value → Shared → Prop}
    (hh : A.handled = none) (hA : A.frames = some outer) (hf : env'.frame = some L) (hke : env'.scope.kind = .function) (hdp : A.depth + 1 + k < recursionLimit) (hu : A.units + 3 + 16 * k < cLine)
    (B : Below A base outer b) (F : Fr b L s.heap m) (X : (hd.heap_1 w.params).In b) (N : News b L s.heap led) (ND : NDL led) (T : Top p loose mean mg mb b) (pre : Pre led)
    (ret : ∀ v h' tk' led', Fr b L h' m → News b L h' led' → NDL led' → Post led v led' → Q v { s with heap := h', toks := tk' }) :
    wpAny (model P w) (A.deeper env') (call (.ref f) args) Q E s :=
  wpAny_call (S p loose mean mg mb (A.deeper env') A env' outer base b L m s led _ hh (Around.frames_deeper hA) hf hke hdp hu B F X N ND T pre ret)
theorem SpecH.useG {w : World} {k : Nat} {f : Addr} {args : List Value} {Pre : Led → Prop} {Post : Led → Value → Led → Prop} (S : SpecH w k f args Pre Post)
    {p : Program} {loose : List Str} {mean : ExcName → Option Value} {mg mb : Str → Option Value} {A : Around} {env' : Env} {outer : List Env} {base b : Heap} {L : Addr} {m : Str → Option Value} {s : Shared} {led : Led} {Q E : Value → Shared → Prop}
    (hh : A.handled = none) (hA : A.frames = some outer) (hf : env'.frame = some L) (hke : env'.scope.kind = .function) (hdp : A.depth + 1 + k < recursionLimit) (hu : A.units + 3 + 16 * k < cLine)
    (B : Below A base outer b) (F : Fr b L s.heap m) (X : (hd.heap_1 w.params).In b) (N : News b L s.heap led) (ND : NDL led) (T : Top p loose mean mg mb b) (C : CodeHd b 193 191) (pre : Pre led)
    (ret : ∀ v h' tk' led', Fr b L h' m → News b L h' led' → NDL led' → Post led v led' → Q v { s with heap := h', toks := tk' }) :
    wpAny (model P w) (A.deeper env') (call (.ref f) args) Q E s :=
  wpAny_call (S p loose mean mg mb (A.deeper env') A env' outer base b L m s led _ hh (Around.frames_deeper hA) hf hke hdp hu B F X N ND T C pre ret)
theorem make_sorterG {w : World} {p : Program} {loose : List Str} {mean : ExcName → Option Value} {mg mb : Str → Option Value} {A : Around} {env' : Env} {outer : List Env} {base b : Heap} {L : Addr} {m : Str → Option Value} {s : Shared} {led : Led} {Q E : Value → Shared → Prop}
    (hh : A.handled = none) (hA : A.frames = some outer) (hf : env'.frame = some L) (hke : env'.scope.kind = .function) (hdp : A.depth + 1 + 3 < recursionLimit) (hu : A.units + 3 + 48 < cLine)
    (B : Below A base outer b) (F : Fr b L s.heap m) (X : (hd.heap_1 w.params).In b) (N : News b L s.heap led) (ND : NDL led) (T : Top p loose mean mg mb b)
    (ret : ∀ x dx d2 h' tk' led', Fr b L h' m → News b L h' led' → NDL led' → SorterIn led' x dx d2 .none 0 0 → NodesIn w led' d2 [] → (∀ p ∈ led, p ∈ led') → (∀ p ∈ led, p.1 < dx ∧ p.1 < x ∧ p.1 < d2) → Q (.ref x) { s with heap := h', toks := tk' }) :
    wpAny (model P w) (A.deeper env') (call (.ref 149) []) Q E s := by
  refine call_cls (fI := 85) F X N (by k_is) (by k_is) (by k_is) fun x dx h' F' N' l1 l2 => ?_
  have ND' : NDL ((x, instObj 149 dx) :: (dx, dictOf [] 0) :: led) := (ND.cons l1).cons fun p hp => by
    rcases List.mem_cons.mp hp with rfl | hp
    · exact l2
    · exact Nat.lt_trans (l1 p hp) l2
  refine init_sorter_ok w (x := x) (dx := dx) p loose mean mg mb ((A.deeper env').under _) A env' outer base b L m { s with heap := h' } _ _ hh (Around.frames_deeper hA) hf hke ?_ ?_ B F' X N' ND' T ⟨List.mem_cons_self, List.mem_cons_of_mem _ List.mem_cons_self⟩ ?_
  · show A.depth + 1 + 1 + 2 < recursionLimit
    exact hdp
  · show A.units + 3 + 1 + 16 * 2 < cLine
    exact oq24 hu
  · rintro v h2 tk2 led2 F2 N2 ND2 ⟨rfl, d2, hs, hn, hl, k⟩
    refine ⟨rfl, ?_⟩
    exact ret x dx d2 h2 tk2 led2 F2 N2 ND2 hs hn (fun p hp => k p (List.mem_cons_of_mem _ (List.mem_cons_of_mem _ hp)) (by simpa using Nat.ne_of_lt (l1 p hp))) (fun p hp => ⟨l1 p hp, Nat.lt_trans (l1 p hp) l2, hl _ (List.mem_cons_of_mem _ (List.mem_cons_of_mem _ hp))⟩)

theorem rst_LStar : True := by
  w_top off
  trivial
/-- o.name(*e): the callee is looked up as an attribute, so a bound method is made -/
theorem MethodStar_ {M : Model} {A : Around} {env : Env} {s : Shared} {o e : Expr} {name : Str} {apos pos p : Pos} {Q E : Value → Shared → Prop}
    (h : wpAny M A (eval o env) (fun ov s₁ => wpAny M A (getAttr ov name true) (fun f s₂ => wpAny M A (callWith pos f [] (backTo pos (starEach [.Starred e p] env)) []) (fun v s' => Q v s') (fun v s' => E v s') s₂) (fun v s' => E v s') s₁) (fun v s' => E v s') s)
    (he : eval (.Call (.Attribute o name apos) [.Starred e p] [] pos) env = (do
      let ov ← eval o env
      standAt apos.atName
      let fx ← holding [ov] (do pure (← getAttr ov name true, []))
      callWith pos fx.1 fx.2 (backTo pos (starEach [.Starred e p] env)) []) := by rfl) :
    wpAny M A (eval (.Call (.Attribute o name apos) [.Starred e p] [] pos) env) Q E s := by
  rw [he]
  refine wpAny_bind (wpAny_mono h (fun ov s₁ h₁ => wpAny_bind (wpAny_standAt (wpAny_bind (wpAny_holding (wpAny_bind (wpAny_mono h₁ (fun f s₂ h₂ => wpAny_pure ?_) fun _ _ x => x)))))) fun _ _ x => x)
  exact h₂
theorem callWith_MS {M : Model} {A : Around} {K : Frag} {env : Env} {s : Shared} {pos p : Pos} {e : Expr} {q g : Addr} {self : Value} {Q E : Value → Shared → Prop} (hf : fnIn K g = true)
    (h : wpAny M A (eval e env) (fun v s₁ => StarOf M A E v (fun vs s₂ => MethP K q g self s₂.heap ∧ wpAny M A (call (.ref q) ([] ++ vs)) Q E s₂) s₁) E s)
    (he : starEach [.Starred e p] env = [(true, eval e env)] := by rfl) :
    wpAny M A (callWith pos (.ref q) [] (backTo pos (starEach [.Starred e p] env)) []) Q E s := by
  rw [he]
  exact ks_call rfl (keeps_M hf) (ks_lone h)
theorem so_bound {w : World} {A : Around} {E : Value → Shared → Prop} {s : Shared} {x dx d2 L f : Addr} {b : Heap} {m : Str → Option Value} {led : Led} {rdy : Value} {np nf : Int} {expr : Bool} {name : Str} {Q : Value → Shared → Prop}
    (F : Fr b L s.heap m) (X : (hd.heap_1 w.params).In b) (N : News b L s.heap led) (S : SorterIn led x dx d2 rdy np nf)
    (hg : plainGet (hd.heap_1 w.params) 149 name = true) (hh : hasDictIn (hd.heap_1 w.params) 149 = true) (hf : findIn (hd.heap_1 w.params) (.ref 149) name = some (some (.ref f))) (ht : isFn (hd.heap_1 w.params) (.ref f) = true)
    (hgf : specialIn (hd.heap_1 w.params) (.ref f) "__get__" = some (some (.builtin "function.__get__"))) (htk : takesIn (hd.heap_1 w.params) (.ref f) = some false) (hc : copiedNames.contains name = false)
    (hl : name ≠ Str.ofString "_node2info" ∧ name ≠ Str.ofString "_ready_nodes" ∧ name ≠ Str.ofString "_npassedout" ∧ name ≠ Str.ofString "_nfinished")
    (h : ∀ q h', Fr b L h' m → News b L h' ((q, methodObj (.ref f) (.ref x)) :: led) → (∀ p ∈ led, p.1 < q) → Q (.ref q) { s with heap := h', toks := s.toks + 1 }) :
    wpAny (model P w) A (getAttr (.ref x) name expr) Q E s := by
  obtain ⟨M1, hdd, t1, t2, t3, t4, t5, t6, k1, k2, k3, k4, n, M2⟩ := S
  refine kbm_bound F X N (InstAt.of_news N M1 M2) hg hh hf ht hgf htk hc ?_ h
  have b1 : ∀ a : Str, name ≠ a → (a == name) = false := fun a e => by simpa using fun q => e q.symm
  simp [getL, Value.isStr, b1 _ hl.1, b1 _ hl.2.1, b1 _ hl.2.2.1, b1 _ hl.2.2.2, DictEntry.refKey]
theorem Spec.useM {w : World} {k : Nat} {f q : Addr} {self : Value} {args : List Value} {Pre : Led → Prop} {Post : Led → Value → Led → Prop} (S : Spec w k f (self :: args) Pre Post)
    {p : Program} {loose : List Str} {mean : ExcName → Option Value} {mg mb : Str → Option Value} {A : Around} {env' : Env} {outer : List Env} {base b : Heap} {L : Addr} {m : Str → Option Value} {s : Shared} {led : Led} {Q E : Value → Shared → Prop}
    (hh : A.handled = none) (hA : A.frames = some outer) (hf : env'.frame = some L) (hke : env'.scope.kind = .function) (hdp : A.depth + 1 + k < recursionLimit) (hu : A.units + 3 + 16 * k < cLine)
    (B : Below A base outer b) (F : Fr b L s.heap m) (X : (hd.heap_1 w.params).In b) (N : News b L s.heap led) (ND : NDL led) (T : Top p loose mean mg mb b) (hq : (q, methodObj (.ref f) self) ∈ led) (pre : Pre led)
    (ret : ∀ v h' tk' led', Fr b L h' m → News b L h' led' → NDL led' → Post led v led' → Q v { s with heap := h', toks := tk' }) :
    wpAny (model P w) (A.deeper env') (call (.ref q) args) Q E s :=
  call_meth N hq (S p loose mean mg mb (A.deeper env') A env' outer base b L m s led _ hh (Around.frames_deeper hA) hf hke hdp hu B F X N ND T pre ret)
theorem sorter_done {w : World} {A : Around} {E : Value → Shared → Prop} {s : Shared} {x dx d2 L : Addr} {b : Heap} {m : Str → Option Value} {led : Led} {rdy : Value} {np nf : Int} {expr : Bool} {Q : Value → Shared → Prop}
    (F : Fr b L s.heap m) (X : (hd.heap_1 w.params).In b) (N : News b L s.heap led) (S : SorterIn led x dx d2 rdy np nf)
    (h : ∀ q h', Fr b L h' m → News b L h' ((q, methodObj (.ref 132) (.ref x)) :: led) → (∀ p ∈ led, p.1 < q) → Q (.ref q) { s with heap := h', toks := s.toks + 1 }) :
    wpAny (model P w) A (getAttr (.ref x) (Str.ofString "done") expr) Q E s :=
  so_bound F X N S (by k_is) (by k_is) (by k_is) (by k_is) (by k_is) (by k_is) (by decide +kernel) (by decide) h
theorem done_fn (w : World) : fnIn (hd.heap_1 w.params) 132 = true := by k_is
/-- the row's claim holds of True -/
theorem post_true (ns : List Int) : (RowW.claim (OpenRow.toRowW (OpenLaw.row Challenge.rw_mq0350_01))).post [ofPy (PyData.list (ns.map PyData.int))] (.bool true) [ofPy (PyData.list (ns.map PyData.int))] = true := by
  wrow_post
theorem no_raise (ns : List Int) : ∀ cls, (RowW.claim (OpenRow.toRowW (OpenLaw.row Challenge.rw_mq0350_01))).raises [ofPy (PyData.list (ns.map PyData.int))] cls = false := by
  refine raisesW_false ?_
  wrow_none_raised
theorem law_said : PySem.Challenge.rw_mq0350_01.wellSaid = true := by kernel_rfl!

theorem rst_LLaw : True := by
  w_top off
  trivial
local macro_rules | `(tactic| walk_at "callWith ref") => `(tactic| ((with_reducible show wpAny _ _ (callWith _ (Value.ref _) _ (backTo _ (starEach (_ :: _) _)) []) _ _ _); k_dflt (refine' callWith_K ?k1 ?k2 ?_; (case k1 => with_reducible assumption); (case k2 => k_is); k_whole)))
local macro_rules | `(tactic| walk_at "callWith ref") => `(tactic| ((with_reducible show wpAny _ _ (callWith _ (Value.ref _) _ (backTo _ (starEach [] _)) []) _ _ _); k_dflt (refine' callWith_K0 ?k1 ?k2 ?_; (case k1 => exact Frag.In.keeps (by with_reducible assumption) (Fr.keep (by with_reducible assumption))); (case k2 => k_is); k_whole)))
theorem lines_26 : True := by
  k_with "eval IfExp" => ((refine halt ?_))
  k_with "call ref" => ((refine halt ?_))
  k_with "compareOp NotEq ref ref" => ((refine halt ?_))
  k_with "compareOp Eq ref ref" => ((refine halt ?_))
  k_with "getMethod ref" => (((with_reducible show wpAny _ _ (getMethod (Value.ref _) (Str.ofString _) _) _ _ _); with_reducible refine so_meth (by assumption) (by assumption) (by assumption) (by walk_at "so") (by k_is) (by k_is) (by k_is) (by decide) ?_))
  k_with "eval Call Attribute" => (((with_reducible show wpAny _ _ (eval (Expr.Call (Expr.Attribute _ _ _) [Expr.Starred _ _] _ _) _) _ _ _); refine halt ?_))
  k_with "getAttr ref" => (((with_reducible show wpAny _ _ (getAttr (Value.ref _) (Str.ofString "done") _) _ _ _); refine halt ?_))
  k_with "StarOf ref" => ((refine halt ?_))
  trivial
theorem room_ok : callerA.depth + 1 + 8 < recursionLimit ∧ callerA.units + 3 + 16 * 8 < cLine := by decide +kernel
theorem intsAre_mine : ∀ {vs : List Value} {ns : List Int}, PyProof.Rows.IntsAre vs ns → IntsAre vs ns
  | _, _, .nil => rfl
  | _, _, .cons n t h => by
    have := intsAre_mine h
    unfold IntsAre at *
    simp [iv, this]
theorem mem_upd_cell {led : Led} {c a : Addr} {oc o o' : Obj} (ND : NDL led) (hc : (c, oc) ∈ led) (hm : (a, o) ∈ led) (hne : o.data ≠ oc.data) : (a, o) ∈ upd led c o' := mem_upd_ne hm (ND.ne hm hc fun e => hne (by rw [e]))
theorem PairsL.upd_cell {led : Led} {r c : Addr} {ps : List (Str × Str)} {oc : Obj} {x : Option Value} (h : PairsL led r ps) (ND : NDL led) (hc : (c, oc) ∈ led) (hd : oc.data = .cell x) (o' : Obj) : PairsL (upd led c o') r ps := by
  obtain ⟨vs, n, M, hv⟩ := h
  refine ⟨vs, n, mem_upd_cell ND hc M (by rw [hd]; intro e; cases e), hv.1, fun i v p a b => ?_⟩
  obtain ⟨T, t1, t2, e, m⟩ := hv.2 i v p a b
  exact ⟨T, t1, t2, e, mem_upd_cell ND hc m (by rw [hd]; intro e; cases e)⟩
theorem StrD.upd_cell {w : World} {led : Led} {d c : Addr} {tab : Tab} {oc : Obj} {x : Option Value} (h : StrD w led d tab) (ND : NDL led) (hc : (c, oc) ∈ led) (hd : oc.data = .cell x) (o' : Obj) : StrD w (upd led c o') d tab := by
  obtain ⟨kvs, ⟨lo, o, M, hD⟩, hk⟩ := h
  refine ⟨kvs, ⟨lo, o, mem_upd_cell ND hc M ?_, hD⟩, hk⟩
  obtain ⟨es, n, r⟩ := hD
  rw [hd, r.2.1]; intro e; cases e
theorem LamTab.mem {led : Led} {P : Addr} {pos : Pos} {q : Str} (h : LamTab led P pos q) : ∃ ps, (P, tabObj ps) ∈ led := by
  rcases h with h | ⟨c', oc, us, t, m1, m2, m3, m4⟩
  · exact ⟨_, h⟩
  · exact ⟨_, m1⟩
theorem LamTab.off {led led' : Led} {P : Addr} {pos : Pos} {q : Str} (h : LamTab led P pos q) (ND : NDL led) (K : Keep [P] led led') : ∀ p ∈ led, p.2.cls ≠ .none → p ∈ led' := fun p hp hc => by
  obtain ⟨ps, M⟩ := h.mem
  refine K p hp ?_
  rw [List.mem_singleton]
  exact ND.neC (a := p.1) (o := p.2) hp M fun e => hc e
theorem SorterIn.off {led led' : Led} {x dx d2 : Addr} {rdy : Value} {np nf : Int} (h : SorterIn led x dx d2 rdy np nf) (k : ∀ p ∈ led, p.2.cls ≠ .none → p ∈ led') : SorterIn led' x dx d2 rdy np nf := by
  obtain ⟨M1, hdd, t1, t2, t3, t4, t5, t6, k1, k2, k3, k4, n, M2⟩ := h
  exact ⟨k _ M1 (by intro e; cases e), hdd, t1, t2, t3, t4, t5, t6, k1, k2, k3, k4, n, k _ M2 (by intro e; cases e)⟩
theorem NodesIn.off {w : World} {led led' : Led} {d2 : Addr} {nds : List Nd} (h : NodesIn w led d2 nds) (k : ∀ p ∈ led, p.2.cls ≠ .none → p ∈ led') : NodesIn w led' d2 nds := by
  obtain ⟨⟨a, o, M, hd⟩, hall, r⟩ := h
  refine ⟨⟨a, o, k _ M (by rw [isDict_cls hd]; intro e; cases e), hd⟩, fun nd hn => ?_, r⟩
  obtain ⟨⟨⟨t1, t2, M⟩, ⟨vs, n, Ml, hv⟩, Md⟩, hqd⟩ := hall nd hn
  exact ⟨⟨⟨t1, t2, k _ M (by intro e; cases e)⟩, ⟨vs, n, k _ Ml (by intro e; cases e), hv⟩, k _ Md (by intro e; cases e)⟩, hqd⟩
theorem StrL.off {led led' : Led} {r : Addr} {ss : List Str} (h : StrL led r ss) (k : ∀ p ∈ led, p.2.cls ≠ .none → p ∈ led') : StrL led' r ss :=
  let ⟨vs, n, M, hv⟩ := h; ⟨vs, n, k _ M (by intro e; cases e), hv⟩
theorem StrD.off {w : World} {led led' : Led} {d : Addr} {tab : Tab} (h : StrD w led d tab) (k : ∀ p ∈ led, p.2.cls ≠ .none → p ∈ led') : StrD w led' d tab :=
  let ⟨kvs, ⟨lo, o, M, hD⟩, hk⟩ := h; ⟨kvs, ⟨lo, o, k _ M (by rw [isDict_cls hD]; intro e; cases e), hD⟩, hk⟩
/-- an address that no entry of the ledger has is none of the sorter's -/
theorem off_sorter {w : World} {led : Led} {x dx d2 rr : Addr} {rdy : Value} {np nf : Int} {ss : List Str} {nds nds' : List Nd} (HS : SorterIn led x dx d2 rdy np nf) (HL : StrL led rr ss) (HN : NodesIn w led d2 nds') (hat : nds'.map (·.at_) = nds.map (·.at_))
    (r : Addr) (hr : ∀ q ∈ led, q.1 ≠ r) : r ∉ dx :: rr :: nds.map (·.at_) := fun hm => by
  obtain ⟨es4, n4, Mdx4⟩ := HS.dxMem
  obtain ⟨vr4, nr4, Mrr4, _⟩ := HL
  rcases List.mem_cons.mp hm with e | hm
  · exact hr _ Mdx4 e.symm
  · rcases List.mem_cons.mp hm with e | hm
    · exact hr _ Mrr4 e.symm
    · rw [← hat] at hm
      obtain ⟨nd, hnd, e⟩ := List.mem_map.mp hm
      obtain ⟨⟨⟨_, _, M1⟩, _⟩, _⟩ := HN.2.1 nd hnd
      exact hr _ M1 e
set_option maxHeartbeats 40000000 in
theorem law_row : PySem.Challenge.rw_mq0350_01.row.Holds := hd (by
  dsimp only [osHook]
  w_strict (k_go0)
  all_goals (try k_fold)
  rename_i w s₀ s₁ mg mb G Y fa o pm cd doc ho hcd hg X V T B TE TW ns hs hlay0 hL0 hr hl2 w3 w4 a vs w5 hL ra w1 r0 hI hr2 hc1 hc2 hD h1 tk1 oc hoc X0 X' T' K' F' N' l0
  replace hoc : oc.data = .cell none := hoc
  replace codeHd : CodeHd (ghostOf s₁.heap [(193, 191)]) 193 191 := codeHd
  clear G Y ho hcd X V T B TE TW hs hlay0 hL0 hr hl2 hL ra w1 r0 hr2 hD X0 hT8 hT9
  generalize hgb : ghostOf s₁.heap [(193, 191)] = b at *
  generalize hgL : s₁.heap.objs.size = L at *
  obtain ⟨rd, ru⟩ := room_ok
  have hns : ns.length ≤ 63 := by exact oq257 hc1
  k_steps
  unfold Halt
  rename_i l1 h2 l2 D1 ws1 h3 hI1 hC1 hL1 l3 D2 ws2 h4 F4 N4 hI2 l4
  have NDa : NDL [(D2, listOf ws2.toArray 0), (D1, listOf ws1.toArray 0), (l1, listOf #[Value.int 55 tk1, Value.int 99 (tk1 + 1), Value.int 10 (tk1 + 1 + 1), Value.int 107 (tk1 + 1 + 1 + 1)] 0), (L + 1, oc), (191, tabObj #[])] := by
    obtain ⟨p1, p2, p3, p4⟩ := l4
    obtain ⟨q1, q2, q3⟩ := l3
    obtain ⟨t1, t2⟩ := l2
    refine ((((NDL.nil.cons ?_).cons ?_).cons ?_).cons ?_).cons ?_
    all_goals (intro q hq; simp only [List.mem_cons, List.not_mem_nil, or_false] at hq)
    · subst hq; exact Nat.lt_succ_of_lt l0
    · rcases hq with rfl | rfl <;> assumption
    · rcases hq with rfl | rfl | rfl <;> assumption
    · rcases hq with rfl | rfl | rfl | rfl <;> assumption
  have MD2 : (D2, listOf ws2.toArray 0) ∈ [(D2, listOf ws2.toArray 0), (D1, listOf ws1.toArray 0), (l1, listOf #[Value.int 55 tk1, Value.int 99 (tk1 + 1), Value.int 10 (tk1 + 1 + 1), Value.int 107 (tk1 + 1 + 1 + 1)] 0), (L + 1, oc), (191, tabObj #[])] := .head _
  have MCL : (L + 1, oc) ∈ [(D2, listOf ws2.toArray 0), (D1, listOf ws1.toArray 0), (l1, listOf #[Value.int 55 tk1, Value.int 99 (tk1 + 1), Value.int 10 (tk1 + 1 + 1), Value.int 107 (tk1 + 1 + 1 + 1)] 0), (L + 1, oc), (191, tabObj #[])] := .tail _ (.tail _ (.tail _ (.head _)))
  have MTB : (191, tabObj #[]) ∈ [(D2, listOf ws2.toArray 0), (D1, listOf ws1.toArray 0), (l1, listOf #[Value.int 55 tk1, Value.int 99 (tk1 + 1), Value.int 10 (tk1 + 1 + 1), Value.int 107 (tk1 + 1 + 1 + 1)] 0), (L + 1, oc), (191, tabObj #[])] := .tail _ (.tail _ (.tail _ (.tail _ (.head _))))
  generalize [(D2, listOf ws2.toArray 0), (D1, listOf ws1.toArray 0), (l1, listOf #[Value.int 55 tk1, Value.int 99 (tk1 + 1), Value.int 10 (tk1 + 1 + 1), Value.int 107 (tk1 + 1 + 1 + 1)] 0), (L + 1, oc), (191, tabObj #[])] = led0 at *
  have hI2' := intsAre_mine hI2
  have hnl : ([55, 99, 10, 107] ++ ns.take 9 : List Int).length ≤ 13 := by rw [List.length_append, List.length_take]; show 4 + _ ≤ _; exact oq258 hc1
  generalize ([55, 99, 10, 107] ++ ns.take 9 : List Int) = ms at *
  have hpok := pk_ok ms
  have hpl : (ms.map pk).length ≤ 13 := by rw [List.length_map]; exact hnl
  try k_fold
  refine Spec.useG (law_pairs_ok w (a := D2) (ns := ms) (by exact oq251 hnl)) rfl rfl rfl rfl (by exact oq259 rd) (by exact oq260 ru) K' F4 X' N4 NDa T' ⟨ws2, 0, MD2, hI2'⟩ ?_
  rintro _ h5 tk5 led1 F5 N5 ND1 p1x0
  refine fresh_goal fun G1 hG1 => ?_
  obtain ⟨r1, rfl, HT1, hs1⟩ := p1x0
  generalize ms.map pk = ps at *
  refine hG1 ?_
  clear hG1 G1
  k_steps
  unfold Halt
  try k_fold
  refine Spec.useG (law_entries_ok w (a := r1) (ps := ps) (by exact oq251 hpl)) rfl rfl rfl rfl (by exact oq259 rd) (by exact oq260 ru) K' (by assumption) X' (by assumption) ND1 T' HT1 ?_
  rintro _ h6 tk6 led2 F6 N6 ND2 p2x0
  refine fresh_goal fun G2 hG2 => ?_
  obtain ⟨r2, rfl, HP2, hs2⟩ := p2x0
  have HT2 := HT1.mono hs2
  refine hG2 ?_
  clear hG2 G2
  k_steps
  unfold Halt
  rename_i h7 F7 N7
  obtain ⟨tv, tn, MT, hTv⟩ := HT2
  have hpok' : ∀ p ∈ ps, _ := fun p hp => piece_len (hpok p hp)
  try k_fold
  refine comp_src (src_list (by rfl) F7 N7 MT) ND2 (by intro q hq; rw [List.mem_singleton.mp hq]; exact MT) (by decide) rfl (by rw [sizeLine_eq, List.size_toArray, hTv.1]; exact oq261 hpl) (fun i ys led₁ => StrsAre ys ((ps.take i).map piece) ∧ ∀ q ∈ led2, q ∈ led₁) ⟨by simpa using StrsAre.nil, fun q hq => hq⟩ ?_ ?_
  · rintro i v ys led₁ h8 tk8 I oI ic D C oC mC hi hv p3x0 hyl hcI hic hnC ND8 hfx F8 N8
    refine fresh_goal fun G3 hG3 => ?_
    obtain ⟨hys, hsub⟩ := p3x0
    obtain ⟨q, hq, T0, t1, t2, t3, rfl, MT0⟩ := hTv.get (by simpa using hv)
    have hqm := List.mem_of_getElem? hq
    have hT1 := hsub _ MT0
    have hTC : T0 ≠ C := ND8.tail.head _ (.tail _ hT1)
    obtain ⟨pl1, pl2, pl3⟩ := hpok' q hqm
    obtain ⟨po1, po2, po3⟩ := hpok q hqm
    have e1 : (Str.ofString "=").length = 1 := by decide +kernel
    have hz1 : q.1.length + (Str.ofString "=").length ≤ sizeLine := by rw [sizeLine_eq]; rw [Str.length_append] at pl1; exact oq262 pl1 e1
    have hz2 : (q.1 ++ Str.ofString "=").length + (wr q.2.1 q.2.2).length ≤ sizeLine := by rw [sizeLine_eq]; exact oq263 pl1 pl2
    refine hG3 ?_
    clear hG3 G3
    k_steps
    unfold Halt
    rename_i h9 F9 N9 h10 oC10 nC10 F10 N10 h11 oC11 nC11 F11 N11 h12 oC12 nC12 F12 N12 cE12 t12 k12
    rw [upd_upd, upd_upd] at N12
    clear F9 N9 F10 N10 F11 N11 nC10 nC11
    have ND12 := ND8.upd (a := C) (o := oC12)
    try k_fold
    refine Spec.useG (law_written_ok w (x := q.2.1) (dr := q.2.2) po3 po2) rfl rfl rfl rfl (by exact oq259 rd) (by exact oq260 ru) K' F12 X' N12 ND12 T' trivial ?_
    rintro _ h13 tk13 led13 F13 N13 ND13 p4x0
    refine fresh_goal fun G4 hG4 => ?_
    obtain ⟨⟨tk14, rfl⟩, hs13⟩ := p4x0
    refine hG4 ?_
    clear hG4 G4
    k_steps
    have hIC : I ≠ C := (ND8.head _ (.head _)).symm
    have hDC : D ≠ C := ND8.tail.head _ (.head _)
    have up12 : ∀ q ∈ led₁, q ∈ (upd ((I, oI) :: (C, oC) :: (D, lstO ys) :: led₁) C oC12) := fun q hq => mem_upd_ne (.tail _ (.tail _ (.tail _ hq))) (ND8.tail.head _ (.tail _ hq))
    have hpt : (ps.take (i + 1)).map piece = (ps.take i).map piece ++ [piece q] := by rw [List.take_add_one, hq, List.map_append]; rfl
    refine ⟨_, _, led13, oC12, _, rfl, F13, N13, ND13, hs13 _ (mem_upd_ne (.head _) hIC), hs13 _ (mem_upd_ne (.tail _ (.tail _ (.head _))) hDC), hs13 _ (mem_upd_self (.tail _ (.head _))), nC12, fun q hq => hs13 _ (up12 q (hfx q hq)), fun led' kk => ⟨?_, fun q hq => ?_⟩⟩
    · rw [hpt]; exact hys.push
    · have hq1 := hsub q hq
      exact kk q (hs13 _ (up12 q hq1)) (ND8.head _ (.tail _ (.tail _ hq1))) (ND8.tail.tail.head _ hq1) (ND8.tail.head _ (.tail _ hq1))
  · rintro ys led₁ h8 tk8 D p5x0 ND8 hfx F8 N8
    refine fresh_goal fun G5 hG5 => ?_
    obtain ⟨hys, hsub⟩ := p5x0
    rw [List.size_toArray, hTv.1, List.take_length] at hys
    have hjn : (((ps.map piece)).map (·.length)).sum + (ps.map piece).length * (Str.ofString ", ").length ≤ 16777216 := by
      have h1 := sum_le (l := (ps.map piece).map (·.length)) (c := 109) fun x hx => by
        obtain ⟨y, hy, rfl⟩ := List.mem_map.mp hx
        obtain ⟨p, hp, rfl⟩ := List.mem_map.mp hy
        exact (hpok' p hp).2.2
      simp only [List.length_map] at h1 ⊢
      rw [show (Str.ofString ", ").length = 2 by decide +kernel]
      exact oq264 hpl h1
    refine hG5 ?_
    clear hG5 G5
    k_steps
    unfold Halt
    rename_i t9 k9 h9 F9 N9
    have hMT9 : ∀ q ∈ led2, q ∈ (D, lstO ys) :: led₁ := fun q hq => .tail _ (hsub q hq)
    try k_fold
    refine Spec.useG (http_ok w (x := Txt.join (Str.ofString ", ") (ps.map piece)) (head_len hpok hpl)) rfl rfl rfl rfl (by exact oq259 rd) (by exact oq260 ru) K' F9 X' N9 ND8 T' trivial ?_
    rintro _ h10 tk10 led10 F10 N10 ND10 p6x0
    refine fresh_goal fun G6 hG6 => ?_
    obtain ⟨r3, rfl, HH, hs10⟩ := p6x0
    obtain ⟨es, hes, hhe, hesl, htab⟩ := head_parse hpok hpl
    rw [hhe] at HH
    refine hG6 ?_
    clear hG6 G6
    k_steps
    unfold Halt
    try k_fold
    refine Spec.useG (keqv_ok w (a := r3) (es := es) hes (by exact oq265 hpl hesl)) rfl rfl rfl rfl (by exact oq259 rd) (by exact oq260 ru) K' F10 X' N10 ND10 T' HH ?_
    rintro _ h11 tk11 led11 F11 N11 ND11 p7x0
    refine fresh_goal fun G7 hG7 => ?_
    obtain ⟨dT, rfl, HD, hs11, hlt11⟩ := p7x0
    rw [htab] at HD
    have up11 : ∀ q ∈ led2, q ∈ led11 := fun q hq => hs11 _ (hs10 _ (hMT9 q hq))
    have MC11 := up11 _ (hs2 _ (hs1 _ MCL))
    have MB11 := up11 _ (hs2 _ (hs1 _ MTB))
    have HP11 := HP2.mono up11
    clear hMT9 up11 hs11 hs10 hlt11 HH HP2 HT1 MD2 MCL MTB hs1 hs2 MT hTv hfx hsub hys hpok' NDa ND1 ND2 ND8 ND10
    generalize htb : entriesOf ps = tab at *
    refine hG7 ?_
    clear hG7 G7
    k_steps
    unfold Halt
    rename_i h12 oc2 dc2 F12 N12
    have HP12 := HP11.upd_cell ND11 MC11 hoc oc2
    have HD12 := HD.upd_cell ND11 MC11 hoc oc2
    have MB12 := mem_upd_cell ND11 MC11 MB11 (o' := oc2) (by rw [hoc]; intro e; cases e)
    have MC12 := mem_upd_self (o := oc2) MC11
    have ND12 := ND11.upd (a := L + 1) (o := oc2)
    generalize upd led11 (L + 1) oc2 = led12 at *
    clear HP11 HD MB11 MC11 ND11 N11 F11
    obtain ⟨kvs, ⟨lo, od, Md, hD⟩, hk⟩ := HD12
    have hkl := StrD.len hk
    have htn : (tab.map (·.1)).Nodup := by rw [← htb]; exact entries_nodup
    have htok : ∀ p ∈ tab, p.1 ∈ nms ∧ p.2 ∈ nms := by rw [← htb]; exact entries_ok hpok
    have htl : tab.length ≤ 13 := by rw [← htb]; exact entries_len hpl
    try k_fold
    refine comp_src (src_dict (by rfl) F12 N12 lo Md hD) ND12 (by intro q hq; rw [List.mem_singleton.mp hq]; exact Md) (by decide) rfl (by rw [sizeLine_eq]; exact oq266 hkl htl) (fun i ys led₁ => PairsAre led₁ ys (tab.take i) ∧ ∀ q ∈ led12, q ∈ led₁) ⟨by simpa using PairsAre.nil, fun q hq => hq⟩ ?_ ?_
    · rintro i v ys led₁ h13 tk13 I oI ic D2 C oC mC hi p8x0 p8x1 hyl hcI hic hnC ND13 hfx F13 N13
      refine fresh_goal fun G8 hG8 => ?_
      obtain ⟨k, x, t, hkv, rfl⟩ := p8x0
      obtain ⟨hys, hsub⟩ := p8x1
      have MC13 := hsub _ MC12
      have hCc : L + 1 ≠ C := ND13.tail.head _ (.tail _ MC13)
      have Md13 := hsub _ Md
      have hdC : dT ≠ C := ND13.tail.head _ (.tail _ Md13)
      refine hG8 ?_
      clear hG8 G8
      k_steps
      unfold Halt
      rename_i h14 oC14 nC14 F14 N14
      have ND14 := ND13.upd (a := C) (o := oC14)
      have up14 : ∀ q ∈ led₁, q ∈ (upd ((I, oI) :: (C, oC) :: (D2, lstO ys) :: led₁) C oC14) := fun q hq => mem_upd_ne (.tail _ (.tail _ (.tail _ hq))) (ND13.tail.head _ (.tail _ hq))
      refine' cx_D (c := L + 1) (o := oc2) ?f1 N14 dc2 (up14 _ MC13) ?fq ?f5 ?f6 ?f7
      case f1 => rfl
      case f5 => kernel_rfl!
      case f6 => kernel_rfl!
      case f7 => decide +kernel
      obtain ⟨z, hti⟩ : ∃ z, tab[i]? = some (k, z) := by
        have h1 := congrArg (·[i]?) (StrD.keys hk)
        simp only [List.getElem?_map, hkv, Option.map_some] at h1
        cases h2 : tab[i]? with
        | none => rw [h2] at h1; cases h1
        | some q => rw [h2] at h1; exact ⟨q.2, by have := Option.some.inj h1; simp at this; rw [this]⟩
      obtain ⟨tz, hval⟩ : ∃ tz, valueAt kvs k = some (.str z tz) := by
        have h3 := lk_get htn hti
        rcases StrD.at hk k with ⟨h1, _⟩ | ⟨z', t', h1, h2⟩
        · rw [h3] at h1; cases h1
        · rw [h3] at h1; cases h1; exact ⟨t', h2⟩
      have D14 : DictIn w (upd ((I, oI) :: (C, oC) :: (D2, lstO ys) :: led₁) C oC14) dT kvs := ⟨lo, od, up14 _ Md13, hD⟩
      k_steps
      rename_i D8 h15 F15 N15 l15
      refine cEnd1 F15 N15 ND13 l15 nC14 hfx (fun led' kk => ⟨?_, fun q hq => kk q (.tail _ (hsub q hq))⟩) rfl
      have ht1 : tab.take (i + 1) = tab.take i ++ [(k, z)] := by rw [List.take_add_one, hti]; rfl
      rw [ht1]
      exact (hys.mono fun q hq => kk q (.tail _ hq)).snoc ⟨D8, _, _, rfl, kk _ (.head _)⟩
    · rintro ys led₁ h13 tk13 D2 p9x0 ND13 hfx F13 N13
      refine fresh_goal fun G9 hG9 => ?_
      obtain ⟨hys, hsub⟩ := p9x0
      rw [hkl, List.take_length] at hys
      refine hG9 ?_
      clear hG9 G9
      k_steps
      unfold Halt
      have hP13 : PairsL ((D2, lstO ys) :: led₁) D2 tab := ⟨ys, _, .head _, hys.mono fun q hq => .tail _ hq⟩
      have s13 : ∀ q ∈ led12, q ∈ (D2, lstO ys) :: led₁ := fun q hq => .tail _ (hsub q hq)
      have HP13 := HP12.mono s13
      have HD13 : StrD w ((D2, lstO ys) :: led₁) dT tab := ⟨kvs, ⟨lo, od, s13 _ Md, hD⟩, hk⟩
      have MB13 := s13 _ MB12
      have MC13 := s13 _ MC12
      try k_fold
      refine dat_ne N13 (dat_pairsL hP13) (dat_pairsL HP13) (lP_ok htok) (lP_ok htok) (by show callerA.units + 3 + 64 < cLine; decide +kernel) ?_
      clear hys hfx hsub hP13 HP12 MB12 MC12 s13 Md hD hk hkl lo
      simp only [decide_true, Bool.not_true]
      k_steps
      unfold Halt
      generalize hld : (D2, lstO ys) :: led₁ = led13 at *
      try k_fold
      refine make_sorterG (w := w) rfl rfl rfl rfl (by exact oq267 rd) (by exact oq268 ru) K' F13 X' N13 ND13 T' ?_
      intro x dx d2 h14 tk14 led14 F14 N14 ND14 HS14 HN14 hs14 hfr14
      obtain ⟨pv, pn, MP, hpv⟩ := HP13
      have MP14 := hs14 _ MP
      k_steps
      try unfold Halt
      rename_i h15 F15 N15
      refine for_src (src_list (by rfl) F15 N15 MP14) ND14 (by intro q hq; rw [List.mem_singleton.mp hq]; exact MP14)
        (fun i m₁ led₁ => m₁ (Str.ofString "sorter") = some (.ref x) ∧ m₁ (Str.ofString "entries") = some (.ref r2) ∧ SorterIn led₁ x dx d2 .none 0 0 ∧ ∃ nds, NodesIn w led₁ d2 nds ∧ nv nds = graphOf (tab.take i) ∧ Frm led13 led₁ dx d2 nds ∧ nds.length ≤ 2 * i ∧ SuccLe i (nv nds))
        ⟨by rfl, by rfl, HS14, [], HN14, rfl, fun q hq => ⟨hs14 q hq, Nat.ne_of_lt (hfr14 q hq).1, Nat.ne_of_lt (hfr14 q hq).2.2, by simp, by simp⟩, by simp, fun n hn => by cases hn⟩ ?_ ?_
      · rintro i v m₁ led₂ h16 tk16 I oI ic hi hv p10x0 hcI hic ND16 hfx F16 N16
        refine fresh_turn fun G10 hG10 => ?_
        obtain ⟨e1, e2, HS, nds, HN, hnv, HF, hln, hsc⟩ := p10x0
        obtain ⟨q, hq, T0, t1, t2, rfl, MT0⟩ := hpv.get (by simpa using hv)
        have MT16 := (HF _ MT0).1
        have HSI : SorterIn ((I, oI) :: led₂) x dx d2 .none 0 0 := HS.mono (sub_cons sub_self)
        refine hG10 fun Q10 hQ10 => ?_
        clear hG10 G10
        k_steps
        unfold Halt
        rename_i h17 h18 h19 F17 N17
        have hi' : i < 13 := by have h1 := hpv.1; rw [List.size_toArray] at hi; exact oq269 htl hi h1
        have hIall : ∀ p ∈ led₂, p.1 ≠ I := fun p hp => ND16.head p hp
        obtain ⟨es0, n0, Mdx⟩ := HS.dxMem
        obtain ⟨o2, Md2, _⟩ := HN.d2Mem
        have HFI : Frm ((I, oI) :: led13) ((I, oI) :: led₂) dx d2 nds := fun p hp => by
          rcases List.mem_cons.mp hp with rfl | hp
          · refine ⟨.head _, (hIall _ Mdx).symm, (hIall _ Md2).symm, fun hm => ?_, fun hm => ?_⟩
            · obtain ⟨nd, hnd, e⟩ := List.mem_map.mp hm
              obtain ⟨⟨⟨_, _, M1⟩, _⟩, _⟩ := HN.2.1 nd hnd
              exact hIall _ M1 e
            · obtain ⟨nd, hnd, e⟩ := List.mem_map.mp hm
              obtain ⟨⟨_, ⟨_, _, M1, _⟩, _⟩, _⟩ := HN.2.1 nd hnd
              exact hIall _ M1 e
          · exact ⟨.tail _ (HF p hp).1, (HF p hp).2⟩
        try k_fold
        refine Spec.useG (add_ok w (x := x) (dx := dx) (d2 := d2) (np := 0) (nf := 0) (nds := nds) (y := q.1) (v := q.2) (Fm := (I, oI) :: led13) (by exact oq270 hln hi') (fun n hn => Nat.le_trans (hsc n hn) (by exact oq271 hi'))) rfl rfl rfl rfl (by exact oq272 rd) (by exact oq273 ru) K' F17 X' N17 ND16 T' ⟨HSI, HN.mono (sub_cons sub_self), HFI⟩ ?_
        rintro _ h20 tk20 led20 F20 N20 ND20 p11x0
        refine fresh_goal fun G11 hG11 => ?_
        obtain ⟨rfl, HS20, nds', HN20, hnv20, HF20, hln20⟩ := p11x0
        have hI20 := (HF20 _ (.head _)).1
        refine hG11 ?_
        clear hG11 G11
        k_steps
        show LoopEnd _ _ _ _ _ _ _ _
        refine ⟨_, _, _, led20, rfl, F20, N20, ND20, hI20, fun p hp => by rw [List.mem_singleton.mp hp]; exact (HF20 _ (.tail _ MP)).1, fun led' kk => ⟨by walk_at "lk", by walk_at "lk", ?_, nds', ?_, ?_, fun p hp => ?_, by exact oq274 hln hln20, ?_⟩⟩
        · refine HS20.keep (S := [I]) (fun p hp hn => kk p hp (by simpa using hn)) ?_ ?_
          · rw [List.mem_singleton]
            exact ND20.neC HS20.1 hI20 (by rw [hcI]; intro e; cases e)
          · rw [List.mem_singleton]; exact (HF20 _ (.head _)).2.1.symm
        · exact HN20.keepCls (kcls ND20 hI20 hcI kk) hic.1.symm hic.2.1.symm
        · rw [hnv20, hnv, graphOf_take hq]
        · exact ⟨kk p (HF20 p (.tail _ hp)).1 (hIall p (HF p hp).1), (HF20 p (.tail _ hp)).2⟩
        · rw [hnv20]; exact hsc.add _ _
      · rintro m₁ led₂ h16 tk16 p12x0 ND16 hfx F16 N16
        refine fresh_goal fun G12 hG12 => ?_
        obtain ⟨e1, e2, HS, nds, HN, hnv, HF, hln, hsc⟩ := p12x0
        rw [List.size_toArray, hpv.1] at hnv hln hsc
        rw [List.take_length] at hnv
        have HP16 : PairsL led₂ r2 tab := PairsL.mono ⟨pv, pn, MP, hpv⟩ fun q hq => (HF q hq).1
        have HD16 : StrD w led₂ dT tab := by obtain ⟨kvs, ⟨lo, od, Md, hD⟩, hk⟩ := HD13; exact ⟨kvs, ⟨lo, od, (HF _ Md).1, hD⟩, hk⟩
        have MB16 := (HF _ MB13).1
        have MC16 := (HF _ MC13).1
        have hof : (L + 1 ≠ dx ∧ L + 1 ∉ nds.map (·.at_)) ∧ (191 : Nat) ≠ dx ∧ (191 : Nat) ∉ nds.map (·.at_) := ⟨⟨(HF _ MC13).2.1, (HF _ MC13).2.2.2.1⟩, (HF _ MB13).2.1, (HF _ MB13).2.2.2.1⟩
        have hdT : dT ≠ dx ∧ dT ∉ nds.map (·.at_) := by obtain ⟨kvs, ⟨lo, od, Md, hD⟩, hk⟩ := HD13; exact ⟨(HF _ Md).2.1, (HF _ Md).2.2.2.1⟩
        clear HF hfx HD13 MB13 MC13 MP MP14 hs14 hfr14 HS14 HN14 hpv
        refine hG12 ?_
        clear hG12 G12
        k_steps
        unfold Halt
        try k_fold
        refine Spec.useG (law_named_ok w (e := r2) (ps := tab) (by exact oq251 htl)) rfl rfl rfl rfl (by exact oq259 rd) (by exact oq260 ru) K' F16 X' N16 ND16 T' HP16 ?_
        rintro _ h17 tk17 led17 F17 N17 ND17 p13x0
        refine fresh_goal fun G13 hG13 => ?_
        obtain ⟨r4, rfl, HL17, hs17, hne17⟩ := p13x0
        have MC17 := hs17 _ MC16
        have HD17 : StrD w led17 dT tab := by obtain ⟨kvs, ⟨lo, od, Md, hD⟩, hk⟩ := HD16; exact ⟨kvs, ⟨lo, od, hs17 _ Md, hD⟩, hk⟩
        refine hG13 ?_
        clear hG13 G13
        k_steps
        unfold Halt
        try k_fold
        refine Spec.useG (law_ring_ok w (e := r4) (d := dT) (names := namedOf tab) (tab := tab) (by exact oq251 htl)) rfl rfl rfl rfl (by exact oq259 rd) (by exact oq260 ru) K' (by assumption) X' (by assumption) ND17 T' ⟨HL17, HD17⟩ ?_
        rintro rgv h18 tk18 led18 F18 N18 ND18 p14x0
        refine fresh_goal fun G14 hG14 => ?_
        obtain ⟨HO18, hs18, hne18⟩ := p14x0
        have up18 : ∀ q ∈ led₂, q ∈ led18 := fun q hq => hs18 q (hs17 q hq)
        have HS18 := HS.mono up18
        have HN18 := HN.mono up18
        refine hG14 ?_
        clear hG14 G14
        k_steps
        unfold Halt
        rename_i h19 F19 N19
        obtain ⟨hgn, hG1, hG2, hGT, hrdy⟩ := graph_ok htn hnv
        obtain ⟨es1, n1, Mdx2⟩ := HS.dxMem
        have hr4 : r4 ≠ dx := (hne17 _ Mdx2).symm
        have hrg : ∀ r, rgv = .ref r → r ≠ dx := fun r e => (hne18 _ (hs17 _ Mdx2) r e).symm
        have hsc9 : SuccLe 900 (nv nds) := fun n hn => Nat.le_trans (hsc n hn) (by exact oq251 htl)
        try k_fold
        refine SpecT.use (law_prepared_ok w (x := x) (dx := dx) (d2 := d2) (np := 0) (nf := 0) (nds := nds) (t := lk tab) (Cyc := CycT (lk tab)) (by exact oq275 htl hln) hsc9 hG1 hG2 hGT) (frs := []) (l := []) (led := led18) rfl rfl rfl rfl (by exact oq276 rd) (by exact oq277 ru) trivial F19 X' (by rw [List.append_nil]; exact N19) (by rw [List.append_nil]; exact ND18) T' ⟨HS18, HN18⟩ ?_
        intro pv2 h20 tk20 led20 f20 su20 F20 N20 ND20 ⟨rr, HS20, HN20, HL20, K20, hne20, hcase⟩
        obtain rfl : f20 = [] := by cases f20 with
          | nil => rfl
          | cons => exact su20.elim
        rw [List.append_nil] at N20 ND20
        have MC20 := K20 _ (up18 _ MC16) (by simpa using hof.1.1)
        have MB20 := K20 _ (up18 _ MB16) (by simpa using hof.2.1)
        have HL20n : StrL led20 r4 (namedOf tab) := (HL17.keep (S := []) (fun p hp _ => hs18 p hp) (by simp)).keep K20 (by simpa using hr4)
        have HD20 : StrD w led20 dT tab := by obtain ⟨kvs, ⟨lo, od, Md, hD⟩, hk⟩ := HD16; exact ⟨kvs, ⟨lo, od, K20 _ (up18 _ Md) (by simpa using hdT.1), hD⟩, hk⟩
        have hnin := named_in htok
        generalize hrv : ringOf (lk tab) (tab.length + 1) (namedOf tab) = rgo at *
        have HO20 : OptL led20 rgv rgo := by
          cases rgo with
          | none => exact HO18
          | some l => obtain ⟨r, e, hl⟩ := HO18; exact ⟨r, e, hl.keep K20 (by simpa using hrg r e)⟩
        have hcase2 : ∃ d, DatIn led20 pv2 d ∧ kqdOk 9 d = true ∧ ((rgo = none ∧ d = .none) ∨ ((∃ l, rgo = some l) ∧ d = .str (Str.ofString "a ring"))) := by
          rcases hcase with ⟨rfl, hno⟩ | ⟨⟨tka, rfl⟩, i, y, c, hi, hcn, hc0, hcl⟩
          · rw [hgn] at hno
            have := ring_none (n := tab.length + 1) hno
            exact ⟨_, .none, rfl, .inl ⟨by rw [← hrv, this], rfl⟩⟩
          · rw [hgn] at hi
            obtain ⟨r, hr⟩ := ring_yes hi hcn hc0 hcl
            exact ⟨_, .str _ _, by decide +kernel, .inr ⟨⟨r, by rw [← hrv, hr]⟩, rfl⟩⟩
        obtain ⟨d1, Dv1, Dk1, hd1⟩ := hcase2
        have hrr : (L + 1 ≠ rr ∧ (191 : Nat) ≠ rr ∧ dT ≠ rr) ∧ rr ∉ nds.map (·.lst) := by
          refine ⟨⟨hne20 _ (up18 _ MC16), hne20 _ (up18 _ MB16), ?_⟩, fun hm => ?_⟩
          · obtain ⟨kvs, ⟨lo, od, Md, hD⟩, hk⟩ := HD16; exact hne20 _ (up18 _ Md)
          · obtain ⟨nd, hnd, e⟩ := List.mem_map.mp hm
            obtain ⟨⟨_, ⟨_, _, M1, _⟩, _⟩, _⟩ := HN18.2.1 nd hnd
            exact hne20 _ M1 e
        k_steps
        unfold Halt
        refine wpAny_mono (Q := fun u s' => (∃ tk', s' = { heap := h20, gens := s₁.gens, drawn := s₁.drawn, toks := tk', os := s₁.os }) ∧ DatIn led20 u d1) ?_ ?_ (fun _ _ q => q)
        · rcases hd1 with ⟨rfl, rfl⟩ | ⟨⟨l, rfl⟩, rfl⟩
          · obtain rfl : rgv = .none := HO20
            refine IfExp_ ?_
            k_steps
            exact .none
          · obtain ⟨rg, rfl, hrl⟩ : ∃ r, rgv = .ref r ∧ StrL led20 r l := HO20
            refine IfExp_ ?_
            k_steps
            exact .str _ _
        rintro u _ p15x0
        refine fresh_goal fun G15 hG15 => ?_
        obtain ⟨⟨tk21, rfl⟩, Du1⟩ := p15x0
        refine hG15 ?_
        clear hG15 G15
        try k_fold
        refine dat_ne N20 Dv1 Du1 Dk1 Dk1 (by show callerA.units + 3 + 64 < cLine; decide +kernel) ?_
        simp only [decide_true, Bool.not_true]
        clear Dv1 Du1 Dk1 hd1 d1
        k_steps
        unfold Halt
        try k_fold
        refine SpecT.use (find_cycle_ok w (x := x) (dx := dx) (d2 := d2) (rdy := .ref rr) (np := 0) (nf := 0) (nds := nds) (t := lk tab) (Cyc := CycT (lk tab)) (by exact oq275 htl hln) hsc9 hG1 hG2) (frs := []) (l := []) (led := led20) rfl rfl rfl rfl (by exact oq259 rd) (by exact oq260 ru) trivial (by assumption) X' (by rw [List.append_nil]; assumption) (by rw [List.append_nil]; exact ND20) T' ⟨HS20, HN20⟩ ?_
        intro pv3 h22 tk22 led22 f22 su22 F22 N22 ND22 ⟨hp22, hcyc⟩
        obtain rfl : f22 = [] := by cases f22 with
          | nil => rfl
          | cons => exact su22.elim
        rw [List.append_nil] at N22 ND22
        have HO22 : OptL led22 rgv rgo := by
          cases rgo with
          | none => exact HO20
          | some l => obtain ⟨r, e, hl⟩ := HO20; exact ⟨r, e, hl.keep (S := []) (fun p hp _ => hp22 p hp) (by simp)⟩
        have hd3 : ∃ d, DatIn led22 pv3 d ∧ DatIn led22 rgv d ∧ kqdOk 9 d = true := by
          rcases hcyc with ⟨rfl, hno⟩ | ⟨rc, i, y, c, rfl, hrn, hrl, hi, hfst, hcn, hc0, hcl⟩
          · rw [hgn] at hno
            have := ring_none (n := tab.length + 1) hno
            rw [this] at hrv
            subst hrv
            obtain rfl : rgv = .none := HO22
            exact ⟨_, .none, .none, rfl⟩
          · rw [hgn] at hi hfst
            have := ring_some hi hfst hcn hc0 hcl
            rw [this] at hrv
            subst hrv
            obtain ⟨rg, rfl, hrl2⟩ := HO22
            exact ⟨_, dat_strL hrl, dat_strL hrl2, lS_ok (ring_in hnin htok this)⟩
        obtain ⟨d3, Dv3, Du3, Dk3⟩ := hd3
        have HS22 := HS20.mono hp22
        have HN22 := HN20.mono hp22
        have HL22 : StrL led22 rr (dueOf tab) := by rw [← hrdy]; exact HL20.keep (S := []) (fun p hp _ => hp22 p hp) (by simp)
        have HD22 : StrD w led22 dT tab := by obtain ⟨kvs, ⟨lo, od, Md, hD⟩, hk⟩ := HD20; exact ⟨kvs, ⟨lo, od, hp22 _ Md, hD⟩, hk⟩
        have MB22 := hp22 _ MB20
        have MC22 := hp22 _ MC20
        obtain ⟨nvs, nn, Mn, hnvs⟩ : StrL led22 r4 (namedOf tab) := HL20n.keep (S := []) (fun p hp _ => hp22 p hp) (by simp)
        clear hcyc hcase HO18 HO20 HO22 HS18 HN18 HL17 HD16 HD17 HP16 MB16 MC16 MC17 hs17 hs18 up18 HS HN HS20 HN20 HL20 HL20n HD20 MB20 MC20 K20 hp22 hrg
        k_steps
        try k_fold
        refine dat_ne (by assumption) Dv3 Du3 Dk3 Dk3 (by show callerA.units + 3 + 64 < cLine; decide +kernel) ?_
        simp only [decide_true, Bool.not_true]
        clear Dv3 Du3 Dk3 d3
        k_steps
        try unfold Halt
        have hdl : (namedOf tab).length ≤ 26 := by have := congrArg List.length hgn; rw [List.length_map] at this; exact oq278 htl hln this
        try k_fold
        refine' comp_srcQ (src_list (by rfl) (by assumption) (by assumption) Mn) ND22 (by intro q hq; rw [List.mem_singleton.mp hq]; exact Mn) ?ccell rfl (by rw [sizeLine_eq, List.size_toArray, hnvs.length]; exact oq279 hdl) ?cy ?cp ?cL
          (fun i ys led₁ => StrsAre ys (((namedOf tab).take i).filter fun y => decide (y ∉ tab.map (·.1))) ∧ ∀ q ∈ led22, q ∈ led₁) ⟨by simpa using StrsAre.nil, fun q hq => hq⟩ ?_ ?_
        case ccell => decide
        case cy => rfl
        case cp => rfl
        case cL => rfl
        · rintro i v ys led₁ h23 tk23 I oI ic D3 C oC mC hi hv p16x0 hyl hcI hic hnC ND23 hfx F23 N23
          refine fresh_goal fun G16 hG16 => ?_
          obtain ⟨hys, hsub⟩ := p16x0
          obtain ⟨y, ty, hy, rfl⟩ := hnvs.get' (by simpa using hv)
          have MC23 := hsub _ MC22
          have hCc : L + 1 ≠ C := ND23.tail.head _ (.tail _ MC23)
          have up23 : ∀ q ∈ led₁, ∀ oC', q ∈ (upd ((I, oI) :: (C, oC) :: (D3, lstO ys) :: led₁) C oC') := fun q hq oC' => mem_upd_ne (.tail _ (.tail _ (.tail _ hq))) (ND23.tail.head _ (.tail _ hq))
          have hyt : ((namedOf tab).take (i + 1)).filter (fun y => decide (y ∉ tab.map (·.1))) = ((namedOf tab).take i).filter (fun y => decide (y ∉ tab.map (·.1))) ++ if y ∈ tab.map (·.1) then [] else [y] := by
            rw [List.take_add_one, hy, Option.toList_some, List.filter_append]
            congr 1
            by_cases e : y ∈ tab.map (·.1) <;> simp [e]
          refine hG16 ?_
          clear hG16 G16
          k_steps
          unfold Halt
          rename_i h24 oC24 nC24 F24 N24
          refine' cx_D (c := L + 1) (o := oc2) ?g1 N24 dc2 (up23 _ MC23 _) ?gq ?g5 ?g6 ?g7
          case g1 => rfl
          case g5 => kernel_rfl!
          case g6 => kernel_rfl!
          case g7 => decide +kernel
          obtain ⟨kvs, ⟨lo, od, Md, hD⟩, hk⟩ := HD22
          have D24 : DictIn w (upd ((I, oI) :: (C, oC) :: (D3, lstO ys) :: led₁) C oC24) dT kvs := ⟨lo, od, up23 _ (hsub _ Md) _, hD⟩
          rcases StrD.at hk y with ⟨q1, hval⟩ | ⟨z, tz, q1, hval⟩
          · have hyk : y ∉ tab.map (·.1) := fun hm => by
              obtain ⟨p, hp, e⟩ := List.mem_map.mp hm
              have := lk_of htn (k := p.1) (z := p.2) hp
              rw [e, q1] at this; cases this
            k_steps
            refine cEnd0 F24 N24 ND23 nC24 hfx (fun led' kk => ⟨?_, fun q hq => kk q (hsub q hq)⟩) rfl
            rw [hyt, if_neg hyk]; exact hys.push
          · have hyk : y ∈ tab.map (·.1) := lk_mem q1
            k_steps
            refine cEnd0 F24 N24 ND23 nC24 hfx (fun led' kk => ⟨?_, fun q hq => kk q (hsub q hq)⟩) rfl
            rw [hyt, if_pos hyk, List.append_nil]; exact hys
        · rintro ys led₁ h23 tk23 D3 p17x0 ND23 hfx F23 N23
          refine fresh_goal fun G17 hG17 => ?_
          obtain ⟨hys, hsub⟩ := p17x0
          rw [List.size_toArray, hnvs.length, List.take_length] at hys
          refine hG17 ?_
          clear hG17 G17
          k_steps
          try unfold Halt
          rename_i h24 F24 N24
          have s23 : ∀ q ∈ led22, q ∈ (D3, lstO ys) :: led₁ := fun q hq => .tail _ (hsub q hq)
          have hD3 : ∀ q ∈ led22, q.1 ≠ D3 := fun q hq => ND23.head q (hsub q hq)
          obtain ⟨es4, n4, Mdx4⟩ := HS22.dxMem
          obtain ⟨vr4, nr4, Mrr4, _⟩ := id HL22
          have hS0 : ∀ r : Addr, (∀ q ∈ led22, q.1 ≠ r) → r ∉ dx :: rr :: nds.map (·.at_) := fun r hr hm => by
            rcases List.mem_cons.mp hm with e | hm
            · exact hr _ Mdx4 e.symm
            · rcases List.mem_cons.mp hm with e | hm
              · exact hr _ Mrr4 e.symm
              · obtain ⟨nd, hnd, e⟩ := List.mem_map.mp hm
                obtain ⟨⟨⟨_, _, M1⟩, _⟩, _⟩ := HN22.2.1 nd hnd
                exact hr _ M1 e
          have hL1 : L + 1 ∉ dx :: rr :: nds.map (·.at_) := by simp only [List.mem_cons, not_or]; exact ⟨hof.1.1, hrr.1.1, hof.1.2⟩
          have h191 : (191 : Nat) ∉ dx :: rr :: nds.map (·.at_) := by simp only [List.mem_cons, not_or]; exact ⟨hof.2.1, hrr.1.2.1, hof.2.2⟩
          have hdTS : dT ∉ dx :: rr :: nds.map (·.at_) := by simp only [List.mem_cons, not_or]; exact ⟨hdT.1, hrr.1.2.2, hdT.2⟩
          refine while_led (k := tab.length + 2) (fun k m₁ led₁ => ∃ (f : Nat) (tf : Tok) (due : List Str) (rdu : Addr) (nf : Nat) (nds' : List Nd),
            m₁ (Str.ofString "far") = some (.int f tf) ∧ m₁ (Str.ofString "due") = some (.ref rdu) ∧ m₁ (Str.ofString "sorter") = some (.ref x) ∧ StrL led₁ rdu due ∧ rdu ∉ dx :: rr :: nds.map (·.at_) ∧ SorterIn led₁ x dx d2 (.ref rr) nf nf ∧ NodesIn w led₁ d2 nds' ∧ StrL led₁ rr due ∧
            StrD w led₁ dT tab ∧ (L + 1, oc2) ∈ led₁ ∧ LamTab led₁ 191 lamPos lamQ ∧ nds'.map (·.at_) = nds.map (·.at_) ∧ nds'.map (·.lst) = nds.map (·.lst) ∧ Lev tab f due (nv nds') ∧ nf ≤ 8 * f ∧ f + k = tab.length + 2) F24 N24 ND23
            ⟨0, _, dueOf tab, D3, 0, nds, by rfl, by rfl, by walk_at "lk", ⟨ys, _, .head _, hys⟩, hS0 D3 hD3, HS22.mono s23, HN22.mono s23, HL22.keep (S := []) (fun p hp _ => s23 p hp) (by simp),
              by obtain ⟨kvs, ⟨lo, od, Md, hD⟩, hk⟩ := HD22; exact ⟨kvs, ⟨lo, od, s23 _ Md, hD⟩, hk⟩, s23 _ MC22, .inl (s23 _ MB22), rfl, rfl, Lev.start htn hnv, by exact Nat.le_refl _, by exact oq280⟩ ?_
          rintro k m₃ led₃ h25 tk25 p18x0 ND25 F25 N25
          refine fresh_while fun G18 hG18 => ?_
          obtain ⟨f, tf, due, rdu, nf, nds', e1, e2, e3, HLd, hrd, HS3, HN3, HL3, HD3, MC3, HLam3, hat3, hlst3, hLev, hnf, hfk⟩ := p18x0
          obtain ⟨hdl7, hdin⟩ := hLev.len hnin
          clear hS0 hsub hys hfx hD3 s23 HS22 HN22 HL22 HD22 MB22 MC22 Mn hnvs Mdx4 Mrr4 ND23
          refine hG18 fun Q18 R18 hQ18 hR18 => ?_
          clear hG18 G18
          k_steps
          try unfold Halt
          rename_i D4 h26 F26 N26 l26
          have ND26 := ND25.cons (o := listOf #[] 0) l26
          have up26 : ∀ q ∈ led₃, q ∈ (D4, listOf #[] 0) :: led₃ := fun q hq => .tail _ hq
          have HS26 := HS3.mono up26
          have HN26 := HN3.mono up26
          have HL26 := HL3.mono up26
          have HD26 := HD3.mono up26
          have MC26 := up26 _ MC3
          have HLam26 := HLam3.mono up26
          have HE26 : StrL ((D4, listOf #[] 0) :: led₃) D4 [] := ⟨[], 0, .head _, .nil⟩
          obtain ⟨dv, dn, Mdu, hdv⟩ := HLd.mono up26
          have hut : (callerA.deeper (default : Env)).units + 64 < cLine := by show callerA.units + 3 + 64 < cLine; decide +kernel
          try k_fold
          refine dat_ne N26 (dat_strL ⟨dv, dn, Mdu, hdv⟩) (dat_strL HE26) (lS_ok hdin) (lS_ok (by simp)) hut ?_
          generalize (D4, listOf #[] 0) :: led₃ = led26 at *
          clear HS3 HN3 HL3 HD3 MC3 HLam3 HLd up26 HE26 l26
          by_cases hde : due = []
          · subst hde
            simp only [decide_true, Bool.not_true]
            k_steps
            unfold Halt
            try k_fold
            refine Spec.useG (is_active_ok w (x := x) (dx := dx) (d2 := d2) (r := rr) (np := nf) (nf := nf) (ss := []) (by simp)) rfl rfl rfl rfl (by exact oq259 rd) (by exact oq260 ru) K' (by assumption) X' (by assumption) ND26 T' ⟨HS26, HL26⟩ ?_
            rintro _ h27 tk27 _ F27 N27 ND27 p19x0
            refine fresh_goal fun G19 hG19 => ?_
            obtain ⟨rfl, rfl⟩ := p19x0
            have hb1 : (decide ((nf : Int) < nf) || !([] : List Str).isEmpty) = false := by simp
            refine hG19 ?_
            clear hG19 G19
            rw [hb1]
            k_steps
            try unfold Halt
            try k_fold
            refine Spec.useG (get_ready_ok w (x := x) (dx := dx) (d2 := d2) (r := rr) (np := nf) (nf := nf) (ss := []) (nds := nds') (by simp) (by simp) (by rw [hlst3]; exact hrr.2)) rfl rfl rfl rfl (by exact oq259 rd) (by exact oq260 ru) K' (by assumption) X' (by assumption) ND27 T' ⟨HS26, HL26, HN26⟩ ?_
            rintro _ h28 tk28 led28 F28 N28 ND28 p20x0
            refine fresh_goal fun G20 hG20 => ?_
            obtain ⟨D5, tv, rfl, Mt5, htv, HS28, HL28, HN28, K28⟩ := p20x0
            have HLam28 := lam_keep ND27 HS26 HL26 HN26 K28 (by rw [hat3]; exact h191) HLam26
            obtain ⟨lps, MB28⟩ := HLam28.mem
            clear HS28 HL28 HN28 K28
            refine hG20 ?_
            clear hG20 G20
            k_steps
            try unfold Halt
            rename_i D6 h29 F29 N29 l29
            try k_fold
            refine dat_eq N29 (dat_tup (.tail _ Mt5) htv) (dat_tup (vs := []) (n := 0) (.head _) .nil) (tS_ok (by simp)) (tS_ok (by simp)) hut ?_
            simp only [decide_true]
            refine ⟨?_, GrownAt.of N29 (.tail _ MB28), trivial⟩
            exact goodW_bool F29 hg (no_raise ns) (post_true ns)
          · have hne4 : ¬ (Dat.list (dS due) = Dat.list (dS [])) := fun e => hde (dS_inj.mp (Dat.list.inj e))
            simp only [hne4, decide_false, Bool.not_false]
            have hpos : 0 < due.length := List.length_pos_iff.mpr hde
            obtain ⟨hin1, hok, hcl, hsl, hLev', hfin, huniq⟩ := hLev.next htn htl hde
            have hfl := hLev.lt hde
            k_steps
            unfold Halt
            try k_fold
            refine Spec.useG (is_active_ok w (x := x) (dx := dx) (d2 := d2) (r := rr) (np := nf) (nf := nf) (ss := due) (by omega)) rfl rfl rfl rfl (by exact oq259 rd) (by exact oq260 ru) K' (by assumption) X' (by assumption) ND26 T' ⟨HS26, HL26⟩ ?_
            rintro _ h27 tk27 _ F27 N27 ND27 p21x0
            refine fresh_goal fun G21 hG21 => ?_
            obtain ⟨rfl, rfl⟩ := p21x0
            have hb1 : (decide ((nf : Int) < nf) || !due.isEmpty) = true := by cases due with
              | nil => exact absurd rfl hde
              | cons => simp
            refine hG21 ?_
            clear hG21 G21
            rw [hb1]
            k_steps
            unfold Halt
            try k_fold
            refine Spec.useG (get_ready_ok w (x := x) (dx := dx) (d2 := d2) (r := rr) (np := nf) (nf := nf) (ss := due) (nds := nds') (by exact oq281 hdl7 hpos) hin1 (by rw [hlst3]; exact hrr.2)) rfl rfl rfl rfl (by exact oq259 rd) (by exact oq260 ru) K' (by assumption) X' (by assumption) ND27 T' ⟨HS26, HL26, HN26⟩ ?_
            rintro _ h28 tk28 led28 F28 N28 ND28 p22x0
            refine fresh_goal fun G22 hG22 => ?_
            obtain ⟨D5, tv, rfl, Mt5, htv, HS28, HL28, HN28, K28⟩ := p22x0
            have HLam28 := lam_keep ND27 HS26 HL26 HN26 K28 (by rw [hat3]; exact h191) HLam26
            rw [hat3] at K28
            have Mdu28 := K28 _ Mdu hrd
            have HD28 := HD26.keepS K28 hdTS
            have MC28 := K28 _ MC26 hL1
            have hdvz : dv.toArray.size ≤ 16384 := by rw [List.size_toArray, hdv.length]; exact oq281 hdl7 hpos
            refine hG22 ?_
            clear hG22 G22
            k_steps
            try unfold Halt
            rename_i D6 h29 F29 N29 l29
            have ND29 := ND28.cons (o := tupOf dv.toArray 0) l29
            have up29 : ∀ q ∈ led28, q ∈ (D6, tupOf dv.toArray 0) :: led28 := fun q hq => .tail _ hq
            try k_fold
            refine dat_ne N29 (dat_tup (.tail _ Mt5) htv) (dat_tup (.head _) hdv) (tS_ok hdin) (tS_ok hdin) hut ?_
            simp only [decide_true, Bool.not_true]
            have HS29 := HS28.mono up29
            have HN29 := HN28.mono up29
            have HL29 := HL28.mono up29
            have HD29 := HD28.mono up29
            have MC29 := up29 _ MC28
            have HLam29 := HLam28.mono up29
            have Mdu29 := up29 _ Mdu28
            generalize (D6, tupOf dv.toArray 0) :: led28 = led29 at *
            clear HS28 HN28 HL28 HD28 MC28 HLam28 Mdu28 up29 l29 Mt5 HS26 HN26 HL26 HD26 MC26 HLam26 Mdu K28
            k_steps
            try unfold Halt
            try k_fold
            refine Spec.useG (is_active_ok w (x := x) (dx := dx) (d2 := d2) (r := rr) (np := nf + due.length) (nf := nf) (ss := []) (by simp)) rfl rfl rfl rfl (by exact oq259 rd) (by exact oq260 ru) K' (by assumption) X' (by assumption) ND29 T' ⟨HS29, HL29⟩ ?_
            rintro _ h30 tk30 led30 F30 N30 ND30 p23x0
            refine fresh_goal fun G23 hG23 => ?_
            obtain ⟨rfl, rfl⟩ := p23x0
            have hb2 : (decide ((nf : Int) < (nf : Int) + (due.length : Nat)) || !([] : List Str).isEmpty) = true := by simp; exact oq282 hdl7 hpos
            refine hG23 ?_
            clear hG23 G23
            rw [hb2]
            k_steps
            try unfold Halt
            refine MethodStar_ ?_
            k_steps
            try unfold Halt
            refine sorter_done (by assumption) X' (by assumption) HS29 ?_
            intro q31 h31 F31 N31 l31
            refine callWith_MS (self := .ref x) (done_fn w) ?_
            k_steps
            try unfold Halt
            refine star_seq F31 N31 (.tail _ Mdu29) rfl rfl (.inl rfl) (ws := dv) rfl (by rw [sizeLine_eq, List.size_toArray, hdv.length]; exact oq283 hdl7 hpos) ?_
            intro h32 F32 N32
            refine ⟨methP N32 (.head _) (X'.keeps F32.keep), ?_⟩
            have hlr29 : rr ∉ (outAll due nds').map (·.lst) := by rw [outAll_lst, hlst3]; exact hrr.2
            have ND32 := ND30.cons (o := methodObj (.ref 132) (.ref x)) l31
            have up32 : ∀ q ∈ led30, q ∈ (q31, methodObj (.ref 132) (.ref x)) :: led30 := fun q hq => .tail _ hq
            have HS32 := HS29.mono up32
            have HN32 := HN29.mono up32
            have HL32 := HL29.mono up32
            have HLam32 := HLam29.mono up32
            try k_fold
            refine Spec.useM (done_ok w (x := x) (dx := dx) (d2 := d2) (r := rr) (np := nf + due.length) (nf := nf) (vs := dv) (ss := due) (rd := []) (nds := outAll due nds') (by exact Nat.le_succ_of_le hdl7) hdv hlr29 ⟨by exact oq284, by exact oq285 htl hnf hfk hfl⟩ (by decide) hok hcl hsl) rfl rfl rfl rfl (by exact oq267 rd) (by exact oq286 ru) K' F32 X' N32 ND32 T' (.head _) ⟨HS32, HL32, HN32⟩ ?_
            rintro _ h33 tk33 led33 F33 N33 ND33 p24x0
            refine fresh_goal fun G24 hG24 => ?_
            obtain ⟨rfl, HS33, HL33, nds33, HN33, hnv33, hat33, hlst33, K33⟩ := p24x0
            have HLam33 := lam_keep ND32 HS32 HL32 HN32 K33 (by rw [outAll_at, hat3]; exact h191) HLam32
            rw [outAll_at, hat3] at hat33 K33
            rw [outAll_lst, hlst3] at hlst33
            have Mdu33 := K33 _ (up32 _ Mdu29) hrd
            have HD33 := (HD29.mono up32).keepS K33 hdTS
            have MC33 := K33 _ (up32 _ MC29) hL1
            clear HS32 HN32 HL32 HLam32 HS29 HN29 HL29 HLam29 HD29 MC29 Mdu29 up32 hlr29 hok hcl hsl
            refine hG24 ?_
            clear hG24 G24
            k_steps
            try unfold Halt
            refine wpAny_loadName_local (by rfl) (by rfl) F33.ns e1 ?_
            k_steps
            try unfold Halt
            rename_i h34 F34 N34
            try k_fold
            refine SpecH.useG (law_behind_ok w (d := dT) (e := rdu) (tab := tab) (due := due) (far := f + 1) (by exact oq287 htl hfk) (by exact oq288 hdl7 hpos) htn hfin) rfl rfl rfl rfl (by exact oq289 rd) (by exact oq290 ru) K' F34 X' N34 ND33 T' codeHd ⟨HD33, ⟨dv, dn, Mdu33, hdv⟩, HLam33⟩ ?_
            rintro _ h35 tk35 led35 F35 N35 ND35 p25x0
            refine fresh_goal fun G25 hG25 => ?_
            obtain ⟨r35, os, rfl, HLos, hperm, hpw, K35, HLam35, hfr35⟩ := p25x0
            have hos := huniq os hperm hpw
            subst hos
            have off35 := HLam33.off ND33 K35
            have HS35 := HS33.off off35
            have HN35 := HN33.off off35
            have HL35 := HL33.off off35
            have HD35 := HD33.off off35
            have MC35 : (L + 1, oc2) ∈ led35 := K35 _ MC33 (by
              obtain ⟨lps, MB33⟩ := HLam33.mem
              rw [List.mem_singleton]
              exact ND33.ne MC33 MB33 fun e => by rw [e] at dc2; cases dc2)
            have hr35 := off_sorter HS33 HL33 HN33 hat33 r35 hfr35
            have e36 : (((nf + due.length : Nat)) : Int) = (nf : Int) + (due.length : Nat) := Int.natCast_add _ _
            rw [← e36] at HS35
            rw [← hnv33] at hLev'
            clear HS33 HN33 HL33 HD33 MC33 HLam33 Mdu33 hfr35 hperm hpw huniq hfin
            refine hG25 ?_
            clear hG25 G25
            k_steps
            try unfold Halt
            show WhileEnd _ _ _ _ _ _
            rename_i h36 F36 N36
            refine ⟨_, _, _, led35, k - 1, rfl, by exact oq291 hfk hfl, F36, N36, ND35, f + 1, _, _, r35, nf + due.length, nds33, by rfl, by rfl, by walk_at "lk", HLos, hr35, HS35, HN35, HL35, HD35, MC35, HLam35, hat33, hlst33, hLev', by exact oq292 hnf hdl7 hpos, by exact oq293 hfk hfl⟩)

theorem law_holds : PySem.Challenge.rw_mq0350_01.Holds := holds_law law_said fun _ => law_row

end Mine
theorem PySem.Challenge.cw_mq0350_01_holds : PySem.Challenge.rw_mq0350_01.Holds := by
  exact Mine.law_holds
