/-
  The seat b6003855a: jaroWinkler at two equal names: its arithmetic, as equations that the walk takes.
-/
import Derived.Test.Qxb6003855aFloat
import Derived.WalkKit
import Derived.WalkLawsBesides
namespace Go.Proofs.Qxb6003855a

theorem float_eq (op : BinOp) (t : TypeId) (k : FloatKind) (x y r : Nat) (h : floatBits op k x y = some r) : binOp op t (.float k x) (.float k y) = pure (.float k r) := by
  unfold floatBits at h
  cases op <;> simp only at h <;> first | (cases h; done) | skip
  all_goals simp [binOp, Op.floatArith, h]

theorem mulF {t : TypeId} {x y z : Nat} (hx : x < 2 ^ 53) (hy : y < 2 ^ 53) (hz : z = x * y) (h : z < 2 ^ 53) : binOp .mul t (.float .f64 (fl x)) (.float .f64 (fl y)) = pure (.float .f64 (fl z)) := by
  subst hz; exact float_eq _ _ _ _ _ _ (mul_fl x y hx hy h)
theorem addF {t : TypeId} {x y z : Nat} (hx : x < 2 ^ 53) (hy : y < 2 ^ 53) (hz : z = x + y) (h : z < 2 ^ 53) : binOp .add t (.float .f64 (fl x)) (.float .f64 (fl y)) = pure (.float .f64 (fl z)) := by
  subst hz; exact float_eq _ _ _ _ _ _ (add_fl x y hx hy h)
theorem subF {t : TypeId} {x y z : Nat} (hx : x < 2 ^ 53) (hy : y ≤ x) (hz : z = x - y) : binOp .sub t (.float .f64 (fl x)) (.float .f64 (fl y)) = pure (.float .f64 (fl z)) := by
  subst hz; exact float_eq _ _ _ _ _ _ (sub_fl x y hx hy)
theorem divF {t : TypeId} {x : Nat} (hx : x ≠ 0) (h : x < 2 ^ 53) : binOp .quo t (.float .f64 (fl x)) (.float .f64 (fl x)) = pure (.float .f64 (fl 1)) :=
  float_eq _ _ _ _ _ _ (div_self_fl x hx h)

theorem c3 : (4613937818241073152 : Nat) = fl 3 := by decide +kernel
theorem c10 : (4621819117588971520 : Nat) = fl 10 := by decide +kernel
theorem c7 : (4619567317775286272 : Nat) = fl 7 := by decide +kernel
theorem c1 : (4607182418800017408 : Nat) = fl 1 := by decide +kernel

theorem ofInt_fl (n : Nat) (h : n < 2 ^ 53) : floatOfInt .f64 (n : Int) = fl n := by
  have := write_fl n 0 h
  rw [Nat.pow_zero, Nat.mul_one] at this
  have e : floatOfInt .f64 (n : Int) = Ieee.double.write (.number (decide ((n : Int) < 0)) (n : Int).natAbs 0) := rfl
  rw [e, Int.natAbs_natCast]
  have e2 : decide ((n : Int) < 0) = false := by simp
  rw [e2]
  exact this

theorem leqF {t : TypeId} {x y : Nat} (hx : x < 2 ^ 53) (hy : y < 2 ^ 53) (h : y < x) : binOp .leq t (.float .f64 (fl x)) (.float .f64 (fl y)) = pure (.bool false) := by
  rw [binOp_float_cmp_leq]
  have e : FloatKind.f64.format.order (fl x) (fl y) = some (compare (x : Int) (y : Int)) := order_fl x y hx hy
  have e2 : compare (x : Int) (y : Int) = .gt := by
    simp only [compare, compareOfLessAndEq]
    rw [if_neg (by omega), if_neg (by omega)]
  rw [e, e2]
  rfl

theorem eqlF {t : TypeId} {x : Nat} (hx : x < 2 ^ 53) : binOp .eql t (.float .f64 (fl x)) (.float .f64 (fl x)) = pure (.bool true) := by
  rw [binOp_float_cmp_eql]
  have e : FloatKind.f64.format.order (fl x) (fl x) = some (compare (x : Int) (x : Int)) := order_fl x x hx hx
  have e2 : compare (x : Int) (x : Int) = .eq := by
    simp only [compare, compareOfLessAndEq]
    simp
  rw [e, e2]
  rfl

/-- The steps of jaroWinkler at two equal names of n characters. -/
theorem jw_eqs (n : Nat) (h1 : 1 ≤ n) (h2 : n ≤ 65536) : ∃ n2 tw p3 q3 s3 th th2 t10 t7 : Nat,
    binOp .mul 28 (.float .f64 (fl n)) (.float .f64 (fl n)) = pure (.float .f64 (fl n2)) ∧
    binOp .add 28 (.float .f64 (fl n)) (.float .f64 (fl n)) = pure (.float .f64 (fl tw)) ∧
    binOp .mul 28 (.float .f64 (fl n2)) (.float .f64 (fl tw)) = pure (.float .f64 (fl p3)) ∧
    binOp .sub 28 (.float .f64 (fl n)) (.float .f64 (fl 0)) = pure (.float .f64 (fl n)) ∧
    binOp .mul 28 (.float .f64 (fl n2)) (.float .f64 (fl n)) = pure (.float .f64 (fl q3)) ∧
    binOp .add 28 (.float .f64 (fl p3)) (.float .f64 (fl q3)) = pure (.float .f64 (fl s3)) ∧
    binOp .mul 28 (.float .f64 4613937818241073152) (.float .f64 (fl n)) = pure (.float .f64 (fl th)) ∧
    binOp .mul 28 (.float .f64 (fl th)) (.float .f64 (fl n)) = pure (.float .f64 (fl th2)) ∧
    binOp .mul 28 (.float .f64 (fl th2)) (.float .f64 (fl n)) = pure (.float .f64 (fl s3)) ∧
    binOp .mul 28 (.float .f64 4621819117588971520) (.float .f64 (fl s3)) = pure (.float .f64 (fl t10)) ∧
    binOp .mul 28 (.float .f64 4619567317775286272) (.float .f64 (fl s3)) = pure (.float .f64 (fl t7)) ∧
    binOp .leq 28 (.float .f64 (fl t10)) (.float .f64 (fl t7)) = pure (.bool false) ∧
    binOp .quo 28 (.float .f64 (fl t10)) (.float .f64 (fl t10)) = pure (.float .f64 (fl 1)) ∧
    ∀ p : Nat, p ≤ 4 → ∃ c x y : Nat, binOp .sub 28 (.float .f64 4621819117588971520) (.float .f64 (fl p)) = pure (.float .f64 (fl c)) ∧
      binOp .mul 28 (.float .f64 (fl c)) (.float .f64 (fl s3)) = pure (.float .f64 (fl x)) ∧
      binOp .mul 28 (.float .f64 (fl p)) (.float .f64 (fl s3)) = pure (.float .f64 (fl y)) ∧
      binOp .add 28 (.float .f64 (fl x)) (.float .f64 (fl y)) = pure (.float .f64 (fl t10)) := by
  have b2 : n * n ≤ 65536 * 65536 := Nat.mul_le_mul h2 h2
  have b3 : n * n * n ≤ 65536 * 65536 * 65536 := Nat.mul_le_mul b2 h2
  have l2 : 1 * 1 ≤ n * n := Nat.mul_le_mul h1 h1
  have l3 : 1 * 1 * 1 ≤ n * n * n := Nat.mul_le_mul l2 h1
  have e1 : n * n * (2 * n) = 2 * (n * n * n) := by rw [Nat.mul_left_comm]
  have e2 : 3 * n * n = 3 * (n * n) := by rw [Nat.mul_assoc]
  have e3 : 3 * (n * n) * n = 3 * (n * n * n) := by rw [Nat.mul_assoc]
  rw [c3, c10, c7]
  generalize hn2 : n * n = n2 at *
  generalize hn3 : n2 * n = n3 at *
  refine ⟨n2, 2 * n, 2 * n3, n3, 3 * n3, 3 * n, 3 * n2, 30 * n3, 21 * n3, ?_, ?_, ?_, ?_, ?_, ?_, ?_, ?_, ?_, ?_, ?_, ?_, ?_, ?_⟩
  · exact mulF (by omega) (by omega) hn2.symm (by omega)
  · exact addF (by omega) (by omega) (by omega) (by omega)
  · exact mulF (by omega) (by omega) e1.symm (by omega)
  · exact subF (by omega) (by omega) (by omega)
  · exact mulF (by omega) (by omega) hn3.symm (by omega)
  · exact addF (by omega) (by omega) (by omega) (by omega)
  · exact mulF (by omega) (by omega) (by omega) (by omega)
  · exact mulF (by omega) (by omega) e2.symm (by omega)
  · exact mulF (by omega) (by omega) e3.symm (by omega)
  · exact mulF (by omega) (by omega) (by omega) (by omega)
  · exact mulF (by omega) (by omega) (by omega) (by omega)
  · exact leqF (by omega) (by omega) (by omega)
  · exact divF (by omega) (by omega)
  · intro p hp
    have hx : (10 - p) * (3 * n3) + p * (3 * n3) = 30 * n3 := by
      rw [← Nat.add_mul]
      have : 10 - p + p = 10 := by omega
      rw [this]; omega
    have hb1 : (10 - p) * (3 * n3) ≤ 30 * n3 := by omega
    have hb2 : p * (3 * n3) ≤ 30 * n3 := by omega
    refine ⟨10 - p, (10 - p) * (3 * n3), p * (3 * n3), ?_, ?_, ?_, ?_⟩
    · exact subF (by omega) (by omega) rfl
    · exact mulF (by omega) (by omega) rfl (by omega)
    · exact mulF (by omega) (by omega) rfl (by omega)
    · exact addF (by omega) (by omega) hx.symm (by omega)

theorem one_eq {t : TypeId} : binOp .eql t (.float .f64 (fl 1)) (.float .f64 4607182418800017408) = pure (.bool true) := by
  rw [c1]; exact eqlF (by decide)

end Go.Proofs.Qxb6003855a
