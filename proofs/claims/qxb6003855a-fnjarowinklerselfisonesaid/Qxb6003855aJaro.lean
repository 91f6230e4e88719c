/-
  The seat b6003855a: FnJaroWinklerSelfIsOne: the walk.
-/
import Derived.Test.Qxb6003855aAgree
import Derived.Test.Qxb6003855aJaroParts
namespace Go.Proofs.Qxb6003855a
open Go.RowKit Go.Maps

/-- Both matchers at two equal names. -/
theorem self_long (v : Value) (A : List Int) (w : World) {b1 : Nat} {e1 : TypeId} (ha : w.ownsInts b1 e1 .i32 v A) (hA : A.length ≤ 65536) :
    Calls Try.prog 15 #[v, v] w fun e w' => e = .returned (.tuple #[.int .i64 (A.length : Int), .int .i64 0]) ∧ Below w.heap.size w w' := by
  have h := long_any v v A A w ha ha (by omega) (by omega)
  obtain ⟨e1, e2⟩ := Plain.self_answer A
  have e2' : ooT (Plain.lto A A A.length).inA A (Plain.lto A A A.length).mt A.length / 2 = 0 := e2
  rw [e1, e2'] at h
  exact h
theorem self_short (v : Value) (A : List Int) (w : World) {b1 : Nat} {e1 : TypeId} (ha : w.ownsInts b1 e1 .i32 v A) (hA : A.length ≤ 64) :
    Calls Try.prog 16 #[v, v] w fun e w' => e = .returned (.tuple #[.int .i64 (A.length : Int), .int .i64 0]) ∧ Below w.heap.size w w' := by
  have h := short_any v v A A w ha ha (by omega) (by omega)
  obtain ⟨e1, e2⟩ := Plain.self_answer A
  have e2' : ooT (Plain.lto A A A.length).inA A (Plain.lto A A A.length).mt A.length / 2 = 0 := e2
  rw [(Plain.agree A A A.length).2, e1, e2'] at h
  exact h

set_option maxHeartbeats 400000 in
theorem jw_empty (v : Value) (w : World) {b1 : Nat} {e1 : TypeId} (ha : w.ownsInts b1 e1 .i32 v []) :
    Calls Try.prog 17 #[v, v] w fun e w' => e = .returned (.float .f64 0) ∧ Below w.heap.size w w' := by
  have hla := len_eq (P := Try.prog) ha.1 22 Try.sl22
  simp only [List.length_nil] at hla
  go_enter Try.func17, Try.ntmps17
  go_wp2_with (go_at_call 16; refine (self_short v [] _ ha (by simp)).mono ?_; rintro e w1 ⟨rfl, hb1⟩)
  go_ret
  exact ⟨rfl, hb1⟩

theorem min4_eq (n : Nat) : (if (n : Int) < (if (n : Int) < 4 then (n : Int) else 4) then (n : Int) else (if (n : Int) < 4 then (n : Int) else 4)) = ((min 4 n : Nat) : Int) := by
  by_cases h : (n : Int) < 4
  · rw [if_pos h, if_neg (by omega)]; omega
  · rw [if_neg h, if_neg (by omega)]; omega

set_option maxHeartbeats 800000 in
theorem jw_some (v : Value) (A : List Int) (w : World) {b1 : Nat} {e1 : TypeId} (ha : w.ownsInts b1 e1 .i32 v A) (h1 : 1 ≤ A.length) (h2 : A.length ≤ 65536) :
    Calls Try.prog 17 #[v, v] w fun e w' => e = .returned (.float .f64 (fl 1)) ∧ Below w.heap.size w w' := by
  have hla := len_eq (P := Try.prog) ha.1 22 Try.sl22
  obtain ⟨n2, tw, p3, q3, s3, th, th2, t10, t7, g1, g2, g3, g4, g5, g6, g7, g8, g9, g10, g11, g12, g13, gp⟩ := jw_eqs A.length h1 h2
  have hfi := ofInt_fl A.length (by omega)
  have hf0 : floatOfInt .f64 0 = fl 0 := ofInt_fl 0 (by decide)
  have hn0 : ((A.length : Int) == 0) = false := by rw [beq_eq_false_iff_ne]; omega
  have HP : Hid (∀ p : Nat, p ≤ 4 → ∃ c x y : Nat, binOp .sub 28 (.float .f64 4621819117588971520) (.float .f64 (fl p)) = pure (.float .f64 (fl c)) ∧
      binOp .mul 28 (.float .f64 (fl c)) (.float .f64 (fl s3)) = pure (.float .f64 (fl x)) ∧
      binOp .mul 28 (.float .f64 (fl p)) (.float .f64 (fl s3)) = pure (.float .f64 (fl y)) ∧
      binOp .add 28 (.float .f64 (fl x)) (.float .f64 (fl y)) = pure (.float .f64 (fl t10))) := gp
  clear gp
  obtain ⟨m4, hm1, hm2, hmin⟩ : ∃ m4 : Nat, m4 ≤ 4 ∧ m4 ≤ A.length ∧ ∀ (ts : Array TypeId) (t : TypeId) (w' : World), (Builtin.min_ ts t #[.int .i64 4, .int .i64 (A.length : Int), .int .i64 (A.length : Int)]).run Try.prog w' = .ok (.int .i64 (m4 : Int)) w' := by
    refine ⟨min 4 A.length, by omega, by omega, fun ts t w' => ?_⟩
    rw [run_min_int3 (P := Try.prog) (w := w')]
    rw [min4_eq]
  by_cases hsh : A.length ≤ 64
  all_goals
    go_enter Try.func17, Try.ntmps17
    go_wp2_with (first | (go_at_call 16; refine (self_short v A _ ha (by omega)).mono ?_; rintro e w1 ⟨rfl, hb1⟩) | (go_at_call 15; refine (self_long v A _ ha h2).mono ?_; rintro e w1 ⟨rfl, hb1⟩))
    clear g1 g2 g3 g4 g5 g6 g7 g8 g9 g11 g12 hfi hf0
    have ha1 := ownsInts_later ha hb1
    go_loopw [12] (fun pv wr => ∃ k q : Nat, k ≤ m4 ∧ pv = .int .i64 k ∧ wr = w1.drewN q) (fun pv _ => m4 - (intOf pv).toNat)
    case atStart => exact ⟨0, 0, Nat.zero_le _, rfl, rfl⟩
    case round =>
      obtain ⟨k, q, hk, rfl, rfl⟩ := hrel
      by_cases hlt : k < m4
      · have hix := index_eq ha1.1 22 Try.sl22 Try.ce22 k (by omega)
        have hcx := cell_int ha1 k (by omega)
        have hlt' : (k : Int) < (m4 : Int) := by omega
        go_wp2
        go_quiet (fail)
        go_wp2
        go_roundw
        case rel => exact ⟨k + 1, q + nq, by omega, by go_num, by simp⟩
        case measure => simp [intOf]; omega
      · have hk' : k = m4 := by omega
        subst hk'
        obtain ⟨c, x, y, f1, f2, f3, f4⟩ := HP.out k hm1
        have hfk := ofInt_fl k (by omega)
        have hge : decide ((k : Int) < (k : Int)) = false := by simp
        go_wp2
        go_quiet (fail)
        go_wp2
        go_ret
        exact ⟨rfl, below_drewN hb1 _⟩

set_option maxHeartbeats 400000 in
theorem zzjw_empty (v : Value) (w : World) {b1 : Nat} {e1 : TypeId} (ha : w.ownsInts b1 e1 .i32 v []) :
    Calls Try.prog 14 #[v, v] w fun e w' => e = .returned (.float .f64 0) ∧ Below w.heap.size w w' := by
  go_enter Try.func14, Try.ntmps14
  go_wp2_with (go_at_call 17; refine (jw_empty v _ ha).mono ?_; rintro e w' ⟨rfl, hbe⟩)
  go_ret
  exact ⟨rfl, hbe⟩
set_option maxHeartbeats 400000 in
theorem zzjw_some (v : Value) (A : List Int) (w : World) {b1 : Nat} {e1 : TypeId} (ha : w.ownsInts b1 e1 .i32 v A) (h1 : 1 ≤ A.length) (h2 : A.length ≤ 65536) :
    Calls Try.prog 14 #[v, v] w fun e w' => e = .returned (.float .f64 (fl 1)) ∧ Below w.heap.size w w' := by
  go_enter Try.func14, Try.ntmps14
  go_wp2_with (go_at_call 17; refine (jw_some v A _ ha h1 h2).mono ?_; rintro e w' ⟨rfl, hbe⟩)
  go_ret
  exact ⟨rfl, hbe⟩

theorem zero_eq {t : TypeId} : binOp .eql t (.float .f64 0) (.float .f64 0) = pure (.bool true) := eqlF (x := 0) (by decide)

set_option maxHeartbeats 800000 in
theorem jaro_walk (a : Option Addr) (n cap : Nat) (zs : List Int) (w : World) (h : RowIn w a n cap zs) :
    Calls Try.prog 6 #[.slice a n cap] w fun e w' => e = .returned (.bool true) ∧ Below w.heap.size w w' := by
  obtain ⟨hmax, hnl⟩ := h.max
  by_cases h20 : n ≤ 65536
  · have HL : Hid ((zs.take n).length = n) := hnl
    have HC : Hid (Calls Try.prog 8 #[.slice a n cap] w fun e w' => ∃ v, e = .returned v ∧ w'.ownsInts w.heap.size 21 .i32 v (zs.take n) ∧ Below w.heap.size w w') := copy_any a n cap zs w (by omega) h
    clear h hnl
    generalize zs.take n = A at *
    have h1q : binOp .eql 28 (.float .f64 (fl 1)) (.float .f64 4607182418800017408) = pure (.bool true) := one_eq
    have h0q : binOp .eql 28 (.float .f64 0) (.float .f64 0) = pure (.bool true) := zero_eq
    by_cases hn : n = 0
    · subst hn
      have hA : A = [] := List.eq_nil_of_length_eq_zero HL.out
      subst hA
      go_enter Try.func6, Try.ntmps6
      go_wp2_with (first | (go_at_call 8; refine Calls.mono HC.out ?_; rintro e w1 ⟨v, rfl, hown, hb1⟩; have hlv : ∀ (ty : TypeId) (w' : World), (Builtin.len_ #[22] ty #[v]).run Try.prog w' = .ok (goInt 0) w' := len_eq (P := Try.prog) hown.1 22 Try.sl22) | (go_at_call 14; refine (zzjw_empty v _ hown).mono ?_; rintro e w2 ⟨rfl, hb2⟩) | go_in)
      go_ret
      exact ⟨rfl, hb1.trans (hb2.mono hb1.size)⟩
    · have hn0 : ((n : Int) == 0) = false := by rw [beq_eq_false_iff_ne]; omega
      have HN : Hid (¬ n = 0) := hn
      clear hn
      go_enter Try.func6, Try.ntmps6
      go_wp2_with (first | (go_at_call 8; refine Calls.mono HC.out ?_; rintro e w1 ⟨v, rfl, hown, hb1⟩; have hlv : ∀ (ty : TypeId) (w' : World), (Builtin.len_ #[22] ty #[v]).run Try.prog w' = .ok (goInt (n : Int)) w' := (by have := len_eq (P := Try.prog) hown.1 22 Try.sl22; rw [HL.out] at this; exact this)) | (go_at_call 14; refine (zzjw_some v A _ hown (by have := HN.out; rw [HL.out]; omega) (by rw [HL.out]; omega)).mono ?_; rintro e w2 ⟨rfl, hb2⟩) | go_in)
      go_ret
      exact ⟨rfl, hb1.trans (hb2.mono hb1.size)⟩
  · clear h
    by_cases h21 : n ≤ 1048576
    · go_enter Try.func6, Try.ntmps6
      go_wp2
      go_ret
      exact ⟨rfl, Below.refl _ _⟩
    · go_enter Try.func6, Try.ntmps6
      go_wp2
      go_ret
      exact ⟨rfl, Below.refl _ _⟩

end Go.Proofs.Qxb6003855a
