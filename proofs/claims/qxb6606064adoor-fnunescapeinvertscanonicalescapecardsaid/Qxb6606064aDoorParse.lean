/-
  The seat b6606064aD: strconv.ParseUint (F15) and internal/strconv.ParseUint (F17) at four hex digits, base 16, 8 bits; lower (F20).
-/
import Derived.Test.Qxb6606064aDoorLeaves
namespace Go.Proofs.Qxb6606064aDoor
open Go.RowKit Go.Maps

theorem or32 {c : Int} (h0 : 97 ≤ c) (h1 : c ≤ 102) : ∀ t, binOp .or t (.int .u8 c) (.int .u8 32) = pure (.int .u8 c) := by
  intro t
  obtain rfl | rfl | rfl | rfl | rfl | rfl : c = 97 ∨ c = 98 ∨ c = 99 ∨ c = 100 ∨ c = 101 ∨ c = 102 := by omega
  all_goals rfl

theorem lower_any (c : Int) (w : World) (h0 : 97 ≤ c) (h1 : c ≤ 102) : Calls Tryd.prog 20 #[.int .u8 c] w fun e w' => e = .returned (.int .u8 c) ∧ w = w' := by
  have ho := or32 h0 h1
  go_enter Tryd.func20, Tryd.ntmps20
  go_wp2
  go_ret
  exact ⟨rfl, rfl⟩

/-- Four hex digits that say at most 255. -/
structure Hex4 (zs : List Int) (n : Int) : Prop where
  len : zs.length = 4
  dig : ∀ k, k < 4 → (48 ≤ nth zs k ∧ nth zs k ≤ 57) ∨ (97 ≤ nth zs k ∧ nth zs k ≤ 102)
  pre : ∀ k, k ≤ 4 → 0 ≤ Plain.hv (zs.take k) ∧ Plain.hv (zs.take k) ≤ 255
  val : Plain.hv zs = n

theorem hv_step {zs : List Int} {k : Nat} (h : k < zs.length) : Plain.hv (zs.take (k + 1)) = Plain.hv (zs.take k) * 16 + Plain.dv (nth zs k) := by
  rw [take_at h]; unfold Plain.hv; rw [List.foldl_append]; rfl

theorem bytes_in (s : ByteArray) (zs : List Int) (w : World) (hs : s = strOfNums zs) (hwf : ∀ z ∈ zs, (Lit.int .u8 z).wf = true) :
    ∃ v w1, (convert 9 22 (.string s)).run Tryd.prog w = .ok v w1 ∧ Reads w1 v zs ∧ Below w.heap.size w w1 := by
  have hsz : s.size = zs.length := by rw [hs, strOfNums_size]
  refine ⟨_, _, run_bytes_of_string (P := Tryd.prog) w 9 22 5 s Tryd.underlying9 Tryd.underlying22 Tryd.underlying5, Or.inr ⟨⟨w.heap.size, 0, none⟩, _, by rw [hsz], grownCap_ge w _ _ _, fun i hi => ?_⟩, ⟨rfl, rfl, rfl, by simp, fun k hk => Below.heap_alloc w.drew _ k (by show k < w.heap.size; omega)⟩⟩
  rw [Addr.add_lit]
  unfold World.cell?
  rw [show ({ block := w.heap.size, off := 0 + i } : Addr).block = w.drew.heap.size from rfl, heap_alloc_new w.drew]
  have hi' : i < s.data.size := by rw [← hsz] at hi; exact hi
  simp only [Nat.zero_add, Option.isSome_none, Bool.false_eq_true, if_false, bytesRow_at s _ i hi', Option.some.injEq, Value.int.injEq, true_and]
  have e : s.data[i] = UInt8.ofNat (nth zs i).toNat := by
    have h1 : s.data.toList = zs.map (fun n => UInt8.ofNat n.toNat) := by rw [hs]; exact strOfNums_data zs
    have h2 : s.data.toList[i]? = (zs.map (fun n => UInt8.ofNat n.toNat))[i]? := by rw [h1]
    rw [List.getElem?_map, List.getElem?_eq_getElem hi, ← nth_eq hi] at h2
    rw [Array.getElem?_toList, Array.getElem?_eq_getElem hi'] at h2
    exact Option.some.inj h2
  rw [e]
  have := of_wf (hwf _ (nth_mem hi))
  simp
  omega

set_option maxHeartbeats 1000000 in
set_option maxRecDepth 100000 in
theorem parse_in (s : ByteArray) (zs : List Int) (n0 : Int) (w : World) (hs : s = strOfNums zs) (hx : Hex4 zs n0) :
    Calls Tryd.prog 17 #[.string s, .int .i64 16, .int .i64 8] w fun e w' => e = .returned (.tuple #[.int .u64 n0, .nilIface]) ∧ Below w.heap.size w w' := by
  have hl4 := hx.len
  have hwf : ∀ z ∈ zs, (Lit.int .u8 z).wf = true := by
    intro z hz
    obtain ⟨k, hk, rfl⟩ := List.getElem_of_mem hz
    have := hx.dig k (by omega)
    rw [nth_eq hk] at this
    exact wf_of (by omega)
  obtain ⟨v, w1, hcv, hrd, hb1⟩ := bytes_in s zs w hs hwf
  have hsz : s.size = 4 := by rw [hs, strOfNums_size]; exact hx.len
  have hne : (s.toList == ([] : List UInt8)) = false := by
    rw [beq_eq_false_iff_ne]
    intro e
    have h2 := congrArg List.length e
    rw [ByteArray.toList_eq] at h2
    have h3 : s.data.toList.length = s.size := rfl
    rw [h3, List.length_nil] at h2
    omega
  have hln := hrd.len
  rw [hl4] at hln
  have HL : Hid (zs.length = 4) := hl4
  clear hl4 hs hsz
  go_enter Tryd.func17, Tryd.ntmps17
  go_wp2
  go_loopw [12, 13, 101] (fun uv nv kv wr => ∃ k : Nat, k ≤ 4 ∧ uv = .bool false ∧ nv = .int .u64 (Plain.hv (zs.take k)) ∧ kv = .int .i64 k ∧ wr = w1) (fun _ _ kv _ => 4 - (intOf kv).toNat)
  case atStart => exact ⟨0, by omega, rfl, rfl, rfl, rfl⟩
  case round =>
    obtain ⟨k, hk, rfl, rfl, rfl, rfl⟩ := hrel
    by_cases hlt : k < 4
    · have hix := hrd.index _ k rfl (by rw [HL.out]; exact hlt)
      have hcl := hrd.cell k (by rw [HL.out]; exact hlt)
      have hdg := hx.dig k hlt
      have hp0 := hx.pre k (by omega)
      have hp1 := hx.pre (k + 1) (by omega)
      have HS := hv_step (zs := zs) (k := k) (by rw [HL.out]; exact hlt)
      have HB : Hid (Below w.heap.size w wr) := hb1
      obtain ⟨N', hN'⟩ : ∃ N', Plain.hv (zs.take (k + 1)) = N' := ⟨_, rfl⟩
      rw [hN'] at hp1 HS
      have HN' : Hid (Plain.hv (zs.take (k + 1)) = N') := hN'
      clear hN'
      generalize Plain.hv (zs.take k) = N at *
      generalize nth zs k = z at *
      clear hb1 hwf hne hx
      rcases hdg with ⟨g1, g2⟩ | ⟨g1, g2⟩
      · have hd : Plain.dv z = z - 48 := by unfold Plain.dv; rw [if_pos g2]
        rw [hd] at HS
        have k1 : (z == 95) = false := by simp; omega
        have k2 : (z - 48) % 256 = z - 48 := by omega
        go_wp2
        go_roundw
        case rel => exact ⟨k + 1, by omega, rfl, by rw [HN'.out, HS], by go_num, trivial⟩
        case measure => simp [intOf]; omega
      · have hd : Plain.dv z = z - 97 + 10 := by unfold Plain.dv; rw [if_neg (by omega)]
        rw [hd] at HS
        have k1 : (z == 95) = false := by simp; omega
        go_wp2_with (go_at_call 20; refine (lower_any z _ g1 g2).mono ?_; rintro e w' ⟨rfl, rfl⟩)
        go_roundw
        case rel => exact ⟨k + 1, by omega, rfl, by rw [HN'.out, HS], by go_num, trivial⟩
        case measure => simp [intOf]; omega
    · have hk4 : k = 4 := by omega
      subst hk4
      have hv4 : Plain.hv (zs.take 4) = n0 := by rw [List.take_of_length_le (by rw [HL.out]; omega)]; exact hx.val
      rw [hv4]
      go_wp2
      go_ret2
      exact ⟨rfl, hb1⟩

set_option maxHeartbeats 400000 in
theorem parse_any (s : ByteArray) (zs : List Int) (n0 : Int) (w : World) (hs : s = strOfNums zs) (hx : Hex4 zs n0) :
    Calls Tryd.prog 15 #[.string s, .int .i64 16, .int .i64 8] w fun e w' => e = .returned (.tuple #[.int .u64 n0, .nilIface]) ∧ Below w.heap.size w w' := by
  have HS : Hid (s = strOfNums zs) := hs
  clear hs
  go_enter Tryd.func15, Tryd.ntmps15
  go_wp2_with (go_at_call 17; refine (parse_in s zs n0 _ HS.out hx).mono ?_; rintro e w' ⟨rfl, hb⟩)
  go_ret2
  exact ⟨rfl, hb⟩

theorem hex4_of {c : Int} (h0 : 0 ≤ c) (h1 : c < 32) : Hex4 [48, 48, Plain.hx (c / 16), Plain.hx (c % 16)] c := by
  have ha := Plain.hx_rng (v := c / 16) (by omega) (by omega)
  have hb := Plain.hx_rng (v := c % 16) (by omega) (by omega)
  generalize Plain.hx (c / 16) = a at *
  generalize Plain.hx (c % 16) = b at *
  have da : Plain.dv a = c / 16 := by
    unfold Plain.dv
    split <;> omega
  have db : Plain.dv b = c % 16 := by
    unfold Plain.dv
    split <;> omega
  have d48 : Plain.dv 48 = 0 := by decide
  refine ⟨rfl, fun k hk => ?_, fun k hk => ?_, ?_⟩
  · obtain rfl | rfl | rfl | rfl : k = 0 ∨ k = 1 ∨ k = 2 ∨ k = 3 := by omega
    · exact Or.inl (by simp [nth])
    · exact Or.inl (by simp [nth])
    · simp only [nth, List.getD, List.getElem?_cons_succ, List.getElem?_cons_zero, Option.getD_some]; omega
    · simp only [nth, List.getD, List.getElem?_cons_succ, List.getElem?_cons_zero, Option.getD_some]; omega
  · obtain rfl | rfl | rfl | rfl | rfl : k = 0 ∨ k = 1 ∨ k = 2 ∨ k = 3 ∨ k = 4 := by omega
    · simp [Plain.hv]
    · simp [Plain.hv, d48]
    · simp [Plain.hv, d48]
    · simp [Plain.hv, d48, da]; omega
    · simp [Plain.hv, d48, da, db]; omega
  · simp [Plain.hv, d48, da, db]; omega

end Go.Proofs.Qxb6606064aDoor
