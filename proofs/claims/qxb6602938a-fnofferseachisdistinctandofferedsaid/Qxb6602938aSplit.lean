import Derived.Test.Qxb6602938aToOpt
namespace Go.Proofs.Qxb6602938a
open Go.RowKit

/-- The size guard answers some bool; where it answers true the slice is short. -/
def Guard (len : Nat) (w w' : World) (e : Ending) : Prop := ∃ b : Bool, e = .returned (.bool b) ∧ (b = true → len ≤ 1048576) ∧ w = w'

set_option maxHeartbeats 1600000 in
theorem bytes8_any (a : Option Addr) (len cap : Nat) (hlen : len ≤ maxLen) (L V I : Nat → ByteArray) (v : ByteArray) (c : Int) (w : World) (hat : At3 w a len L V I)
    (hs : ∀ i, i < len → (L i).size ≤ maxLen ∧ (V i).size ≤ maxLen ∧ (I i).size ≤ maxLen) (hv : v.size ≤ maxLen) :
    Calls Try.prog 8 #[.slice a len cap, .string v, .int .i64 c] w fun e w' => Guard len w w' e := by
  unfold maxLen at hlen hs hv
  by_cases hbig : (1048576 : Int) < (len : Int)
  · go_enter Try.func8, Try.ntmps8
    go_wp2
    go_ret
    exact ⟨_, rfl, by simp, rfl⟩
  have hbig' : (len : Int) ≤ 1048576 := by omega
  rcases hat with rfl | ⟨b, off, rfl, hb, hc⟩
  · go_enter Try.func8, Try.ntmps8
    go_wp2
    refine wp_loop_rounds 1 ?_
    rw [rounds_succ]
    go_wp2
    all_goals
      go_ret
      exact ⟨_, rfl, by omega, rfl⟩
  go_enter Try.func8, Try.ntmps8
  go_wp2
  go_loop [7, 8] (fun t i => ∃ (k : Nat) (n : Int), k ≤ len ∧ i = .int .i64 k ∧ t = .int .i64 n ∧ 0 ≤ n ∧ n ≤ 1048576) (fun _ i => len - (intOf i).toNat)
  case atStart => exact ⟨0, _, Nat.zero_le _, rfl, rfl, by omega, by omega⟩
  case round =>
    obtain ⟨k, n, hk, rfl, rfl, hn0, hn1⟩ := hrel
    by_cases hlt : k < len
    · obtain ⟨g0, g1, g2⟩ := hc k hlt
      obtain ⟨s0, s1, s2⟩ := hs k hlt
      clear hc hs
      go_wp2
      case roundEnd =>
        go_round
        case rel => exact ⟨k + 1, _, by omega, by go_num, rfl, by omega, by omega⟩
        case measure => simp [intOf]; omega
      all_goals
        go_ret
        exact ⟨_, rfl, by omega, rfl⟩
    · go_wp2
      all_goals
        go_ret
        exact ⟨_, rfl, by omega, rfl⟩

set_option maxHeartbeats 1600000 in
theorem split_nil (v : ByteArray) (c : Int) (w : World) (hv : v.size ≤ maxLen) (hcw : (Lit.int .i64 c).wf = true) :
    Calls Try.prog 3 #[.slice none 0 0, .string v, .int .i64 c] w fun e w' => e = .returned (.bool true) ∧ Below w.heap.size w w' := by
  have hat : ∀ w, At3 w none 0 (fun _ => v) (fun _ => v) (fun _ => v) := fun _ => .inl rfl
  go_enter Try.func3, Try.ntmps3
  go_wp2_with fail
  refine (bytes8_any none 0 0 (by simp) (fun _ => v) (fun _ => v) (fun _ => v) v c _ (hat _) (by omega) hv).mono ?_
  rintro e w1 ⟨b, rfl, hbb, rfl⟩
  cases b with
  | false =>
    go_wp2
    go_ret
    exact ⟨rfl, Below.refl _ _⟩
  | true =>
    clear hbb
    go_wp2_with fail
    refine (optbytes_any none 0 0 (by simp) (fun _ => v) (fun _ => v) (fun _ => v) _ (hat _) (by omega)).mono ?_
    rintro e w1 ⟨n1, rfl, h10, h11, rfl⟩
    go_wp2_with fail
    refine (strbytes_any v hv _).mono ?_
    rintro e w1 ⟨n2, rfl, h20, h21, rfl⟩
    by_cases hbig : 1048576 < n1 + n2
    · go_wp2
      go_ret
      exact ⟨rfl, Below.refl _ _⟩
    by_cases hneg : c < 0
    · go_wp2
      go_ret
      exact ⟨rfl, Below.refl _ _⟩
    by_cases hgt : 0 < c
    · go_wp2
      go_ret
      exact ⟨rfl, Below.refl _ _⟩
    obtain rfl : c = 0 := by omega
    go_wp2_with fail
    refine (cloneopts_nil _).mono ?_
    rintro e w1 ⟨rfl, rfl⟩
    go_wp2_with fail
    refine (tooptions_nil _).mono ?_
    rintro e w1 ⟨rfl, rfl⟩
    go_wp2_with fail
    refine (zzoffers_any none 0 0 (by simp) (fun _ => v) (fun _ => v) (fun _ => v) v _ (hat _)).mono ?_
    rintro e w1 ⟨rfl, hb1⟩
    rw [offB_zero]
    go_wp2_with fail
    refine (zzoffers_any none 0 0 (by simp) (fun _ => v) (fun _ => v) (fun _ => v) v _ (hat _)).mono ?_
    rintro e w2 ⟨rfl, hb2⟩
    rw [offB_zero]
    go_wp2_with fail
    refine (zzoffers_any none 0 0 (by simp) (fun _ => v) (fun _ => v) (fun _ => v) v _ (hat _)).mono ?_
    rintro e w3 ⟨rfl, hb3⟩
    rw [offB_zero]
    go_wp2_with fail
    refine wp_loop_rounds 1 ?_
    rw [rounds_succ]
    go_wp2_with fail
    refine (zzoffers_any none 0 0 (by simp) (fun _ => v) (fun _ => v) (fun _ => v) v _ (hat _)).mono ?_
    rintro e w4 ⟨rfl, hb4⟩
    rw [offB_zero]
    go_wp2_with fail
    refine (zzoffers_any none 0 0 (by simp) (fun _ => v) (fun _ => v) (fun _ => v) v _ (hat _)).mono ?_
    rintro e w5 ⟨rfl, hb5⟩
    rw [offB_zero]
    go_wp2
    go_ret
    have k2 := hb2.mono hb1.size
    have k3 := hb3.mono (Nat.le_trans hb1.size hb2.size)
    have k4 := hb4.mono (Nat.le_trans (Nat.le_trans hb1.size hb2.size) hb3.size)
    have k5 := hb5.mono (Nat.le_trans (Nat.le_trans (Nat.le_trans hb1.size hb2.size) hb3.size) hb4.size)
    exact ⟨rfl, (((hb1.trans k2).trans k3).trans k4).trans k5⟩

theorem offB_one (V : Nat → ByteArray) (v : ByteArray) (k : Nat) : offB (fun j => V (k + j)) v 1 = ((V k).toList == v.toList) := by
  simp [offB]

theorem At3.value {w : World} {B len : Nat} {L V I : Nat → ByteArray} (h : At3 w (some ⟨B, 0, none⟩) len L V I) {k : Nat} (hk : k < len) : w.cell? ⟨B, k * 3 + 1, none⟩ = some (.string (V k)) := by
  rcases h with rfl | ⟨b, off, he, hb, hc⟩
  · omega
  · simp only [Option.some.injEq, Addr.mk.injEq, and_true] at he
    obtain ⟨rfl, rfl⟩ := he
    have := (hc k hk).2.1
    rwa [Nat.zero_add] at this

theorem offB_split (V : Nat → ByteArray) (v : ByteArray) {c n : Nat} (h : c ≤ n) : offB V v n = (offB V v c || offB (fun j => V (c + j)) v (n - c)) := by
  rw [Bool.eq_iff_iff, Bool.or_eq_true, offB_true_iff, offB_true_iff, offB_true_iff]
  constructor
  · rintro ⟨i, hi, e⟩
    by_cases hc : i < c
    · exact .inl ⟨i, hc, e⟩
    · exact .inr ⟨i - c, by omega, by rw [show c + (i - c) = i by omega]; exact e⟩
  · rintro (⟨i, hi, e⟩ | ⟨i, hi, e⟩)
    · exact ⟨i, by omega, e⟩
    · exact ⟨c + i, by omega, e⟩

theorem At3.cut {w : World} {B len : Nat} {L V I : Nat → ByteArray} (h : At3 w (some ⟨B, 0, none⟩) len L V I) (k n : Nat) (hk : k + n ≤ len) :
    At3 w (some ⟨B, k * 3, none⟩) n (fun j => L (k + j)) (fun j => V (k + j)) (fun j => I (k + j)) := by
  rcases h with rfl | ⟨b, off, he, hb, hc⟩
  · exact .inl (by omega)
  · simp only [Option.some.injEq, Addr.mk.injEq, and_true] at he
    obtain ⟨rfl, rfl⟩ := he
    refine .inr ⟨B, k * 3, rfl, hb, fun i hi => ?_⟩
    have := hc (k + i) (by omega)
    rw [Nat.add_mul, Nat.zero_add] at this
    exact this

set_option maxHeartbeats 1600000 in
theorem split_some (x : Addr) (len cap : Nat) (hlen : len ≤ maxLen) (L V I : Nat → ByteArray) (v : ByteArray) (c : Int) (w : World) (hat : At3 w (some x) len L V I)
    (hs : ∀ i, i < len → (L i).size ≤ maxLen ∧ (V i).size ≤ maxLen ∧ (I i).size ≤ maxLen) (hv : v.size ≤ maxLen) (hcw : (Lit.int .i64 c).wf = true) :
    Calls Try.prog 3 #[.slice (some x) len cap, .string v, .int .i64 c] w fun e w' => e = .returned (.bool true) ∧ Below w.heap.size w w' := by
  go_enter Try.func3, Try.ntmps3
  go_wp2_with fail
  refine (bytes8_any (some x) len cap hlen L V I v c _ hat hs hv).mono ?_
  rintro e w1 ⟨b, rfl, hbb, rfl⟩
  cases b with
  | false =>
    go_wp2
    go_ret
    exact ⟨rfl, Below.refl _ _⟩
  | true =>
    have hl20 : len ≤ 1048576 := hbb rfl
    clear hbb
    go_wp2_with fail
    refine (optbytes_any (some x) len cap hlen L V I _ hat hs).mono ?_
    rintro e w1 ⟨n1, rfl, h10, h11, rfl⟩
    go_wp2_with fail
    refine (strbytes_any v hv _).mono ?_
    rintro e w1 ⟨n2, rfl, h20, h21, rfl⟩
    by_cases hbig : 1048576 < n1 + n2
    · go_wp2
      go_ret
      exact ⟨rfl, Below.refl _ _⟩
    by_cases hneg : c < 0
    · go_wp2
      go_ret
      exact ⟨rfl, Below.refl _ _⟩
    by_cases hgt : (len : Int) < c
    · go_wp2
      go_ret
      exact ⟨rfl, Below.refl _ _⟩
    obtain ⟨cn, rfl⟩ := Int.eq_ofNat_of_zero_le (Int.not_lt.1 hneg)
    have hcl : cn ≤ len := by omega
    go_wp2_with fail
    refine (cloneopts_some x len cap hl20 L V I _ hat).mono ?_
    rintro e w1 ⟨rfl, hown1, hb1⟩
    have A1 := hown1.at3
    clear hown1
    go_wp2_with fail
    refine (tooptions_some _ len len hl20 L V I _ A1).mono ?_
    rintro e w2 ⟨rfl, hown2, hb2⟩
    have A2 := hown2.at3
    have B2 := hb1.trans (hb2.mono hb1.size)
    replace A1 := A1.below hb2 (Nat.le_refl _)
    clear hown2
    go_wp2_with fail
    refine (zzoffers_any _ len len hlen L V I v _ A2).mono ?_
    rintro e w3 ⟨rfl, hb3⟩
    replace A1 := A1.below hb3 (Nat.le_refl _)
    replace A2 := A2.below hb3 (Nat.le_refl _)
    replace B2 := B2.trans (hb3.mono B2.size)
    clear hb3
    go_wp2_with fail
    refine (zzoffers_any _ 0 _ (by simp) L V I v _ (.inl rfl)).mono ?_
    rintro e w4 ⟨rfl, hb3⟩
    replace A1 := A1.below hb3 (Nat.le_refl _)
    replace A2 := A2.below hb3 (Nat.le_refl _)
    replace B2 := B2.trans (hb3.mono B2.size)
    clear hb3
    rw [offB_zero]
    go_wp2_with fail
    refine (zzoffers_any _ 0 _ (by simp) L V I v _ (.inl rfl)).mono ?_
    rintro e w5 ⟨rfl, hb3⟩
    replace A1 := A1.below hb3 (Nat.le_refl _)
    replace A2 := A2.below hb3 (Nat.le_refl _)
    replace B2 := B2.trans (hb3.mono B2.size)
    clear hb3 hat hs hb1 hb2
    rw [offB_zero]
    go_wp2_with fail
    go_loopw [9, 10] (fun s i wr => ∃ k : Nat, k ≤ len ∧ i = .int .i64 k ∧ s = .bool (offB V v k) ∧ At3 wr (some ⟨w.heap.size, 0, none⟩) len L V I ∧ At3 wr (some ⟨w1.heap.size, 0, none⟩) len L V I ∧ Below w.heap.size w wr) (fun _ i _ => len - (intOf i).toNat)
    case atStart => exact ⟨0, Nat.zero_le _, rfl, rfl, A1, A2, B2⟩
    case round =>
      clear A1 A2 B2
      obtain ⟨k, hk, rfl, rfl, A1, A2, B2⟩ := hrel
      by_cases hlt : k < len
      · have hne : ¬ len = k := by omega
        go_wp2_with fail
        refine (zzoffers_any _ 1 _ (by simp [maxLen]) _ _ _ v _ (A2.cut k 1 (by omega))).mono ?_
        rintro e w6 ⟨rfl, hb3⟩
        replace A1 := A1.below hb3 (Nat.le_refl _)
        replace A2 := A2.below hb3 (Nat.le_refl _)
        replace B2 := B2.trans (hb3.mono B2.size)
        rw [offB_one]
        clear hb3
        have g1 := A1.value hlt
        have hst := offB_succ V v k
        have HS : Hid (offB V v (k + 1) = (offB V v k || ((V k).toList == v.toList))) := hst
        clear hst
        cases hh : ((V k).toList == v.toList) with
        | true =>
          go_wp2
          go_roundw
          case rel => exact ⟨k + 1, by omega, by go_num, by rw [HS.out, hh]; simp, A1, A2, B2⟩
          case measure => simp [intOf]; omega
        | false =>
          go_wp2
          go_roundw
          case rel => exact ⟨k + 1, by omega, by go_num, by rw [HS.out, hh]; simp, A1, A2, B2⟩
          case measure => simp [intOf]; omega
      · obtain rfl : k = len := by omega
        go_wp2_with fail
        have A3 := A2.cut 0 cn (by omega)
        simp only [Nat.zero_mul, Nat.zero_add] at A3
        refine (zzoffers_any _ cn _ (by omega) _ _ _ v _ A3).mono ?_
        rintro e w6 ⟨rfl, hb3⟩
        replace A2 := A2.below hb3 (Nat.le_refl _)
        replace B2 := B2.trans (hb3.mono B2.size)
        clear hb3 A3
        by_cases hce : k = cn
        · subst hce
          go_wp2_with fail
          refine (zzoffers_any _ 0 _ (by simp) L V I v _ (.inl rfl)).mono ?_
          rintro e w7 ⟨rfl, hb3⟩
          replace B2 := B2.trans (hb3.mono B2.size)
          rw [offB_zero]
          clear hb3 A1 A2
          generalize offB V v k = p
          cases p
          all_goals
            go_wp2
            go_ret
            exact ⟨rfl, B2⟩
        · go_wp2_with fail
          refine (zzoffers_any _ (k - cn) _ (by omega) _ _ _ v _ (A2.cut cn (k - cn) (by omega))).mono ?_
          rintro e w7 ⟨rfl, hb3⟩
          replace B2 := B2.trans (hb3.mono B2.size)
          rw [offB_split V v hcl]
          clear hb3 A1 A2
          generalize offB V v cn = p
          generalize offB (fun j => V (cn + j)) v (k - cn) = q
          cases p <;> cases q
          all_goals
            go_wp2
            go_ret
            exact ⟨rfl, B2⟩

end Go.Proofs.Qxb6602938a
