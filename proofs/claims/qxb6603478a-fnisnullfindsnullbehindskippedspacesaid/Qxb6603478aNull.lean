/-
  Seat b6603478a: the walks of zzIsFourNull, isNull, ZZisNull and of FnIsNullFindsNullBehindSkippedSpace.
-/
import Derived.Test.Qxb6603478aPad
import Derived.Laws.BytesArg
namespace Go.Proofs.Qxb6603478a
open Go.RowKit

/-- The four bytes null. -/
def null4 (zs : List Int) : Bool := zs == [110, 117, 108, 108]

theorem null4_nil : null4 [] = false := rfl

theorem null4_pad (n : Nat) (zs : List Int) : null4 (pads n ++ zs) = (n == 0 && null4 zs) := by
  cases n with
  | zero => simp [pads]
  | succ n =>
    have e : pads (n + 1) = 32 :: (List.range n).map (fun k => spaceAt (k + 1)) := by
      simp [pads, List.range_succ_eq_map, spaceAt]
    simp [null4, e]

theorem null4_of_length {zs : List Int} (h : ¬ zs.length = 4) : null4 zs = false := by
  cases hh : null4 zs with
  | false => rfl
  | true =>
    have e : zs = [110, 117, 108, 108] := by simpa [null4] using hh
    rw [e] at h
    exact absurd rfl h

theorem byte_eq {z : Int} (h0 : 0 ≤ z) (h1 : z ≤ 255) (c : Nat) (hc : c ≤ 255) : (UInt8.ofNat z.toNat = UInt8.ofNat c) ↔ z = (c : Int) := by
  constructor
  · intro h
    have := congrArg UInt8.toNat h
    simp only [UInt8.toNat_ofNat'] at this
    omega
  · rintro rfl
    simp

theorem string_null {zs : List Int} (hb : ∀ z ∈ zs, 0 ≤ z ∧ z ≤ 255) : ((strOfNums zs).toList == [110, 117, 108, 108]) = null4 zs := by
  have e : (strOfNums zs).toList = zs.map fun z => UInt8.ofNat z.toNat := by rw [ByteArray.toList_eq, strOfNums_data]
  rw [e]
  by_cases hl : zs.length = 4
  · match zs, hl, hb with
    | [z0, z1, z2, z3], _, hb =>
      have b0 := hb z0 (by simp)
      have b1 := hb z1 (by simp)
      have b2 := hb z2 (by simp)
      have b3 := hb z3 (by simp)
      rw [Bool.eq_iff_iff]
      simp only [null4, List.map_cons, List.map_nil, beq_iff_eq, List.cons.injEq, and_true]
      have c0 := byte_eq b0.1 b0.2 110 (by omega)
      have c1 := byte_eq b1.1 b1.2 117 (by omega)
      have c2 := byte_eq b2.1 b2.2 108 (by omega)
      have c3 := byte_eq b3.1 b3.2 108 (by omega)
      exact and_congr c0 (and_congr c1 (and_congr c2 c3))
  · rw [null4_of_length hl]
    rw [beq_eq_false_iff_ne]
    intro h
    have := congrArg List.length h
    simp at this
    exact hl this

set_option maxHeartbeats 800000 in
theorem fournull_any (a : Option Addr) (zs : List Int) (cap : Nat) (w : World) (hat : AtB w a zs) :
    Calls Try.prog 13 #[.slice a zs.length cap] w fun e w' => e = .returned (.bool (null4 zs)) ∧ w = w' := by
  by_cases hl : zs.length = 4
  · rcases hat with h | ⟨b, off, rfl, _, hc⟩
    · omega
    match zs, hl with
    | [z0, z1, z2, z3], _ =>
      have g0 : w.cell? ⟨b, off, none⟩ = some (.int .u8 z0) := hc 0 (by simp)
      have g1 : w.cell? ⟨b, off + 1, none⟩ = some (.int .u8 z1) := hc 1 (by simp)
      have g2 : w.cell? ⟨b, off + 2, none⟩ = some (.int .u8 z2) := hc 2 (by simp)
      have g3 : w.cell? ⟨b, off + 3, none⟩ = some (.int .u8 z3) := hc 3 (by simp)
      clear hc
      have HN : Hid (null4 [z0, z1, z2, z3] = (((z0 == 110 && z1 == 117) && z2 == 108) && z3 == 108)) := by
        show _ = _
        rw [Bool.eq_iff_iff]
        simp [null4]
        omega
      rw [HN.out]
      clear HN
      cases h0 : (z0 == 110) <;> cases h1 : (z1 == 117) <;> cases h2 : (z2 == 108) <;> cases h3 : (z3 == 108)
      all_goals
        go_enter Try.func13, Try.ntmps13
        go_wp2
        go_ret
        exact ⟨rfl, rfl⟩
  · rw [null4_of_length hl]
    have hl' : ((zs.length : Int) == 4) = false := by simp; omega
    go_enter Try.func13, Try.ntmps13
    go_wp2
    go_ret
    exact ⟨rfl, rfl⟩

set_option maxHeartbeats 800000 in
theorem isnull_any (a : Option Addr) (zs : List Int) (cap : Nat) (hb : ∀ z ∈ zs, 0 ≤ z ∧ z ≤ 255) (hnil : a = none → zs.length = 0) (hx : ∀ x, a = some x → ∃ B off, x = ⟨B, off, none⟩) (w : World) (hat : AtB w a zs) :
    Calls Try.prog 17 #[.slice a zs.length cap] w fun e w' => e = .returned (.bool (null4 zs)) ∧ w = w' := by
  have HN := string_null hb
  have hcv : (convert 31 9 (.slice a zs.length cap)).run Try.prog w = .ok (.string (strOfNums zs)) w := by
    cases a with
    | none =>
      have e : zs = [] := List.eq_nil_of_length_eq_zero (hnil rfl)
      subst e
      exact run_convert_bytes_nil (P := Try.prog) w 31 5 Try.underlying31 Try.underlying5 _ _ 9 Try.underlying9
    | some x =>
      obtain ⟨B, off, rfl⟩ := hx x rfl
      refine run_convert_bytes_arg (P := Try.prog) w 31 5 Try.underlying31 Try.underlying5 B off zs.length cap zs rfl (fun i hi => ?_) 9 Try.underlying9
      rcases hat with h | ⟨b', off', e, _, hc⟩
      · omega
      · simp only [Option.some.injEq, Addr.mk.injEq, and_true] at e
        obtain ⟨rfl, rfl⟩ := e
        exact hc i hi
  rw [← HN]
  clear HN hat hx hnil hb
  go_enter Try.func17, Try.ntmps17
  go_wp2
  go_ret
  exact ⟨rfl, rfl⟩

set_option maxHeartbeats 400000 in
theorem zzisnull_any (a : Option Addr) (zs : List Int) (cap : Nat) (hb : ∀ z ∈ zs, 0 ≤ z ∧ z ≤ 255) (hnil : a = none → zs.length = 0) (hx : ∀ x, a = some x → ∃ B off, x = ⟨B, off, none⟩) (w : World) (hat : AtB w a zs) :
    Calls Try.prog 14 #[.slice a zs.length cap] w fun e w' => e = .returned (.bool (null4 zs)) ∧ w = w' := by
  go_enter Try.func14, Try.ntmps14
  go_wp2_with fail
  refine (isnull_any a zs cap hb hnil hx _ hat).mono ?_
  rintro e w' ⟨rfl, rfl⟩
  go_wp2
  go_ret
  exact ⟨rfl, rfl⟩

/-- A size guard answers some bool and changes nothing. -/
def GuardN (w w' : World) (e : Ending) : Prop := ∃ b : Bool, e = .returned (.bool b) ∧ w = w'

set_option maxHeartbeats 400000 in
theorem bytes12_any (a : Option Addr) (n cap : Nat) (i : Int) (w : World) : Calls Try.prog 12 #[.slice a n cap, .int .i64 i] w fun e w' => GuardN w w' e := by
  by_cases h : (1048576 : Int) < (n : Int)
  · go_enter Try.func12, Try.ntmps12
    go_wp2
    go_ret
    exact ⟨_, rfl, rfl⟩
  · have h' : (n : Int) ≤ 1048576 := by omega
    go_enter Try.func12, Try.ntmps12
    go_wp2
    go_ret
    exact ⟨_, rfl, rfl⟩

/-- Behind the padding lie the bytes themselves. -/
theorem AtB.behind {w : World} {B n : Nat} {zs : List Int} (h : AtB w (some ⟨B, 0, none⟩) (pads n ++ zs)) : AtB w (some ⟨B, n, none⟩) zs := by
  by_cases h0 : zs.length = 0
  · exact .inl h0
  rcases h with h | ⟨b, off, e, hlt, hc⟩
  · simp at h
    exact .inl (by simp [h.2])
  · simp only [Option.some.injEq, Addr.mk.injEq, and_true] at e
    obtain ⟨rfl, rfl⟩ := e
    refine .inr ⟨B, n, rfl, hlt, fun i hi => ?_⟩
    have := hc (n + i) (by rw [List.length_append, pads_length]; omega)
    rw [pads_get_ge, Nat.zero_add] at this
    exact this

theorem bounds_of_wf {zs : List Int} (h : ∀ z ∈ zs, (Lit.int .u8 z).wf = true) : ∀ z ∈ zs, 0 ≤ z ∧ z ≤ 255 := by
  intro z hz
  have := h z hz
  simp [Lit.wf] at this
  have e1 : IntKind.u8.min = 0 := rfl
  have e2 : IntKind.u8.max = 255 := rfl
  omega

theorem bounds_pads {n : Nat} {zs : List Int} (h : ∀ z ∈ zs, 0 ≤ z ∧ z ≤ 255) : ∀ z ∈ pads n ++ zs, 0 ≤ z ∧ z ≤ 255 := by
  intro z hz
  rcases List.mem_append.1 hz with hz | hz
  · obtain ⟨k, _, rfl⟩ := List.mem_map.1 hz
    unfold spaceAt
    split
    · omega
    · split
      · omega
      · split <;> omega
  · exact h z hz

set_option maxHeartbeats 1600000 in
theorem null_walk (a : Option Addr) (zs : List Int) (cap : Nat) (hnil : a = none → zs.length = 0 ∧ cap = 0) (hb : ∀ z ∈ zs, 0 ≤ z ∧ z ≤ 255) (i : Int) (w : World) (hat : AtB w a zs) :
    Calls Try.prog 5 #[.slice a zs.length cap, .int .i64 i] w fun e w' => e = .returned (.bool true) ∧ Below w.heap.size w w' := by
  by_cases hfirst : 0 < zs.length ∧ sp (zs.getD 0 0) = true
  · -- it opens with white space: nothing is asked
    obtain ⟨hpos, hsp⟩ := hfirst
    obtain ⟨b1, o1, rfl, _, g⟩ := hat.elem hpos
    generalize zs.getD 0 0 = z at g hsp
    have HS : Hid (sp z = true) := hsp
    clear hsp hb
    have g0 : w.cell? ⟨b1, o1, none⟩ = some (.int .u8 z) := g
    have hpi : (0 : Int) < (zs.length : Int) := by omega
    go_enter Try.func5, Try.ntmps5
    go_wp2_with fail
    refine (bytes12_any _ zs.length cap i _).mono ?_
    rintro e w1 ⟨b, rfl, rfl⟩
    cases b with
    | false =>
      go_wp2
      go_ret
      exact ⟨rfl, Below.refl _ _⟩
    | true =>
      by_cases hbig : (1048576 : Int) < (zs.length : Int)
      · go_wp2
        go_ret
        exact ⟨rfl, Below.refl _ _⟩
      by_cases hneg : i < 0
      · go_wp2
        go_ret
        exact ⟨rfl, Below.refl _ _⟩
      by_cases hgt : 65536 < i
      · go_wp2
        go_ret
        exact ⟨rfl, Below.refl _ _⟩
      go_wp2_with fail
      refine (isspace_any z _).mono ?_
      rintro e w1 ⟨rfl, rfl⟩
      rw [HS.out]
      go_wp2
      go_ret
      exact ⟨rfl, Below.refl _ _⟩
  have HK : Hid (Skips zs 0 0) := ⟨Nat.le_refl _, .inl rfl, fun k h1 h2 => by omega, fun h => by
    cases hh : sp (zs.getD 0 0) with
    | false => rfl
    | true => exact absurd ⟨h, hh⟩ hfirst⟩
  have hsecond : zs.length = 0 ∨ (0 < zs.length ∧ Hid (sp (zs.getD 0 0) = false)) := by
    by_cases h0 : zs.length = 0
    · exact .inl h0
    · exact .inr ⟨by omega, HK.out.2.2.2 (by omega)⟩
  clear hfirst
  go_enter Try.func5, Try.ntmps5
  go_wp2_with fail
  refine (bytes12_any _ zs.length cap i _).mono ?_
  rintro e w1 ⟨b, rfl, rfl⟩
  cases b with
  | false =>
    go_wp2
    go_ret
    exact ⟨rfl, Below.refl _ _⟩
  | true =>
    by_cases hbig : (1048576 : Int) < (zs.length : Int)
    · go_wp2
      go_ret
      exact ⟨rfl, Below.refl _ _⟩
    by_cases hneg : i < 0
    · go_wp2
      go_ret
      exact ⟨rfl, Below.refl _ _⟩
    by_cases hgt : 65536 < i
    · go_wp2
      go_ret
      exact ⟨rfl, Below.refl _ _⟩
    have hlen : zs.length ≤ 1048576 := by omega
    obtain ⟨n, rfl⟩ := Int.eq_ofNat_of_zero_le (Int.not_lt.1 hneg)
    have hn : n ≤ 65536 := by omega
    obtain ⟨ps, hps⟩ : ∃ ps, ps = pads n ++ zs := ⟨_, rfl⟩
    have hpl : ps.length = n + zs.length := by rw [hps, List.length_append, pads_length]
    have hpm : ps.length ≤ 1114112 := by omega
    have hpn : n ≤ ps.length := by omega
    have S0 : Hid (Skips ps 0 (n + 0)) := by rw [hps]; exact skips_pad HK.out (Nat.zero_le _)
    have HN : Hid (null4 ps = (n == 0 && null4 zs)) := by rw [hps]; exact null4_pad n zs
    have HB : Hid (∀ z ∈ ps, 0 ≤ z ∧ z ≤ 255) := by rw [hps]; exact bounds_pads hb
    have HP : Hid (ps = pads n ++ zs) := hps
    have HL : Hid (ps.length = n + zs.length) := hpl
    have Hb : Hid (∀ z ∈ zs, 0 ≤ z ∧ z ≤ 255) := hb
    clear hps HK hpl hb
    rcases hsecond with h0 | ⟨hpos, HS⟩
    · have hz : decide ((0 : Int) < (zs.length : Int)) = false := decide_eq_false (by omega)
      have hz' : decide (0 < zs.length) = false := decide_eq_false (by omega)
      clear h0
      go_wp2_with fail
      refine (copybytes_all _ zs cap hlen hnil _ hat).mono ?_
      rintro e w1 ⟨a1, rfl, hz1, _, A1, B1⟩
      clear hat hnil
      go_wp2_with fail
      refine (padfront_any n hn a1 zs hlen hz1 ps HP _ A1).mono ?_
      rintro e w2 ⟨a2, rfl, hz2, hx2, A2, B2⟩
      replace A1 := A1.below B2 (Nat.le_refl _)
      replace B1 := B1.trans (B2.mono B1.size)
      clear B2 hz1
      go_wp2_with fail
      refine (zzskip_any a2 ps ps.length (by unfold maxLen; omega) 0 _ A2).mono ?_
      rintro e w3 ⟨r0, rfl, hr0, rfl⟩
      obtain rfl : n = r0 := (hr0.unique S0.out).symm
      clear hr0 S0
      go_wp2_with fail
      refine (fournull_any a1 zs zs.length _ A1).mono ?_
      rintro e w3 ⟨rfl, rfl⟩
      cases a2 with
      | none =>
        have hp0 : ps.length = 0 := hz2 rfl
        have hL := HL.out
        have hn0 : n = 0 := by omega
        subst hn0
        have hz0 : zs.length = 0 := by omega
        have e1 : zs = [] := List.eq_nil_of_length_eq_zero hz0
        have e2 : ps = [] := List.eq_nil_of_length_eq_zero hp0
        subst e1
        subst e2
        clear hp0 hL hz0 hz2 hx2 HP HL HN HB Hb
        go_wp2_with fail
        refine (zzisnull_any none [] 0 (by simp) (fun _ => rfl) (fun x h => (by cases h)) _ (.inl rfl)).mono ?_
        rintro e w3 ⟨rfl, rfl⟩
        rw [null4_nil]
        go_wp2_with fail
        refine (zzisnull_any none [] 0 (by simp) (fun _ => rfl) (fun x h => (by cases h)) _ (.inl rfl)).mono ?_
        rintro e w3 ⟨rfl, rfl⟩
        rw [null4_nil]
        go_wp2
        go_ret
        exact ⟨rfl, B1⟩
      | some x2 =>
        obtain ⟨B, rfl⟩ := hx2 x2 rfl
        clear hz2 hx2
        have C2 := zzisnull_any _ ps ps.length HB.out (fun h => (by cases h)) (fun x h => ⟨_, _, (Option.some.inj h).symm⟩) _ A2
        by_cases hne : ps.length = n
        · have hL := HL.out
          have e1 : zs = [] := List.eq_nil_of_length_eq_zero (by omega)
          subst e1
          have HF : Hid (null4 ps = false) := by
            show _ = _
            rw [HN.out, null4_nil, Bool.and_false]
          rw [hne] at C2
          have C3 : Hid _ := C2
          clear hL HP HL HN HB Hb C2
          go_wp2_with fail
          refine (zzisnull_any _ [] 0 (by simp) (fun h => (by cases h)) (fun x h => ⟨_, _, (Option.some.inj h).symm⟩) _ (.inl rfl)).mono ?_
          rintro e w3 ⟨rfl, rfl⟩
          rw [null4_nil]
          go_wp2_with fail
          refine Calls.mono C3.out ?_
          rintro e w3 ⟨rfl, rfl⟩
          rw [HF.out]
          cases hn0 : ((n : Int) == 0)
          all_goals
            go_wp2
            go_ret
            exact ⟨rfl, B1⟩
        · have hL : ps.length - n = zs.length := by have := HL.out; omega
          have A3 : AtB w2 (some ⟨B, n, none⟩) zs := AtB.behind (by rw [← HP.out]; exact A2)
          have C1 := zzisnull_any _ zs zs.length Hb.out (fun h => (by cases h)) (fun x h => ⟨_, _, (Option.some.inj h).symm⟩) _ A3
          rw [← hL] at C1
          have H1 : Hid _ := C1
          have H2 : Hid _ := C2
          clear hL HP HL HB Hb C1 C2 A3
          go_wp2_with fail
          refine Calls.mono H1.out ?_
          rintro e w3 ⟨rfl, rfl⟩
          rw [HN.out] at H2
          have HE : Hid ((n == 0) = ((n : Int) == 0)) := by
            show _ = _
            rw [Bool.eq_iff_iff]
            simp
          rw [HE.out] at H2
          clear HN HE
          generalize null4 zs = q at H2 ⊢
          cases q
          all_goals
            cases hn0 : ((n : Int) == 0)
            all_goals
              rw [hn0] at H2
              go_wp2_with fail
              refine Calls.mono H2.out ?_
              rintro e w3 ⟨rfl, rfl⟩
              go_wp2
              go_ret
              exact ⟨rfl, B1⟩
    · obtain ⟨b1, o1, rfl, _, g⟩ := hat.elem hpos
      have hpi : (0 : Int) < (zs.length : Int) := by omega
      generalize zs.getD 0 0 = z at g HS
      have g0 : w.cell? ⟨b1, o1, none⟩ = some (.int .u8 z) := g
      go_wp2_with fail
      refine (isspace_any z _).mono ?_
      rintro e w1 ⟨rfl, rfl⟩
      rw [HS.out]
      clear g g0 HS
      go_wp2_with fail
      refine (copybytes_all _ zs cap hlen hnil _ hat).mono ?_
      rintro e w1 ⟨a1, rfl, hz1, _, A1, B1⟩
      clear hat hnil
      go_wp2_with fail
      refine (padfront_any n hn a1 zs hlen hz1 ps HP _ A1).mono ?_
      rintro e w2 ⟨a2, rfl, hz2, hx2, A2, B2⟩
      replace A1 := A1.below B2 (Nat.le_refl _)
      replace B1 := B1.trans (B2.mono B1.size)
      clear B2 hz1
      go_wp2_with fail
      refine (zzskip_any a2 ps ps.length (by unfold maxLen; omega) 0 _ A2).mono ?_
      rintro e w3 ⟨r0, rfl, hr0, rfl⟩
      obtain rfl : n = r0 := (hr0.unique S0.out).symm
      clear hr0 S0
      go_wp2_with fail
      refine (fournull_any a1 zs zs.length _ A1).mono ?_
      rintro e w3 ⟨rfl, rfl⟩
      cases a2 with
      | none =>
        have hp0 : ps.length = 0 := hz2 rfl
        have hL := HL.out
        have hn0 : n = 0 := by omega
        subst hn0
        have hz0 : zs.length = 0 := by omega
        have e1 : zs = [] := List.eq_nil_of_length_eq_zero hz0
        have e2 : ps = [] := List.eq_nil_of_length_eq_zero hp0
        subst e1
        subst e2
        clear hp0 hL hz0 hz2 hx2 HP HL HN HB Hb
        go_wp2_with fail
        refine (zzisnull_any none [] 0 (by simp) (fun _ => rfl) (fun x h => (by cases h)) _ (.inl rfl)).mono ?_
        rintro e w3 ⟨rfl, rfl⟩
        rw [null4_nil]
        go_wp2_with fail
        refine (zzisnull_any none [] 0 (by simp) (fun _ => rfl) (fun x h => (by cases h)) _ (.inl rfl)).mono ?_
        rintro e w3 ⟨rfl, rfl⟩
        rw [null4_nil]
        go_wp2
        go_ret
        exact ⟨rfl, B1⟩
      | some x2 =>
        obtain ⟨B, rfl⟩ := hx2 x2 rfl
        clear hz2 hx2
        have C2 := zzisnull_any _ ps ps.length HB.out (fun h => (by cases h)) (fun x h => ⟨_, _, (Option.some.inj h).symm⟩) _ A2
        by_cases hne : ps.length = n
        · have hL := HL.out
          have e1 : zs = [] := List.eq_nil_of_length_eq_zero (by omega)
          subst e1
          have HF : Hid (null4 ps = false) := by
            show _ = _
            rw [HN.out, null4_nil, Bool.and_false]
          rw [hne] at C2
          have C3 : Hid _ := C2
          clear hL HP HL HN HB Hb C2
          go_wp2_with fail
          refine (zzisnull_any _ [] 0 (by simp) (fun h => (by cases h)) (fun x h => ⟨_, _, (Option.some.inj h).symm⟩) _ (.inl rfl)).mono ?_
          rintro e w3 ⟨rfl, rfl⟩
          rw [null4_nil]
          go_wp2_with fail
          refine Calls.mono C3.out ?_
          rintro e w3 ⟨rfl, rfl⟩
          rw [HF.out]
          cases hn0 : ((n : Int) == 0)
          all_goals
            go_wp2
            go_ret
            exact ⟨rfl, B1⟩
        · have hL : ps.length - n = zs.length := by have := HL.out; omega
          have A3 : AtB w2 (some ⟨B, n, none⟩) zs := AtB.behind (by rw [← HP.out]; exact A2)
          have C1 := zzisnull_any _ zs zs.length Hb.out (fun h => (by cases h)) (fun x h => ⟨_, _, (Option.some.inj h).symm⟩) _ A3
          rw [← hL] at C1
          have H1 : Hid _ := C1
          have H2 : Hid _ := C2
          clear hL HP HL HB Hb C1 C2 A3
          go_wp2_with fail
          refine Calls.mono H1.out ?_
          rintro e w3 ⟨rfl, rfl⟩
          rw [HN.out] at H2
          have HE : Hid ((n == 0) = ((n : Int) == 0)) := by
            show _ = _
            rw [Bool.eq_iff_iff]
            simp
          rw [HE.out] at H2
          clear HN HE
          generalize null4 zs = q at H2 ⊢
          cases q
          all_goals
            cases hn0 : ((n : Int) == 0)
            all_goals
              rw [hn0] at H2
              go_wp2_with fail
              refine Calls.mono H2.out ?_
              rintro e w3 ⟨rfl, rfl⟩
              go_wp2
              go_ret
              exact ⟨rfl, B1⟩

end Go.Proofs.Qxb6603478a
