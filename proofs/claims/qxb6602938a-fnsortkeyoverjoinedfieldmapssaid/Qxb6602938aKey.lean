/-
  Seat b6602938a: the walks of zzToPairs, zzConcatPairs, zzDataSource, zzColumn, sortKey, ZZSortKey.
-/
import Derived.Test.Qxb6602938aPairs
import Derived.BigRegion
import Derived.RegionTactic
namespace Go.Proofs.Qxb6602938a
open Go.RowKit

set_option maxHeartbeats 800000 in
theorem topairs_all (a : Option Addr) (len : Nat) (hlen : len ≤ 1048576) (hnil : a = none → len = 0) (P : Prs) (w : World) (hat : At4 w a len P) :
    Calls Try.prog 33 #[.slice a len len] w fun e w' => ∃ a', e = .returned (.slice a' len len) ∧ At4 w' a' len P ∧ Below w.heap.size w w' := by
  cases a with
  | none =>
    obtain rfl := hnil rfl
    have hnl := fun w => Lib.run_eql_slice_nil (P := Try.prog) w 40 60 none 0 0 0 0 Try.underlying40
    go_enter Try.func33, Try.ntmps33
    go_wp2
    go_ret
    exact ⟨none, rfl, .inl rfl, Below.refl _ _⟩
  | some x =>
    obtain ⟨cs, hcs, hmk⟩ := make4 48 67 _ Try.underlying48 Try.info67 len (by omega)
    have hnl := fun w => Lib.run_eql_slice_nil (P := Try.prog) w 40 60 (some x) len len 0 0 Try.underlying40
    go_enter Try.func33, Try.ntmps33
    go_wp2_with fail
    go_loopw [4] (fun i wr => ∃ k : Nat, k ≤ len ∧ i = .int .i64 k ∧ Own4 wr w.heap.size 67 len k P ∧ Below w.heap.size w wr) (fun i _ => len - (intOf i).toNat)
    case atStart => exact ⟨0, Nat.zero_le _, rfl, Own4.made hcs.out P, (Below.refl _ _).alloc (Nat.le_refl _) _⟩
    case round =>
      clear hmk hnl
      obtain ⟨k, hk, rfl, hown, hbel⟩ := hrel
      by_cases hlt : k < len
      · obtain ⟨b, off, hx, _, g0, g1, g2, g3⟩ := (hat.below hbel (Nat.le_refl _)).elem hlt
        obtain rfl : x = ⟨b, off, none⟩ := by simpa using hx
        clear hx
        have hki : (k : Int) < (len : Int) := by omega
        go_wp2_with fail
        refine (topair_any _ _ _ _ _).mono ?_
        rintro e w1 ⟨rfl, hb1⟩
        replace hown := hown.below hb1 (Nat.le_refl _)
        replace hbel := hbel.trans (hb1.mono hbel.size)
        have hst := hown.step
        obtain ⟨f, ⟨c0, c1, c2, c3⟩, f0, f1, f2, f3⟩ := hown.room hlt
        clear hb1 g0 g1 g2 g3
        go_wp2_with fail
        go_roundw
        case rel => exact ⟨k + 1, by omega, by go_num, hst, (((hbel.setCell (Nat.le_refl _) _).setCell (Nat.le_refl _) _).setCell (Nat.le_refl _) _).setCell (Nat.le_refl _) _⟩
        case measure => simp [intOf]; omega
      · obtain rfl : len = k := by omega
        go_wp2_with fail
        go_ret
        exact ⟨_, rfl, hown.at4, hbel⟩

/-- n of P, then Q. -/
def Prs.join (P : Prs) (n : Nat) (Q : Prs) : Prs :=
  ⟨fun i => if i < n then P.k i else Q.k (i - n), fun i => if i < n then P.a i else Q.a (i - n), fun i => if i < n then P.v i else Q.v (i - n), fun i => if i < n then P.c i else Q.c (i - n)⟩

theorem join_lt (P : Prs) (n : Nat) (Q : Prs) {i : Nat} (h : i < n) : (P.join n Q).k i = P.k i ∧ (P.join n Q).a i = P.a i ∧ (P.join n Q).v i = P.v i ∧ (P.join n Q).c i = P.c i := by
  simp [Prs.join, h]
theorem join_ge (P : Prs) (n : Nat) (Q : Prs) (i : Nat) : (P.join n Q).k (n + i) = Q.k i ∧ (P.join n Q).a (n + i) = Q.a i ∧ (P.join n Q).v (n + i) = Q.v i ∧ (P.join n Q).c (n + i) = Q.c i := by
  simp [Prs.join, show ¬ n + i < n by omega]

theorem make4s (n m : Nat) (hn : n ≤ 1048576) (hm : m ≤ 1048576) :
    ∃ cs : Array Value, Hid (cs.size = (n + m) * 4) ∧ ∀ w : World, (Instr.makeSlice 48 (.int .i64 ((n : Int) + (m : Int))) (.int .i64 ((n : Int) + (m : Int)))).run Try.prog w = .ok (.slice (some ⟨w.heap.size, 0, none⟩) (n + m) (n + m)) (w.alloc (.cells cs 67)) :=
  make4 48 67 _ Try.underlying48 Try.info67 (n + m) (by omega)

set_option maxHeartbeats 1600000 in
theorem concat_all (a : Option Addr) (n : Nat) (hn : n ≤ 1048576) (P : Prs) (b : Option Addr) (m : Nat) (hm : m ≤ 1048576) (Q : Prs) (w : World) (hat : At4 w a n P) (hbt : At4 w b m Q) :
    Calls Try.prog 26 #[.slice a n n, .slice b m m] w fun e w' => e = .returned (.slice (some ⟨w.heap.size, 0, none⟩) (n + m) (n + m)) ∧ At4 w' (some ⟨w.heap.size, 0, none⟩) (n + m) (P.join n Q) ∧ Below w.heap.size w w' := by
  obtain ⟨cs, hcs, hmk⟩ := make4s n m hn hm
  go_enter Try.func26, Try.ntmps26
  go_wp2_with fail
  go_loopw [6] (fun i wr => ∃ k : Nat, k ≤ n ∧ i = .int .i64 k ∧ Own4 wr w.heap.size 67 (n + m) k (P.join n Q) ∧ Below w.heap.size w wr) (fun i _ => n - (intOf i).toNat)
  case atStart => exact ⟨0, Nat.zero_le _, rfl, Own4.made hcs.out _, (Below.refl _ _).alloc (Nat.le_refl _) _⟩
  case round =>
    clear hmk
    obtain ⟨k, hk, rfl, hown, hbel⟩ := hrel
    by_cases hlt : k < n
    · obtain ⟨bb, off, rfl, _, g0, g1, g2, g3⟩ := (hat.below hbel (Nat.le_refl _)).elem hlt
      obtain ⟨e0, e1, e2, e3⟩ := join_lt P n Q hlt
      rw [← e0] at g0
      rw [← e1] at g1
      rw [← e2] at g2
      rw [← e3] at g3
      clear e0 e1 e2 e3
      have hki : (k : Int) < (n : Int) := by omega
      have hki' : (k : Int) < (n : Int) + (m : Int) := by omega
      go_wp2_with fail
      refine (topair_any _ _ _ _ _).mono ?_
      rintro e w1 ⟨rfl, hb1⟩
      replace hown := hown.below hb1 (Nat.le_refl _)
      replace hbel := hbel.trans (hb1.mono hbel.size)
      have hst := hown.step
      obtain ⟨f, ⟨c0, c1, c2, c3⟩, f0, f1, f2, f3⟩ := hown.room (by omega)
      clear hb1 g0 g1 g2 g3
      go_wp2_with fail
      go_roundw
      case rel => exact ⟨k + 1, by omega, by go_num, hst, (((hbel.setCell (Nat.le_refl _) _).setCell (Nat.le_refl _) _).setCell (Nat.le_refl _) _).setCell (Nat.le_refl _) _⟩
      case measure => simp [intOf]; omega
    · obtain rfl : n = k := by omega
      obtain ⟨wm, rfl⟩ : ∃ x, x = wr := ⟨_, rfl⟩
      go_wp2_with fail
      go_loopw [7] (fun i wr => ∃ k : Nat, k ≤ m ∧ i = .int .i64 k ∧ Own4 wr w.heap.size 67 (n + m) (n + k) (P.join n Q) ∧ Below w.heap.size w wr) (fun i _ => m - (intOf i).toNat)
      case atStart => exact ⟨0, Nat.zero_le _, rfl, hown, hbel⟩
      case round =>
        clear hown hbel
        obtain ⟨j, hj, rfl, hown, hbel⟩ := hrel
        by_cases hltj : j < m
        · obtain ⟨bb, off, rfl, _, g0, g1, g2, g3⟩ := (hbt.below hbel (Nat.le_refl _)).elem hltj
          obtain ⟨e0, e1, e2, e3⟩ := join_ge P n Q j
          rw [← e0] at g0
          rw [← e1] at g1
          rw [← e2] at g2
          rw [← e3] at g3
          clear e0 e1 e2 e3
          have hki : (j : Int) < (m : Int) := by omega
          have hki' : (n : Int) + (j : Int) < (n : Int) + (m : Int) := by omega
          go_wp2_with fail
          refine (topair_any _ _ _ _ _).mono ?_
          rintro e w1 ⟨rfl, hb1⟩
          replace hown := hown.below hb1 (Nat.le_refl _)
          replace hbel := hbel.trans (hb1.mono hbel.size)
          have hst := hown.step
          obtain ⟨f, ⟨c0, c1, c2, c3⟩, f0, f1, f2, f3⟩ := hown.room (by omega)
          clear hb1 g0 g1 g2 g3
          go_wp2_with fail
          go_roundw
          case rel => exact ⟨j + 1, by omega, by go_num, hst, (((hbel.setCell (Nat.le_refl _) _).setCell (Nat.le_refl _) _).setCell (Nat.le_refl _) _).setCell (Nat.le_refl _) _⟩
          case measure => simp [intOf]; omega
        · obtain rfl : m = j := by omega
          go_wp2_with fail
          go_ret
          exact ⟨rfl, hown.at4, hbel⟩

set_option maxHeartbeats 800000 in
theorem column_any (f : ByteArray) (x : Int) (s : ByteArray) (y : Int) (w : World) :
    Calls Try.prog 24 #[.string f, .int .i64 x, .string s, .int .i64 y] w fun e w' => e = .returned (.pointer (some ⟨w.heap.size, 0, none⟩)) ∧ w'.cell? ⟨w.heap.size, 1, none⟩ = some (.string f) ∧ w'.cell? ⟨w.heap.size, 9, none⟩ = some (.string s) ∧ w.heap.size < w'.heap.size ∧ Below w.heap.size w w' := by
  go_enter Try.func24, Try.ntmps24
  go_wp2
  go_ret
  exact ⟨rfl, by rw [World.cell?_alloc_new]; rfl, by rw [World.cell?_alloc_new]; rfl, by simp, (Below.refl _ _).alloc (Nat.le_refl _) _⟩

set_option maxHeartbeats 800000 in
theorem datasource_any (a : Option Addr) (len : Nat) (hlen : len ≤ 1048576) (hnil : a = none → len = 0) (P : Prs) (w : World) (hat : At4 w a len P) :
    Calls Try.prog 27 #[.slice a len len] w fun e w' => ∃ d a', e = .returned (.pointer (some ⟨d, 0, none⟩)) ∧ w'.cell? ⟨d, 8, none⟩ = some (.slice a' len len) ∧ d < w'.heap.size ∧ At4 w' a' len P ∧ Below w.heap.size w w' := by
  go_enter Try.func27, Try.ntmps27
  go_wp2_with fail
  refine (topairs_all a len hlen hnil P _ hat).mono ?_
  rintro e w1 ⟨a', rfl, A1, B1⟩
  go_wp2_with fail
  go_ret
  exact ⟨_, a', rfl, by rw [World.cell?_alloc_new]; rfl, by simp, A1.below ((Below.refl _ _).alloc (Nat.le_refl _) _) (Nat.le_refl _), B1.alloc B1.size _⟩

/-- The value at the first of n keys that is f; the empty string where none is. -/
def skey (P : Prs) (f : ByteArray) (n : Nat) : ByteArray :=
  match (List.range n).find? fun i => (P.k i).toList == f.toList with
  | some i => P.v i
  | none => ⟨#[]⟩

theorem skey_none (P : Prs) (f : ByteArray) (n : Nat) (h : offB P.k f n = false) : skey P f n = ⟨#[]⟩ := by
  have : (List.range n).find? (fun i => (P.k i).toList == f.toList) = none := by
    rw [List.find?_eq_none]
    intro i hi ht
    rw [offB_hit (List.mem_range.1 hi) ht] at h
    cases h
  simp [skey, this]

theorem skey_hit (P : Prs) (f : ByteArray) {k n : Nat} (hk : k < n) (h0 : offB P.k f k = false) (h : ((P.k k).toList == f.toList) = true) : skey P f n = P.v k := by
  have : (List.range n).find? (fun i => (P.k i).toList == f.toList) = some k := by
    rw [List.find?_range_eq_some]
    refine ⟨h, List.mem_range.2 hk, fun j hj => ?_⟩
    cases hh : ((P.k j).toList == f.toList) with
    | false => rfl
    | true =>
      rw [offB_hit hj hh] at h0
      cases h0
  simp [skey, this]

/-- What sortKey answers. -/
def sk (P : Prs) (f s : ByteArray) (n : Nat) : ByteArray := if s.toList.isEmpty then skey P f n else s

theorem ret_str {a b : ByteArray} (h : a = b) : Ending.returned (.string a) = .returned (.string b) := by rw [h]

set_option maxHeartbeats 1600000 in
theorem sortkey_any (d cb : Nat) (a : Option Addr) (len : Nat) (hlen : len ≤ 2097152) (P : Prs) (f s : ByteArray) (w : World) (hd : w.cell? ⟨d, 8, none⟩ = some (.slice a len len)) (hf : w.cell? ⟨cb, 1, none⟩ = some (.string f)) (hs : w.cell? ⟨cb, 9, none⟩ = some (.string s))
    (hcb : cb < w.heap.size) (hat : At4 w a len P) :
    Calls Try.prog 31 #[.pointer (some ⟨d, 0, none⟩), .pointer (some ⟨cb, 0, none⟩)] w fun e w' => e = .returned (.string (sk P f s len)) ∧ Below w.heap.size w w' := by
  cases he : s.toList.isEmpty with
  | false =>
    have HR : Hid (sk P f s len = s) := by show _ = _; simp [sk, he]
    go_enter Try.func31, Try.ntmps31
    go_wp2
    go_ret
    exact ⟨ret_str HR.out.symm, Below.refl _ _⟩
  | true =>
    have HR : Hid (sk P f s len = skey P f len) := by show _ = _; simp [sk, he]
    go_enter Try.func31, Try.ntmps31
    go_wp2
    go_loopw [23] (fun i wr => ∃ k : Nat, k ≤ len ∧ i = .int .i64 k ∧ Hid (offB P.k f k = false) ∧ Below w.heap.size w wr) (fun i _ => len - (intOf i).toNat)
    case atStart => exact ⟨0, Nat.zero_le _, rfl, offB_zero P.k f, Below.refl _ _⟩
    case round =>
      obtain ⟨k, hk, rfl, hno, hbel⟩ := hrel
      by_cases hlt : k < len
      · obtain ⟨b, off, rfl, _, g0, g1, g2, g3⟩ := (hat.below hbel (Nat.le_refl _)).elem hlt
        have hf' : wr.cell? ⟨cb, 1, none⟩ = some (.string f) := (hbel.cell (by exact hcb)).trans hf
        have hfa : ∀ o, (wr.alloc o).cell? ⟨cb, 1, none⟩ = some (.string f) := fun o => (World.cell?_alloc_lt _ _ _ (Nat.lt_of_lt_of_le hcb hbel.size)).trans hf'
        clear hf hd hs hf'
        cases hh : ((P.k k).toList == f.toList) with
        | true =>
          have HV := skey_hit P f hlt hno.out hh
          replace HR : Hid (sk P f s len = P.v k) := HR.out.trans HV
          clear HV
          go_wp2
          go_region
          all_goals go_wp2
          all_goals
            go_ret
            exact ⟨ret_str HR.out.symm, (hbel.alloc hbel.size _).drew⟩
        | false =>
          have HN : Hid (offB P.k f (k + 1) = false) := by show _ = _; rw [offB_succ, hno.out, hh]; rfl
          go_wp2
          go_region
          all_goals go_wp2
          all_goals
            go_roundw
            case rel => exact ⟨k + 1, by omega, by go_num, HN, (hbel.alloc hbel.size _).drew⟩
            case measure => simp [intOf]; omega
      · obtain rfl : len = k := by omega
        go_wp2
        go_ret
        exact ⟨ret_str (by rw [HR.out, skey_none P f len hno.out]), hbel⟩

set_option maxHeartbeats 400000 in
theorem zzsortkey_any (d cb : Nat) (a : Option Addr) (len : Nat) (hlen : len ≤ 2097152) (P : Prs) (f s : ByteArray) (w : World) (hd : w.cell? ⟨d, 8, none⟩ = some (.slice a len len)) (hf : w.cell? ⟨cb, 1, none⟩ = some (.string f)) (hs : w.cell? ⟨cb, 9, none⟩ = some (.string s))
    (hcb : cb < w.heap.size) (hat : At4 w a len P) :
    Calls Try.prog 25 #[.pointer (some ⟨d, 0, none⟩), .pointer (some ⟨cb, 0, none⟩)] w fun e w' => e = .returned (.string (sk P f s len)) ∧ Below w.heap.size w w' := by
  go_enter Try.func25, Try.ntmps25
  go_wp2_with fail
  refine (sortkey_any d cb a len hlen P f s _ hd hf hs hcb hat).mono ?_
  rintro e w' ⟨rfl, hbel⟩
  go_wp2
  go_ret
  exact ⟨rfl, hbel⟩

end Go.Proofs.Qxb6602938a
