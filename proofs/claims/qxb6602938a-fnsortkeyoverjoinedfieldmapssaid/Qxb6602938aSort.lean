/-
  Seat b6602938a: the size guard and the walk of FnSortKeyOverJoinedFieldMaps.
-/
import Derived.Test.Qxb6602938aKey
namespace Go.Proofs.Qxb6602938a
open Go.RowKit

/-- The size guard answers some bool; where it answers true both slices are short. -/
def Guard4 (n m : Nat) (w w' : World) (e : Ending) : Prop := ∃ b : Bool, e = .returned (.bool b) ∧ (b = true → n ≤ 1048576 ∧ m ≤ 1048576) ∧ w = w'

set_option maxHeartbeats 3200000 in
theorem bytes21_any (a : Option Addr) (n cap : Nat) (hn : n ≤ maxLen) (P : Prs) (b : Option Addr) (m capb : Nat) (hm : m ≤ maxLen) (Q : Prs) (f : ByteArray) (x : Int) (s : ByteArray) (y : Int) (w : World) (hat : At4 w a n P) (hbt : At4 w b m Q)
    (hP : ∀ i, i < n → (P.k i).size ≤ maxLen ∧ (P.v i).size ≤ maxLen) (hQ : ∀ i, i < m → (Q.k i).size ≤ maxLen ∧ (Q.v i).size ≤ maxLen) (hf : f.size ≤ maxLen) (hs : s.size ≤ maxLen) :
    Calls Try.prog 21 #[.slice a n cap, .slice b m capb, .string f, .int .i64 x, .string s, .int .i64 y] w fun e w' => Guard4 n m w w' e := by
  unfold maxLen at hn hm hP hQ hf hs
  by_cases hbig : (1048576 : Int) < (n : Int)
  · go_enter Try.func21, Try.ntmps21
    go_wp2
    go_ret
    exact ⟨_, rfl, by simp, rfl⟩
  have hbig' : (n : Int) ≤ 1048576 := by omega
  go_enter Try.func21, Try.ntmps21
  go_wp2
  go_loop [13, 14] (fun t i => ∃ (k : Nat) (z : Int), k ≤ n ∧ i = .int .i64 k ∧ t = .int .i64 z ∧ 0 ≤ z ∧ z ≤ 1048576) (fun _ i => n - (intOf i).toNat)
  case atStart => exact ⟨0, _, Nat.zero_le _, rfl, rfl, by omega, by omega⟩
  case round =>
    obtain ⟨k, z, hk, rfl, rfl, hz0, hz1⟩ := hrel
    by_cases hlt : k < n
    · obtain ⟨b1, o1, rfl, _, g0, g1, g2, g3⟩ := hat.elem hlt
      obtain ⟨s0, s1⟩ := hP k hlt
      clear hP hQ
      go_wp2
      case roundEnd =>
        go_round
        case rel => exact ⟨k + 1, _, by omega, by go_num, rfl, by omega, by omega⟩
        case measure => simp [intOf]; omega
      all_goals
        go_ret
        exact ⟨_, rfl, by simp, rfl⟩
    · by_cases hbn : (1048576 : Int) < (m : Int)
      · go_wp2
        go_ret
        exact ⟨_, rfl, by simp, rfl⟩
      have hbn' : (m : Int) ≤ 1048576 := by omega
      go_wp2
      · go_ret
        exact ⟨_, rfl, by simp, rfl⟩
      · go_loop [13, 15] (fun t i => ∃ (k : Nat) (z : Int), k ≤ m ∧ i = .int .i64 k ∧ t = .int .i64 z ∧ 0 ≤ z ∧ z ≤ 1048576) (fun _ i => m - (intOf i).toNat)
        case atStart => exact ⟨0, _, Nat.zero_le _, rfl, rfl, by omega, by omega⟩
        case round =>
          obtain ⟨j, u, hj, rfl, rfl, hu0, hu1⟩ := hrel
          by_cases hltj : j < m
          · obtain ⟨b1, o1, rfl, _, g0, g1, g2, g3⟩ := hbt.elem hltj
            obtain ⟨s0, s1⟩ := hQ j hltj
            clear hP hQ
            go_wp2
            case roundEnd =>
              go_round
              case rel => exact ⟨j + 1, _, by omega, by go_num, rfl, by omega, by omega⟩
              case measure => simp [intOf]; omega
            all_goals
              go_ret
              exact ⟨_, rfl, by simp, rfl⟩
          · clear hP hQ
            go_wp2
            all_goals
              go_ret
              exact ⟨_, rfl, by omega, rfl⟩

theorem offB_false_iff (K : Nat → ByteArray) (f : ByteArray) (n : Nat) : offB K f n = false ↔ ∀ i, i < n → ((K i).toList == f.toList) = false := by
  constructor
  · intro h i hi
    cases hh : ((K i).toList == f.toList) with
    | false => rfl
    | true => rw [offB_hit hi hh] at h; cases h
  · intro h
    rw [Bool.eq_false_iff]
    intro ht
    obtain ⟨i, hi, e⟩ := (offB_true_iff K f n).1 ht
    rw [h i hi] at e
    cases e

theorem first_hit (K : Nat → ByteArray) (f : ByteArray) (n : Nat) (h : offB K f n = true) : ∃ k, k < n ∧ offB K f k = false ∧ ((K k).toList == f.toList) = true := by
  induction n with
  | zero => cases h
  | succ n ih =>
    cases h0 : offB K f n with
    | true =>
      obtain ⟨k, hk, r⟩ := ih h0
      exact ⟨k, by omega, r⟩
    | false =>
      rw [offB_succ, h0, Bool.false_or] at h
      exact ⟨n, by omega, h0, h⟩

theorem skey_join_hit (P Q : Prs) (f : ByteArray) (n m : Nat) (h : offB P.k f n = true) : skey (P.join n Q) f (n + m) = skey P f n := by
  obtain ⟨k, hk, h0, h1⟩ := first_hit P.k f n h
  rw [skey_hit P f hk h0 h1, skey_hit (P.join n Q) f (k := k) (by omega), (join_lt P n Q hk).2.2.1]
  · rw [offB_false_iff] at h0 ⊢
    intro i hi
    rw [(join_lt P n Q (show i < n by omega)).1]
    exact h0 i hi
  · rw [(join_lt P n Q hk).1]
    exact h1

theorem skey_join_miss (P Q : Prs) (f : ByteArray) (n m : Nat) (h : offB P.k f n = false) : skey (P.join n Q) f (n + m) = skey Q f m := by
  have low : ∀ j, j ≤ m → offB Q.k f j = false → offB (P.join n Q).k f (n + j) = false := by
    intro j _ hj
    rw [offB_false_iff] at h hj ⊢
    intro i hi
    by_cases hin : i < n
    · rw [(join_lt P n Q hin).1]
      exact h i hin
    · have e := (join_ge P n Q (i - n)).1
      rw [show n + (i - n) = i by omega] at e
      rw [e]
      exact hj (i - n) (by omega)
  cases hq : offB Q.k f m with
  | false => rw [skey_none Q f m hq, skey_none (P.join n Q) f (n + m) (low m (Nat.le_refl _) hq)]
  | true =>
    obtain ⟨k, hk, h0, h1⟩ := first_hit Q.k f m hq
    rw [skey_hit Q f hk h0 h1, skey_hit (P.join n Q) f (k := n + k) (by omega) (low k (by omega) h0), (join_ge P n Q k).2.2.1]
    rw [(join_ge P n Q k).1]
    exact h1

/-- A column in block c: its field is f, its sort key s. -/
def Col (w : World) (c : Nat) (f s : ByteArray) : Prop := w.cell? ⟨c, 1, none⟩ = some (.string f) ∧ w.cell? ⟨c, 9, none⟩ = some (.string s) ∧ c < w.heap.size

theorem Col.below {w w' : World} {B c : Nat} {f s : ByteArray} (h : Col w c f s) (hb : Below B w w') (hB : w.heap.size ≤ B) : Col w' c f s :=
  have hlt : c < B := Nat.lt_of_lt_of_le h.2.2 hB
  ⟨(hb.cell (p := ⟨c, 1, none⟩) hlt).trans h.1, (hb.cell (p := ⟨c, 9, none⟩) hlt).trans h.2.1, Nat.lt_of_lt_of_le h.2.2 hb.size⟩

theorem sk_set (P : Prs) (f s : ByteArray) (n : Nat) (h : s.toList.isEmpty = false) : sk P f s n = s := by simp [sk, h]
theorem sk_unset (P : Prs) (f s : ByteArray) (n : Nat) (h : s.toList.isEmpty = true) : sk P f s n = skey P f n := by simp [sk, h]

/-- sortKey at a data source that has just been laid. -/
theorem zzsortkey_new (w : World) (cb : Nat) (a : Option Addr) (len : Nat) (hlen : len ≤ 2097152) (P : Prs) (f s : ByteArray) (C : Col w cb f s) (hat : At4 w a len P) :
    Calls Try.prog 25 #[.pointer (some ⟨w.heap.size, 0, none⟩), .pointer (some ⟨cb, 0, none⟩)]
      (w.alloc (.cells #[.int .i64 0, .pointer none, .pointer none, .pointer none, .string ⟨#[]⟩, .int .i64 0, .string ⟨#[]⟩, .int .i64 0, .slice a len len] 56))
      fun e w' => e = .returned (.string (sk P f s len)) ∧ Below w.heap.size w w' := by
  have hb : Below w.heap.size w (w.alloc (.cells #[.int .i64 0, .pointer none, .pointer none, .pointer none, .string ⟨#[]⟩, .int .i64 0, .string ⟨#[]⟩, .int .i64 0, .slice a len len] 56)) := (Below.refl _ _).alloc (Nat.le_refl _) _
  have C' := C.below hb (Nat.le_refl _)
  refine (zzsortkey_any w.heap.size cb a len hlen P f s _ (by rw [World.cell?_alloc_new]; rfl) C'.1 C'.2.1 C'.2.2 (hat.below hb (Nat.le_refl _))).mono ?_
  rintro e w' ⟨rfl, B2⟩
  exact ⟨rfl, hb.trans (B2.mono hb.size)⟩

set_option maxHeartbeats 3200000 in
theorem sort_walk (a : Option Addr) (n cap : Nat) (hnila : a = none → n = 0 ∧ cap = 0) (hn : n ≤ maxLen) (P : Prs) (b : Option Addr) (m capb : Nat) (hnilb : b = none → m = 0 ∧ capb = 0) (hm : m ≤ maxLen) (Q : Prs) (f : ByteArray) (x : Int) (s : ByteArray) (y : Int) (w : World)
    (hat : At4 w a n P) (hbt : At4 w b m Q)
    (hP : ∀ i, i < n → (P.k i).size ≤ maxLen ∧ (P.v i).size ≤ maxLen) (hQ : ∀ i, i < m → (Q.k i).size ≤ maxLen ∧ (Q.v i).size ≤ maxLen) (hf : f.size ≤ maxLen) (hs : s.size ≤ maxLen) :
    Calls Try.prog 7 #[.slice a n cap, .slice b m capb, .string f, .int .i64 x, .string s, .int .i64 y] w fun e w' => e = .returned (.bool true) ∧ Below w.heap.size w w' := by
  go_enter Try.func7, Try.ntmps7
  go_wp2_with fail
  refine (bytes21_any a n cap hn P b m capb hm Q f x s y _ hat hbt hP hQ hf hs).mono ?_
  rintro e w1 ⟨bb, rfl, hbb, rfl⟩
  cases bb with
  | false =>
    go_wp2
    go_ret
    exact ⟨rfl, Below.refl _ _⟩
  | true =>
    obtain ⟨hn20, hm20⟩ : n ≤ 1048576 ∧ m ≤ 1048576 := hbb rfl
    clear hbb
    go_wp2_with fail
    refine (pairbytes_any a n cap hn P _ hat hP).mono ?_
    rintro e w1 ⟨n1, rfl, h10, h11, rfl⟩
    go_wp2_with fail
    refine (pairbytes_any b m capb hm Q _ hbt hQ).mono ?_
    rintro e w1 ⟨n2, rfl, h20, h21, rfl⟩
    go_wp2_with fail
    refine (strbytes_any f hf _).mono ?_
    rintro e w1 ⟨n3, rfl, h30, h31, rfl⟩
    go_wp2_with fail
    refine (strbytes_any s hs _).mono ?_
    rintro e w1 ⟨n4, rfl, h40, h41, rfl⟩
    clear hP hQ hf hs
    by_cases hbig : 1048576 < n1 + n2 + n3 + n4
    · go_wp2
      go_ret
      exact ⟨rfl, Below.refl _ _⟩
    go_wp2_with fail
    refine (clonepairs_all a n cap hn20 hnila P _ hat).mono ?_
    rintro e w1 ⟨a1, rfl, hz1, A1, B1⟩
    replace hbt := hbt.below B1 (Nat.le_refl _)
    clear hat hnila
    go_wp2_with fail
    refine (clonepairs_all b m capb hm20 hnilb Q _ hbt).mono ?_
    rintro e w2 ⟨b1, rfl, hz2, A2, B2⟩
    replace A1 := A1.below B2 (Nat.le_refl _)
    replace B1 := B1.trans (B2.mono B1.size)
    clear B2 hbt hnilb
    go_wp2_with fail
    refine (column_any f x s y _).mono ?_
    rintro e w3 ⟨rfl, hcf, hcs, hclt, B2⟩
    have C : Col w3 w2.heap.size f s := ⟨hcf, hcs, hclt⟩
    clear hcf hcs hclt
    replace A1 := A1.below B2 (Nat.le_refl _)
    replace A2 := A2.below B2 (Nat.le_refl _)
    replace B1 := B1.trans (B2.mono B1.size)
    clear B2
    go_wp2_with fail
    refine (concat_all a1 n hn20 P b1 m hm20 Q _ A1 A2).mono ?_
    rintro e w4 ⟨rfl, A3, B2⟩
    replace A1 := A1.below B2 (Nat.le_refl _)
    replace A2 := A2.below B2 (Nat.le_refl _)
    replace B1 := B1.trans (B2.mono B1.size)
    replace C := C.below B2 (Nat.le_refl _)
    clear B2
    go_wp2_with fail
    refine (zzsortkey_new w4 w2.heap.size _ (n + m) (by omega) (P.join n Q) f s C A3).mono ?_
    rintro e w5 ⟨rfl, B2⟩
    replace A1 := A1.below B2 (Nat.le_refl _)
    replace A2 := A2.below B2 (Nat.le_refl _)
    replace B1 := B1.trans (B2.mono B1.size)
    replace C := C.below B2 (Nat.le_refl _)
    clear B2 A3
    go_wp2_with fail
    refine (datasource_any a1 n hn20 hz1 P _ A1).mono ?_
    rintro e w6 ⟨d1, a2, rfl, hd1, hl1, D1, B2⟩
    replace A1 := A1.below B2 (Nat.le_refl _)
    replace A2 := A2.below B2 (Nat.le_refl _)
    replace B1 := B1.trans (B2.mono B1.size)
    replace C := C.below B2 (Nat.le_refl _)
    clear B2
    go_wp2_with fail
    refine (zzsortkey_any d1 w2.heap.size a2 n (by omega) P f s _ hd1 C.1 C.2.1 C.2.2 D1).mono ?_
    rintro e w7 ⟨rfl, B2⟩
    replace A1 := A1.below B2 (Nat.le_refl _)
    replace A2 := A2.below B2 (Nat.le_refl _)
    replace B1 := B1.trans (B2.mono B1.size)
    replace C := C.below B2 (Nat.le_refl _)
    clear B2 D1 hd1
    go_wp2_with fail
    refine (datasource_any b1 m hm20 hz2 Q _ A2).mono ?_
    rintro e w8 ⟨d2, b2, rfl, hd2, hl2, D2, B2⟩
    replace A1 := A1.below B2 (Nat.le_refl _)
    replace B1 := B1.trans (B2.mono B1.size)
    replace C := C.below B2 (Nat.le_refl _)
    clear B2 A2
    go_wp2_with fail
    refine (zzsortkey_any d2 w2.heap.size b2 m (by omega) Q f s _ hd2 C.1 C.2.1 C.2.2 D2).mono ?_
    rintro e w9 ⟨rfl, B2⟩
    replace A1 := A1.below B2 (Nat.le_refl _)
    replace B1 := B1.trans (B2.mono B1.size)
    clear B2 D2 hd2 C
    cases he : s.toList.isEmpty with
    | false =>
      rw [sk_set _ f s _ he, sk_set _ f s _ he, sk_set _ f s _ he]
      go_wp2
      go_ret
      exact ⟨rfl, B1⟩
    | true =>
      rw [sk_unset _ f s _ he, sk_unset _ f s _ he, sk_unset _ f s _ he]
      go_wp2_with fail
      refine (haskey_any a1 n n hn P f _ A1).mono ?_
      rintro e w10 ⟨rfl, rfl⟩
      cases ho : offB P.k f n with
      | true =>
        rw [skey_join_hit P Q f n m ho]
        clear ho
        go_wp2
        go_ret
        exact ⟨rfl, B1⟩
      | false =>
        rw [skey_join_miss P Q f n m ho, skey_none P f n ho]
        clear ho
        go_wp2
        go_ret
        exact ⟨rfl, B1⟩

end Go.Proofs.Qxb6602938a
