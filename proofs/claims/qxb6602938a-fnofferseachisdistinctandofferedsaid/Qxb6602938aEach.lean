/-
  Seat b6602938a: the walk of offersEach and ZZOffersEach: a map that the call makes, keyed by strings, its elements bools.
-/
import Derived.Test.Qxb6602938aCount
import Derived.Maps.OwnSet
namespace Go.Proofs.Qxb6602938a
open Go.RowKit
open Go.Maps (Keyed)

theorem plainElem_bool_inv {H : Type} {P : Program} {e : TypeId} (he : P.underlying e = some .bool) {v : Value} {z : DataW H × List MemPlace} (h : plainElem P e v = some z) : ∃ x, v = .bool x ∧ z = (.lit (.bool x), []) := by
  unfold plainElem at h
  rw [he] at h
  cases v <;> simp at h
  exact ⟨_, rfl, h.symm⟩

/-- 'v, ok := m[k]' at elements that are bools: what comes is written out. -/
theorem wpList_lookup_ok_bool {H : Type} {P : Program} (w : World) {ops : Array Oper} {rest : List Oper} {o : Oper} {a : Act} {Q : Exit → Act → World → Prop}
    (hg : o.guard = none) (m x : Operand) (t : TypeId) (hop : o.op = Op.lookup t m x true)
    (k e : TypeId) (K : Keyed P k) (ht : P.underlying t = some (.map k e)) (he : P.underlying e = some .bool) (hz : (zeroValue e).run P w = .ok (.bool false) w) (b n : Nat) (D : DataW H)
    (hm : a.eval m = .map (some b)) (hown : w.ownsMap P k (plainElem P e) b n D) (key : Value) (kl : Lit) (hx : a.eval x = key) (hkey : keyOf P k key = some kl)
    (c h : Bool) (hc : D.atKey kl (.lit (.bool false)) = .lit (.bool c)) (hh : Maps.has D kl = h)
    (hK : wpList P ops Q rest (a.put o.dst (.tuple #[.bool c, .bool h])) w) :
    wpList P ops Q (o :: rest) a w :=
  wpList_lookup_own_ok w hg m x t hop k e K ht (plainElem P e) hz (.lit (.bool false)) [] (plainElem_bool he false) b n D hm hown key kl hx hkey (fun v ps hv => by
    obtain ⟨y, rfl, hy⟩ := plainElem_bool_inv he hv
    rw [hc] at hy
    simp only [Prod.mk.injEq, DataW.lit.injEq, Lit.bool.injEq] at hy
    obtain ⟨rfl, _⟩ := hy
    rw [hh]
    exact hK)


/-- A slice of 'n' strings: it is empty, or its cells lie at an address of old memory. -/
def At1 (w : World) (a : Option Addr) (n : Nat) (S : Nat → ByteArray) : Prop :=
  n = 0 ∨ ∃ b off, a = some ⟨b, off, none⟩ ∧ b < w.heap.size ∧ ∀ i, i < n → w.cell? ⟨b, off + i, none⟩ = some (.string (S i))

theorem At1.below {w w' : World} {B : Nat} {a : Option Addr} {n : Nat} {S : Nat → ByteArray} (h : At1 w a n S) (hb : Below B w w') (hB : w.heap.size ≤ B) : At1 w' a n S := by
  rcases h with h | ⟨b, off, rfl, hlt, hc⟩
  · exact .inl h
  · refine .inr ⟨b, off, rfl, Nat.lt_of_lt_of_le hlt hb.size, fun i hi => ?_⟩
    have hbB : b < B := Nat.lt_of_lt_of_le hlt hB
    rw [hb.cell (p := ⟨b, off + i, none⟩) hbB]
    exact hc i hi

theorem At1.cells {w : World} {a : Option Addr} {n : Nat} {S : Nat → ByteArray} (h : At1 w a n S) {k : Nat} (hk : k < n) :
    ∃ b off, a = some ⟨b, off, none⟩ ∧ b < w.heap.size ∧ w.cell? ⟨b, off + k, none⟩ = some (.string (S k)) := by
  rcases h with rfl | ⟨b, off, rfl, hb, hc⟩
  · omega
  · exact ⟨b, off, rfl, hb, hc k hk⟩

theorem At3.elem {w : World} {a : Option Addr} {len : Nat} {L V I : Nat → ByteArray} (h : At3 w a len L V I) {k : Nat} (hk : k < len) :
    ∃ b off, a = some ⟨b, off, none⟩ ∧ b < w.heap.size ∧ w.cell? ⟨b, off + k * 3, none⟩ = some (.string (L k)) ∧ w.cell? ⟨b, off + k * 3 + 1, none⟩ = some (.string (V k)) ∧ w.cell? ⟨b, off + k * 3 + 2, none⟩ = some (.string (I k)) := by
  rcases h with rfl | ⟨b, off, rfl, hb, hc⟩
  · omega
  · exact ⟨b, off, rfl, hb, hc k hk⟩

/-- The map in block B has just the n keys S; a key's element is true just if it is among the first j values V. -/
def Marks (w : World) (B r : Nat) (S : Nat → ByteArray) (n : Nat) (V : Nat → ByteArray) (j : Nat) : Prop :=
  ∃ D : DataW Unit, w.ownsMap Try.prog 9 (plainElem Try.prog 4) B r D ∧
    ∀ x : ByteArray, Maps.has D (.string x.data.toList) = offB S x n ∧ D.atKey (.string x.data.toList) (.lit (.bool false)) = .lit (.bool (offB S x n && offB V x j))

theorem offB_congr (S : Nat → ByteArray) {x y : ByteArray} (n : Nat) (h : x.toList = y.toList) : offB S x n = offB S y n := by
  unfold offB
  rw [h]

theorem law9 : Maps.Keyed Try.prog 9 := Maps.string_keyed Try.underlying9
theorem zero4 (w : World) : (zeroValue 4).run Try.prog w = .ok (.bool false) w := by kernel_rfl

theorem key_ne {x y : ByteArray} (h : ¬ y.toList = x.toList) : (Lit.string x.data.toList) ≠ .string y.data.toList := by
  intro e
  rw [← ByteArray.toList_eq, ← ByteArray.toList_eq] at e
  exact h (by simpa using e.symm)

theorem Marks.made (w : World) (S V : Nat → ByteArray) : Marks (w.alloc (.map #[] 0)) w.heap.size 0 S 0 V 0 :=
  ⟨.map [], World.ownsMap_made _ _ _ _, fun _ => ⟨rfl, rfl⟩⟩

theorem isKey (l : List UInt8) : WideAt.IsKeyLit (.string l) := trivial

/-- A key more, at false. -/
theorem marks_key {D : DataW Unit} {S V : Nat → ByteArray} {n : Nat} (hD : Maps.IsMap D)
    (h : ∀ x : ByteArray, Maps.has D (.string x.data.toList) = offB S x n ∧ D.atKey (.string x.data.toList) (.lit (.bool false)) = .lit (.bool (offB S x n && offB V x 0))) :
    ∀ x : ByteArray, Maps.has (D.put (.string (S n).data.toList) (.lit (.bool false))) (.string x.data.toList) = offB S x (n + 1) ∧
      (D.put (.string (S n).data.toList) (.lit (.bool false))).atKey (.string x.data.toList) (.lit (.bool false)) = .lit (.bool (offB S x (n + 1) && offB V x 0)) := by
  intro x
  rw [offB_succ]
  by_cases e : (S n).toList = x.toList
  · have ek : (Lit.string x.data.toList) = .string (S n).data.toList := by rw [← ByteArray.toList_eq, ← ByteArray.toList_eq, e]
    rw [ek, Maps.has_put_same hD (isKey _), Maps.atKey_put_same hD (isKey _), offB_zero]
    simp [e]
  · rw [Maps.has_put_other (key_ne e), Maps.atKey_put_other (key_ne e), (h x).1, (h x).2]
    have : ((S n).toList == x.toList) = false := by simpa using e
    rw [this]
    simp

/-- A value more, nothing to mark. -/
theorem marks_skip {D : DataW Unit} {S V : Nat → ByteArray} {n j : Nat} (hc : (offB S (V j) n && !offB V (V j) j) = false)
    (h : ∀ x : ByteArray, Maps.has D (.string x.data.toList) = offB S x n ∧ D.atKey (.string x.data.toList) (.lit (.bool false)) = .lit (.bool (offB S x n && offB V x j))) :
    ∀ x : ByteArray, Maps.has D (.string x.data.toList) = offB S x n ∧ D.atKey (.string x.data.toList) (.lit (.bool false)) = .lit (.bool (offB S x n && offB V x (j + 1))) := by
  intro x
  refine ⟨(h x).1, ?_⟩
  rw [(h x).2, offB_succ]
  by_cases e : (V j).toList = x.toList
  · rw [offB_congr S n e.symm, offB_congr V j e.symm]
    simp only [e, BEq.rfl, Bool.or_true, Bool.and_true]
    revert hc
    cases offB S (V j) n <;> cases offB V (V j) j <;> simp
  · have : ((V j).toList == x.toList) = false := by simpa using e
    rw [this, Bool.or_false]

/-- A value more, marked. -/
theorem marks_put {D : DataW Unit} {S V : Nat → ByteArray} {n j : Nat} (hD : Maps.IsMap D) (hc : offB S (V j) n = true)
    (h : ∀ x : ByteArray, Maps.has D (.string x.data.toList) = offB S x n ∧ D.atKey (.string x.data.toList) (.lit (.bool false)) = .lit (.bool (offB S x n && offB V x j))) :
    ∀ x : ByteArray, Maps.has (D.put (.string (V j).data.toList) (.lit (.bool true))) (.string x.data.toList) = offB S x n ∧
      (D.put (.string (V j).data.toList) (.lit (.bool true))).atKey (.string x.data.toList) (.lit (.bool false)) = .lit (.bool (offB S x n && offB V x (j + 1))) := by
  intro x
  rw [offB_succ]
  by_cases e : (V j).toList = x.toList
  · have ek : (Lit.string x.data.toList) = .string (V j).data.toList := by rw [← ByteArray.toList_eq, ← ByteArray.toList_eq, e]
    rw [ek, Maps.has_put_same hD (isKey _), Maps.atKey_put_same hD (isKey _), offB_congr S n e.symm, hc]
    simp [e]
  · rw [Maps.has_put_other (key_ne e), Maps.atKey_put_other (key_ne e), (h x).1, (h x).2]
    have : ((V j).toList == x.toList) = false := by simpa using e
    rw [this]
    simp

set_option maxHeartbeats 1600000 in
theorem each_any (a : Option Addr) (len cap : Nat) (hlen : len ≤ 1048576) (L V I : Nat → ByteArray) (b : Option Addr) (n capb : Nat) (hn : n ≤ 1048576) (S : Nat → ByteArray) (w : World) (hat : At3 w a len L V I) (hat1 : At1 w b n S)
    (hV : ∀ i, i < len → (V i).size ≤ maxLen) (hS : ∀ i, i < n → (S i).size ≤ maxLen) :
    Calls Try.prog 30 #[.slice a len cap, .slice b n capb] w fun e w' => e = .returned (.bool (okTo S V len n)) ∧ Below w.heap.size w w' := by
  have hmm : ∀ w : World, (Instr.makeMap 70 (some (.int .i64 (n : Int)))).run Try.prog w = .ok (.map (some w.heap.size)) (w.alloc (.map #[] 0)) := by
    intro w
    simp [Instr.makeMap, run_underlying Try.underlying70, asInt, asIntOf, Result.andThen]
  go_enter Try.func30, Try.ntmps30
  go_wp2_with fail
  go_loopw [18] (fun i wr => ∃ k : Nat, k ≤ n ∧ i = .int .i64 k ∧ Marks wr w.heap.size k S k V 0 ∧ Below w.heap.size w wr) (fun i _ => n - (intOf i).toNat)
  case atStart => exact ⟨0, Nat.zero_le _, rfl, Marks.made w S V, (Below.refl _ _).alloc (Nat.le_refl _) _⟩
  case round =>
    clear hmm
    obtain ⟨k, hk, rfl, hmk, hbel⟩ := hrel
    by_cases hlt : k < n
    · obtain ⟨b1, o1, rfl, _, g⟩ := (hat1.below hbel (Nat.le_refl _)).cells hlt
      obtain ⟨D, hown, hD⟩ := hmk
      have hD' := marks_key (S := S) (V := V) (n := k) hown.isMap hD
      have HD : Hid (∀ x : ByteArray, Maps.has (D.put (.string (S k).data.toList) (.lit (.bool false))) (.string x.data.toList) = offB S x (k + 1) ∧
        (D.put (.string (S k).data.toList) (.lit (.bool false))).atKey (.string x.data.toList) (.lit (.bool false)) = .lit (.bool (offB S x (k + 1) && offB V x 0))) := hD'
      clear hD hD'
      have hkey := WideMaps.keyOf_string_mk (P := Try.prog) (k := 9) Try.underlying9 (hS k hlt)
      go_wp2_with (at_mapUpdate; refine wpList_mapUpdate_own _ rfl _ _ _ 70 rfl 9 4 law9 Try.underlying70 _ w.heap.size k D rfl hown (by unfold maxLen; omega) _ _ _ rfl rfl hkey (.lit (.bool false)) [] (plainElem_bool Try.underlying4 false) ?_; intro w1 hown1 hgrow1)
      go_roundw
      case rel => exact ⟨k + 1, by omega, by go_num, ⟨_, hown1, HD.out⟩, hbel.grown hgrow1 hbel.size (fun q hq => by cases hq; exact Nat.le_refl _)⟩
      case measure => simp [intOf]; omega
    · obtain rfl : n = k := by omega
      obtain ⟨wm, rfl⟩ : ∃ x, x = wr := ⟨_, rfl⟩
      go_wp2_with fail
      go_loopw [8, 27] (fun d i wr => ∃ j : Nat, j ≤ len ∧ i = .int .i64 j ∧ d = .int .i64 (cnt S n V j) ∧ Marks wr w.heap.size (n + j) S n V j ∧ Below w.heap.size w wr) (fun _ i _ => len - (intOf i).toNat)
      case atStart => exact ⟨0, Nat.zero_le _, rfl, rfl, hmk, hbel⟩
      case round =>
        clear hmk hbel
        obtain ⟨j, hj, rfl, rfl, hmk, hbel⟩ := hrel
        have hcl := cnt_le S n V j
        by_cases hltj : j < len
        · obtain ⟨b1, o1, rfl, _, g0, g1, g2⟩ := (hat.below hbel (Nat.le_refl _)).elem hltj
          obtain ⟨D, hown, hD⟩ := hmk
          have hkey := WideMaps.keyOf_string_mk (P := Try.prog) (k := 9) Try.underlying9 (hV j hltj)
          have hx := hD (V j)
          by_cases hc : (offB S (V j) n && !offB V (V j) j) = true
          · have hc1 : offB S (V j) n = true := by revert hc; cases offB S (V j) n <;> simp
            have hc2 : offB V (V j) j = false := by revert hc; cases offB V (V j) j <;> simp
            have HD := marks_put (V := V) (j := j) hown.isMap hc1 hD
            have HC : Hid (cnt S n V (j + 1) = cnt S n V j + 1) := by show _ = _; simp only [cnt]; rw [if_pos hc]
            rw [hc1, hc2] at hx
            replace HD : Hid _ := HD
            have HX : Hid _ := hx
            clear hx hc hc1 hc2 hD
            go_wp2_with (first | (at_lookup; refine wpList_lookup_ok_bool _ rfl _ _ 70 rfl 9 4 law9 Try.underlying70 Try.underlying4 (zero4 _) w.heap.size (n + j) D rfl (hown.alloc _) _ _ rfl hkey false true HX.out.2 HX.out.1 ?_) | (at_mapUpdate; refine wpList_mapUpdate_own _ rfl _ _ _ 70 rfl 9 4 law9 Try.underlying70 _ w.heap.size (n + j) D rfl (hown.alloc _) (by unfold maxLen; omega) _ _ _ rfl rfl hkey (.lit (.bool true)) [] (plainElem_bool Try.underlying4 true) ?_; intro w1 hown1 hgrow1))
            go_roundw
            case rel => exact ⟨j + 1, by omega, by go_num, by rw [HC.out]; go_num, ⟨_, hown1, HD.out⟩, (hbel.alloc hbel.size _).grown hgrow1 (by have := hbel.size; simp; omega) (fun q hq => by cases hq; exact Nat.le_refl _)⟩
            case measure => simp [intOf]; omega
          · have HD := marks_skip (V := V) (j := j) (by simpa using hc) hD
            have HC : Hid (cnt S n V (j + 1) = cnt S n V j) := by show _ = _; simp only [cnt]; rw [if_neg hc]; rfl
            replace HD : Hid _ := HD
            cases hc1 : offB S (V j) n with
            | false =>
              rw [hc1] at hx
              have HX : Hid _ := hx
              clear hx hc hc1 hD
              go_wp2_with (at_lookup; refine wpList_lookup_ok_bool _ rfl _ _ 70 rfl 9 4 law9 Try.underlying70 Try.underlying4 (zero4 _) w.heap.size (n + j) D rfl (hown.alloc _) _ _ rfl hkey false false HX.out.2 HX.out.1 ?_)
              go_roundw
              case rel => exact ⟨j + 1, by omega, by go_num, by rw [HC.out], ⟨D, (hown.alloc _).mono (by omega), HD.out⟩, hbel.alloc hbel.size _⟩
              case measure => simp [intOf]; omega
            | true =>
              have hc2 : offB V (V j) j = true := by revert hc; rw [hc1]; cases offB V (V j) j <;> simp
              rw [hc1, hc2] at hx
              have HX : Hid _ := hx
              clear hx hc hc1 hc2 hD
              go_wp2_with (at_lookup; refine wpList_lookup_ok_bool _ rfl _ _ 70 rfl 9 4 law9 Try.underlying70 Try.underlying4 (zero4 _) w.heap.size (n + j) D rfl (hown.alloc _) _ _ rfl hkey true true HX.out.2 HX.out.1 ?_)
              go_roundw
              case rel => exact ⟨j + 1, by omega, by go_num, by rw [HC.out], ⟨D, (hown.alloc _).mono (by omega), HD.out⟩, hbel.alloc hbel.size _⟩
              case measure => simp [intOf]; omega
        · obtain rfl : len = j := by omega
          go_wp2
          go_ret
          refine ⟨ret_bool ?_, hbel⟩
          rw [Bool.eq_iff_iff, ← cnt_eq_iff S n V len]
          simp
          omega

set_option maxHeartbeats 400000 in
theorem zzeach_any (a : Option Addr) (len cap : Nat) (hlen : len ≤ 1048576) (L V I : Nat → ByteArray) (b : Option Addr) (n capb : Nat) (hn : n ≤ 1048576) (S : Nat → ByteArray) (w : World) (hat : At3 w a len L V I) (hat1 : At1 w b n S)
    (hV : ∀ i, i < len → (V i).size ≤ maxLen) (hS : ∀ i, i < n → (S i).size ≤ maxLen) :
    Calls Try.prog 15 #[.slice a len cap, .slice b n capb] w fun e w' => e = .returned (.bool (okTo S V len n)) ∧ Below w.heap.size w w' := by
  go_enter Try.func15, Try.ntmps15
  go_wp2_with fail
  refine (each_any a len cap hlen L V I b n capb hn S _ hat hat1 hV hS).mono ?_
  rintro e w' ⟨rfl, hbel⟩
  go_wp2
  go_ret
  exact ⟨rfl, hbel⟩

end Go.Proofs.Qxb6602938a
