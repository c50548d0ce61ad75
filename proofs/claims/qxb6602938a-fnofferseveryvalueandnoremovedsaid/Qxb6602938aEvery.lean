/-
  Seat b6602938a: the walk of FnOffersEveryValueAndNoRemoved.
-/
import Derived.Test.Qxb6602938aGuards
namespace Go.Proofs.Qxb6602938a
open Go.RowKit

theorem At3.cells {w : World} {a : Option Addr} {len : Nat} {L V I : Nat → ByteArray} (h : At3 w a len L V I) {k : Nat} (hk : k < len) :
    ∃ b off, a = some ⟨b, off, none⟩ ∧ b < w.heap.size ∧ w.cell? ⟨b, off + k * 3, none⟩ = some (.string (L k)) ∧ w.cell? ⟨b, off + k * 3 + 1, none⟩ = some (.string (V k)) ∧ w.cell? ⟨b, off + k * 3 + 2, none⟩ = some (.string (I k)) := by
  rcases h with rfl | ⟨b, off, rfl, hb, hc⟩
  · omega
  · exact ⟨b, off, rfl, hb, hc k hk⟩

theorem make3' (n : Nat) (hn : n ≤ 1048576) :
    ∃ cs : Array Value, Hid (cs.size = (n + 1) * 3) ∧ ∀ w : World, (Instr.makeSlice 27 (.int .i64 ((n : Int) + 1)) (.int .i64 ((n : Int) + 1))).run Try.prog w = .ok (.slice (some ⟨w.heap.size, 0, none⟩) (n + 1) (n + 1)) (w.alloc (.cells cs 36)) :=
  make3 27 36 _ Try.underlying27 Try.info36 (n + 1) (by omega)

/-- F, but s at n. -/
def ext (F : Nat → ByteArray) (n : Nat) (s : ByteArray) : Nat → ByteArray := fun i => if i = n then s else F i

theorem Own3.snoc {w : World} {B : Nat} {t : TypeId} {n k : Nat} {L V I : Nat → ByteArray} (h : Own3 w B t n k L V I) (s0 s1 s2 : ByteArray) :
    Own3 (((w.setCell ⟨B, k * 3, none⟩ (.string s0)).setCell ⟨B, k * 3 + 1, none⟩ (.string s1)).setCell ⟨B, k * 3 + 2, none⟩ (.string s2)) B t n (k + 1) (ext L k s0) (ext V k s1) (ext I k s2) := by
  have h' : Own3 w B t n k (ext L k s0) (ext V k s1) (ext I k s2) := by
    obtain ⟨f, hr, hf⟩ := h
    refine ⟨f, hr, fun i hi => ?_⟩
    have : i ≠ k := by omega
    simpa [ext, this] using hf i hi
  have := h'.step
  simpa [ext] using this

/-- Structs as cells. -/
def flat (rs : List (ByteArray × ByteArray × ByteArray)) : List Value := rs.flatMap fun r => [.string r.1, .string r.2.1, .string r.2.2]

theorem flat_length (rs : List (ByteArray × ByteArray × ByteArray)) : (flat rs).length = rs.length * 3 := by
  induction rs with
  | nil => rfl
  | cons r rs ih => simp only [flat, List.flatMap_cons, List.length_append, List.length_cons, List.length_nil] at ih ⊢; omega

theorem flat_get (rs : List (ByteArray × ByteArray × ByteArray)) (d : ByteArray × ByteArray × ByteArray) (i : Nat) (hi : i < rs.length) :
    (flat rs)[i * 3]? = some (.string (rs.getD i d).1) ∧ (flat rs)[i * 3 + 1]? = some (.string (rs.getD i d).2.1) ∧ (flat rs)[i * 3 + 2]? = some (.string (rs.getD i d).2.2) := by
  induction rs generalizing i with
  | nil => simp at hi
  | cons r rs ih =>
    cases i with
    | zero => simp [flat]
    | succ i =>
      have := ih i (by simpa using hi)
      have e : flat (r :: rs) = .string r.1 :: .string r.2.1 :: .string r.2.2 :: flat rs := rfl
      rw [e, show (i + 1) * 3 = i * 3 + 3 by omega]
      simpa using this

theorem flat_snoc (rs : List (ByteArray × ByteArray × ByteArray)) (r : ByteArray × ByteArray × ByteArray) : flat (rs ++ [r]) = flat rs ++ [.string r.1, .string r.2.1, .string r.2.2] := by
  simp [flat]

/-- A row of structs that the call itself has gathered by append. -/
theorem at3_of_owns {w : World} {base e g cap : Nat} {rs : List (ByteArray × ByteArray × ByteArray)} (d : ByteArray × ByteArray × ByteArray) (h : w.ownsRow base e 3 (.slice (some ⟨g, 0, none⟩) rs.length cap) rs.length (flat rs)) :
    At3 w (some ⟨g, 0, none⟩) rs.length (fun i => (rs.getD i d).1) (fun i => (rs.getD i d).2.1) (fun i => (rs.getD i d).2.2) := by
  have hlt : g < w.heap.size := by
    rcases h.2 with ⟨h', _⟩ | ⟨g', cap', cur, h', _, hg, _⟩
    · simp at h'
    · simp only [Value.slice.injEq, Option.some.injEq, Addr.mk.injEq, and_true, true_and] at h'
      obtain ⟨rfl, rfl⟩ := h'
      exact (Array.getElem?_eq_some_iff.1 hg).1
  refine .inr ⟨g, 0, rfl, hlt, fun i hi => ?_⟩
  obtain ⟨e0, e1, e2⟩ := flat_get rs d i hi
  rw [Nat.zero_add, h.cellAt (i * 3) (by omega), h.cellAt (i * 3 + 1) (by omega), h.cellAt (i * 3 + 2) (by omega)]
  exact ⟨e0, e1, e2⟩

theorem offB_none {V : Nat → ByteArray} {v : ByteArray} {n : Nat} (h : ∀ i, i < n → ((V i).toList == v.toList) = false) : offB V v n = false := by
  rw [Bool.eq_false_iff]
  intro ht
  obtain ⟨i, hi, e⟩ := (offB_true_iff V v n).1 ht
  rw [h i hi] at e
  cases e

theorem offB_rest {rs : List (ByteArray × ByteArray × ByteArray)} {d : ByteArray × ByteArray × ByteArray} {v : ByteArray} (h : ∀ r ∈ rs, (r.2.1.toList == v.toList) = false) : offB (fun i => (rs.getD i d).2.1) v rs.length = false :=
  offB_none fun i hi => h _ (by simp [List.getD, hi])

theorem make3c (n : Nat) (hn : n ≤ 1048576) :
    ∃ cs : Array Value, Hid (cs.size = n * 3) ∧ ∀ w : World, (Instr.makeSlice 27 (.int .i64 0) (.int .i64 (n : Int))).run Try.prog w = .ok (.slice (some ⟨w.heap.size, 0, none⟩) 0 n) (w.alloc (.cells cs 36)) := by
  obtain ⟨i, hi, hz, hs, hb⟩ := info_parts Try.info36
  refine ⟨madeCells (Value.cells (.agg #[.string ⟨#[]⟩, .string ⟨#[]⟩, .string ⟨#[]⟩])) (n * 3), size_madeCells _ _, fun w => ?_⟩
  have hr := run_make (P := Try.prog) w 27 36 i _ Try.underlying27 hi hz .i64 .i64 0 n (by omega) (by omega) (by rw [hb]; omega) (by omega)
  simp only [Int.toNat_natCast, hs] at hr
  exact hr

theorem owns_made {w : World} {cs : Array Value} {n : Nat} (hn : n ≤ 1048576) (hs : cs.size = n * 3) : (w.alloc (.cells cs 36)).ownsRow w.heap.size 36 3 (.slice (some ⟨w.heap.size, 0, none⟩) 0 n) 0 (flat []) :=
  ⟨by simp [flat], .inr ⟨w.heap.size, n, cs, rfl, Nat.le_refl _, heap_alloc_new w _, Nat.zero_le _, by unfold maxLen; omega, hs, by simp [flat]⟩⟩

theorem new3 (w : World) (t : TypeId) (s0 s1 s2 : ByteArray) : ∀ j u, ([.string s0, .string s1, .string s2] : List Value)[j]? = some u → (w.alloc (.cells #[.string s0, .string s1, .string s2] t)).cell? ((⟨w.heap.size, 0, none⟩ : Addr).add j) = some u := by
  intro j u hj
  rw [Addr.add_lit, Nat.zero_add, World.cell?_alloc_new]
  simpa using hj

theorem one3 (s0 s1 s2 : ByteArray) : ∀ u ∈ ([.string s0, .string s1, .string s2] : List Value), u.oneCell' = true := by
  intro u hu
  simp at hu
  rcases hu with rfl | rfl | rfl <;> rfl

theorem rest_snoc {rs : List (ByteArray × ByteArray × ByteArray)} {v : ByteArray} {r : ByteArray × ByteArray × ByteArray} (h : Hid (∀ r ∈ rs, (r.2.1.toList == v.toList) = false)) (hr : (r.2.1.toList == v.toList) = false) :
    Hid (∀ x ∈ rs ++ [r], (x.2.1.toList == v.toList) = false) := by
  intro x hx
  rcases List.mem_append.1 hx with hx | hx
  · exact h.out x hx
  · obtain rfl : x = r := by simpa using hx
    exact hr

set_option maxHeartbeats 1600000 in
theorem every_walk (a : Option Addr) (len cap : Nat) (hnil : a = none → len = 0 ∧ cap = 0) (hlen : len ≤ maxLen) (L V I : Nat → ByteArray) (v : ByteArray) (w : World) (hat : At3 w a len L V I)
    (hs : ∀ i, i < len → (L i).size ≤ maxLen ∧ (V i).size ≤ maxLen ∧ (I i).size ≤ maxLen) (hv : v.size ≤ maxLen) :
    Calls Try.prog 5 #[.slice a len cap, .string v] w fun e w' => e = .returned (.bool true) ∧ Below w.heap.size w w' := by
  go_enter Try.func5, Try.ntmps5
  go_wp2_with fail
  refine (bytes16_any a len cap hlen L V I v _ hat hs hv).mono ?_
  rintro e w1 ⟨b, rfl, hbb, rfl⟩
  cases b with
  | false =>
    go_wp2
    go_ret
    exact ⟨rfl, Below.refl _ _⟩
  | true =>
    have hl20 : len ≤ 1048576 := hbb rfl
    clear hbb
    go_wp2_with fail
    refine (optbytes_any a len cap hlen L V I _ hat hs).mono ?_
    rintro e w1 ⟨n1, rfl, h10, h11, rfl⟩
    go_wp2_with fail
    refine (strbytes_any v hv _).mono ?_
    rintro e w1 ⟨n2, rfl, h20, h21, rfl⟩
    by_cases hbig : 1048576 < n1 + n2
    · go_wp2
      go_ret
      exact ⟨rfl, Below.refl _ _⟩
    go_wp2_with fail
    refine (cloneopts_all a len cap hl20 hnil L V I _ hat).mono ?_
    rintro e w1 ⟨a1, rfl, hn1, A1, B1⟩
    go_wp2_with fail
    refine (tooptions_all a1 len hl20 hn1 L V I _ A1).mono ?_
    rintro e w2 ⟨a2, rfl, hn2, A2, B2⟩
    replace A1 := A1.below B2 (Nat.le_refl _)
    replace B1 := B1.trans (B2.mono B1.size)
    clear B2 hat hs hnil hn1 hn2
    have Hw : Hid (decide (1048576 < n1 + n2) = false) := by simpa [Hid] using hbig
    go_wp2_with fail
    go_loopw [6] (fun i wr => ∃ k : Nat, k ≤ len ∧ i = .int .i64 k ∧ At3 wr a1 len L V I ∧ At3 wr a2 len L V I ∧ Below w.heap.size w wr) (fun i _ => len - (intOf i).toNat)
    case atStart => exact ⟨0, Nat.zero_le _, rfl, A1, A2, B1⟩
    case round =>
      clear A1 A2 B1
      obtain ⟨k, hk, rfl, A1, A2, B1⟩ := hrel
      by_cases hlt : k < len
      · obtain ⟨b1, o1, rfl, _, g0, g1, g2⟩ := A1.cells hlt
        go_wp2_with fail
        refine (zzoffers_any _ len len hlen L V I (V k) _ A2).mono ?_
        rintro e w3 ⟨rfl, hb3⟩
        rw [offB_hit hlt (by simp)]
        replace A1 := A1.below hb3 (Nat.le_refl _)
        replace A2 := A2.below hb3 (Nat.le_refl _)
        replace B1 := B1.trans (hb3.mono B1.size)
        clear hb3 g0 g1 g2
        go_wp2
        go_roundw
        case rel => exact ⟨k + 1, by omega, by go_num, A1, A2, B1⟩
        case measure => simp [intOf]; omega
      · obtain ⟨cs, hcs, hmk⟩ := make3' len hl20
        clear A1 Hw
        obtain ⟨wm, rfl⟩ : ∃ x, x = wr := ⟨_, rfl⟩
        go_wp2_with fail
        go_loopw [8] (fun i wr => ∃ k : Nat, k ≤ len ∧ i = .int .i64 k ∧ Own3 wr wm.heap.size 36 (len + 1) k L V I ∧ Below wm.heap.size wm wr) (fun i _ => len - (intOf i).toNat)
        case atStart => exact ⟨0, Nat.zero_le _, rfl, Own3.made hcs.out L V I, (Below.refl _ _).alloc (Nat.le_refl _) _⟩
        case round =>
          clear hmk
          obtain ⟨j, hj, rfl, hown, hbel⟩ := hrel
          by_cases hltj : j < len
          · obtain ⟨b1, o1, rfl, _, g0, g1, g2⟩ := (A2.below hbel (Nat.le_refl _)).cells hltj
            have hst := hown.step
            obtain ⟨f, hr, _⟩ := hown
            have c0 := hr.cell (i := j * 3) (by omega)
            have c1 := hr.cell (i := j * 3 + 1) (by omega)
            have c2 := hr.cell (i := j * 3 + 2) (by omega)
            have f0 := hr.frozen (j * 3)
            have f1 := hr.frozen (j * 3 + 1)
            have f2 := hr.frozen (j * 3 + 2)
            have hki : (j : Int) < (len : Int) := by omega
            clear hk
            go_wp2
            go_roundw
            case rel => exact ⟨j + 1, by omega, by go_num, hst, ((hbel.setCell (Nat.le_refl _) _).setCell (Nat.le_refl _) _).setCell (Nat.le_refl _) _⟩
            case measure => simp [intOf]; omega
          · obtain rfl : len = j := by omega
            have A3 := (hown.snoc ⟨#[]⟩ v ⟨#[]⟩).at3
            have B3 := ((hbel.setCell (p := ⟨wm.heap.size, len * 3, none⟩) (Nat.le_refl _) (.string ⟨#[]⟩)).setCell (p := ⟨wm.heap.size, len * 3 + 1, none⟩) (Nat.le_refl _) (.string v)).setCell (p := ⟨wm.heap.size, len * 3 + 2, none⟩) (Nat.le_refl _) (.string ⟨#[]⟩)
            obtain ⟨f, hr, hf⟩ := hown
            have c0 := hr.cell (i := len * 3) (by omega)
            have c1 := hr.cell (i := len * 3 + 1) (by omega)
            have c2 := hr.cell (i := len * 3 + 2) (by omega)
            have f0 := hr.frozen (len * 3)
            have f1 := hr.frozen (len * 3 + 1)
            have f2 := hr.frozen (len * 3 + 2)
            obtain ⟨cs2, hcs2, hmk2⟩ := make3c len hl20
            go_wp2_with fail
            refine (zzoffers_any _ (len + 1) _ (by unfold maxLen; omega) _ _ _ v _ A3).mono ?_
            rintro e w4 ⟨rfl, hb4⟩
            rw [offB_hit (k := len) (by omega) (by simp [ext])]
            replace B3 := B3.trans (hb4.mono B3.size)
            replace A2 := A2.below B3 (Nat.le_refl _)
            replace B1 := B1.trans (B3.mono B1.size)
            clear hb4 A3 c0 c1 c2 f0 f1 f2 hr hf B3 hbel hcs
            go_wp2_with fail
            obtain ⟨i0, hi, hz0, hz1, hz2⟩ := info_parts Try.info36
            clear hmk2
            go_loopw [9, 10] (fun r i wr => ∃ (k : Nat) (rs : List (ByteArray × ByteArray × ByteArray)), k ≤ len ∧ i = .int .i64 k ∧ rs.length ≤ k ∧ r = .slice (some ⟨w4.heap.size, 0, none⟩) rs.length len ∧
              Hid (∀ r ∈ rs, (r.2.1.toList == v.toList) = false) ∧ wr.ownsRow w4.heap.size 36 3 (.slice (some ⟨w4.heap.size, 0, none⟩) rs.length len) rs.length (flat rs) ∧ Below w4.heap.size w4 wr) (fun _ i _ => len - (intOf i).toNat)
            case atStart => exact ⟨0, [], Nat.zero_le _, rfl, Nat.le_refl _, rfl, by simp [Hid], owns_made hl20 hcs2.out, (Below.refl _ _).alloc (Nat.le_refl _) _⟩
            case round =>
              obtain ⟨m, rs, hm, rfl, hrs, rfl, hne, hown, hbel⟩ := hrel
              by_cases hltm : m < len
              · obtain ⟨b1, o1, rfl, _, g0, g1, g2⟩ := (A2.below hbel (Nat.le_refl _)).cells hltm
                have hki : (m : Int) < (len : Int) := by omega
                clear hk hz0 hz2
                cases hh : ((V m).toList == v.toList) with
                | true =>
                  go_wp2
                  go_roundw
                  case rel => exact ⟨m + 1, rs, by omega, by go_num, by omega, rfl, hne, hown, hbel⟩
                  case measure => simp [intOf]; omega
                | false =>
                  go_wp2_with (at_builtin; refine wpList_append_fits _ rfl _ _ 27 rfl w4.heap.size 36 i0 3 Try.underlying27 hi hz1 w4.heap.size rs.length len (flat rs) rfl (hown.alloc _) ⟨wr.heap.size, 0, none⟩ 1 1 [.string (L m), .string (V m), .string (I m)] rfl rfl (new3 _ _ _ _ _) (one3 _ _ _) (by omega) ?_; intro w5 hown5 hgrow5)
                  go_roundw
                  case rel =>
                    refine ⟨m + 1, rs ++ [(L m, V m, I m)], by omega, by go_num, by simp; omega, by simp, rest_snoc hne hh, ?_, (hbel.alloc hbel.size _).grown hgrow5 (by have := hbel.size; simp; omega) (fun q hq => by cases hq; exact Nat.le_refl _)⟩
                    rw [flat_snoc, List.length_append]
                    exact hown5
                  case measure => simp [intOf]; omega
              · go_wp2_with fail
                refine (zzoffers_any _ rs.length _ (by unfold maxLen; omega) _ _ _ v _ (at3_of_owns (⟨#[]⟩, ⟨#[]⟩, ⟨#[]⟩) hown)).mono ?_
                rintro e w5 ⟨rfl, hb5⟩
                rw [offB_rest hne.out]
                replace hbel := hbel.trans (hb5.mono hbel.size)
                replace B1 := B1.trans (hbel.mono B1.size)
                go_wp2
                go_ret
                exact ⟨rfl, B1⟩

end Go.Proofs.Qxb6602938a
