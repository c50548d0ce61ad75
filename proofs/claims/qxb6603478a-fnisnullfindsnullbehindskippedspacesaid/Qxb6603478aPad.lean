/-
  Seat b6603478a: the walks of zzSpaceAt and zzPadFront, and what padding does to skipping.
-/
import Derived.Test.Qxb6603478aCore
namespace Go.Proofs.Qxb6603478a
open Go.RowKit

/-- The white-space byte at place k of the padding. -/
def spaceAt (k : Nat) : Int := if k % 4 = 0 then 32 else if k % 4 = 1 then 9 else if k % 4 = 2 then 10 else 13

def pads (n : Nat) : List Int := (List.range n).map spaceAt

theorem pads_length (n : Nat) : (pads n).length = n := by simp [pads]
theorem pads_succ (n : Nat) : pads (n + 1) = pads n ++ [spaceAt n] := by simp [pads, List.range_succ]
theorem sp_spaceAt (k : Nat) : sp (spaceAt k) = true := by
  unfold spaceAt
  split
  · rfl
  · split
    · rfl
    · split <;> rfl
theorem pads_get {n k : Nat} (h : k < n) (zs : List Int) : (pads n ++ zs).getD k 0 = spaceAt k := by
  rw [List.getD_eq_getElem?_getD, List.getElem?_append_left (show k < (pads n).length by rw [pads_length]; exact h)]
  simp [pads, h]
theorem pads_get_ge (n k : Nat) (zs : List Int) : (pads n ++ zs).getD (n + k) 0 = zs.getD k 0 := by
  simp [List.getD, List.getElem?_append_right (show (pads n).length ≤ n + k by rw [pads_length]; omega), pads_length]

theorem pads_wf {n : Nat} : ∀ z ∈ pads n, (Lit.int .u8 z).wf = true := by
  intro z hz
  obtain ⟨k, _, rfl⟩ := List.mem_map.1 hz
  unfold spaceAt
  split
  · rfl
  · split
    · rfl
    · split <;> rfl

/-- Skipping from anywhere inside the padding: it lands behind it where skipping from 0 lands without it. -/
theorem skips_pad {zs : List Int} {r : Nat} (h : Skips zs 0 r) {n j : Nat} (hj : j ≤ n) : Skips (pads n ++ zs) j (n + r) := by
  obtain ⟨_, h2, h3, h4⟩ := h
  have hl : (pads n ++ zs).length = n + zs.length := by rw [List.length_append, pads_length]
  refine ⟨by omega, .inr (by omega), fun k hk1 hk2 => ?_, fun hlt => ?_⟩
  · by_cases hkn : k < n
    · rw [pads_get hkn]
      exact sp_spaceAt k
    · have e := pads_get_ge n (k - n) zs
      rw [show n + (k - n) = k by omega] at e
      rw [e]
      exact h3 (k - n) (Nat.zero_le _) (by omega)
  · rw [pads_get_ge]
    exact h4 (by omega)

set_option maxHeartbeats 400000 in
theorem spaceat_any (k : Nat) (hk : k ≤ 65536) (w : World) : Calls Try.prog 16 #[.int .i64 k] w fun e w' => e = .returned (.int .u8 (spaceAt k)) ∧ w = w' := by
  rcases (show (k : Int) % 4 = 0 ∨ (k : Int) % 4 = 1 ∨ (k : Int) % 4 = 2 ∨ (k : Int) % 4 = 3 by omega) with h | h | h | h
  · have hS : spaceAt k = 32 := by unfold spaceAt; rw [if_pos (by omega)]
    rw [hS]
    clear hS
    go_enter Try.func16, Try.ntmps16
    go_wp2
    go_ret
    exact ⟨rfl, rfl⟩
  · have hS : spaceAt k = 9 := by unfold spaceAt; rw [if_neg (by omega), if_pos (by omega)]
    rw [hS]
    clear hS
    go_enter Try.func16, Try.ntmps16
    go_wp2
    go_ret
    exact ⟨rfl, rfl⟩
  · have hS : spaceAt k = 10 := by unfold spaceAt; rw [if_neg (by omega), if_neg (by omega), if_pos (by omega)]
    rw [hS]
    clear hS
    go_enter Try.func16, Try.ntmps16
    go_wp2
    go_ret
    exact ⟨rfl, rfl⟩
  · have hS : spaceAt k = 13 := by unfold spaceAt; rw [if_neg (by omega), if_neg (by omega), if_neg (by omega)]
    rw [hS]
    clear hS
    go_enter Try.func16, Try.ntmps16
    go_wp2
    go_ret
    exact ⟨rfl, rfl⟩

theorem make0 (n m : Nat) (hn : n ≤ 65536) (hm : m ≤ 1048576) :
    ∃ cs : Array Value, Hid (cs.size = n + m) ∧ ∀ w : World, (Instr.makeSlice 22 (.int .i64 0) (.int .i64 ((n : Int) + (m : Int)))).run Try.prog w = .ok (.slice (some ⟨w.heap.size, 0, none⟩) 0 (n + m)) (w.alloc (.cells cs 5)) := by
  obtain ⟨i, hi, hz, hs, hb⟩ := info_parts Try.info5
  refine ⟨madeCells (Value.cells (.int .u8 0)) ((n + m) * 1), by show _ = _; rw [size_madeCells, Nat.mul_one], fun w => ?_⟩
  have hr := run_make (P := Try.prog) w 22 5 i _ Try.underlying22 hi hz .i64 .i64 0 ((n : Int) + (m : Int)) (by omega) (by omega) (by rw [hb]; omega) (by omega)
  rw [show ((n : Int) + (m : Int)) = ((n + m : Nat) : Int) by omega] at hr ⊢
  simp only [Int.toNat_natCast, hs] at hr
  exact hr

theorem owns_made {w : World} {cs : Array Value} {n : Nat} (hn : n ≤ 2097152) (hs : cs.size = n) : (w.alloc (.cells cs 5)).ownsRow w.heap.size 5 1 (.slice (some ⟨w.heap.size, 0, none⟩) 0 n) 0 ((pads 0).map (Value.int .u8)) :=
  ⟨by simp [pads], .inr ⟨w.heap.size, n, cs, rfl, Nat.le_refl _, heap_alloc_new w _, Nat.zero_le _, by unfold maxLen; omega, by omega, by simp [pads]⟩⟩

theorem new1 (w : World) (t : TypeId) (v : Value) : ∀ j u, ([v] : List Value)[j]? = some u → (w.alloc (.cells #[v] t)).cell? ((⟨w.heap.size, 0, none⟩ : Addr).add j) = some u := by
  intro j u hj
  rw [Addr.add_lit, Nat.zero_add, World.cell?_alloc_new]
  simpa using hj

/-- A row of bytes that the call itself has gathered. -/
theorem atB_of_owns {w : World} {base g cap : Nat} {zs : List Int} (h : w.ownsRow base 5 1 (.slice (some ⟨g, 0, none⟩) zs.length cap) zs.length (zs.map (Value.int .u8))) : AtB w (some ⟨g, 0, none⟩) zs := by
  have hlt : g < w.heap.size := by
    rcases h.2 with ⟨h', _⟩ | ⟨g', cap', cur, h', _, hg, _⟩
    · simp at h'
    · simp only [Value.slice.injEq, Option.some.injEq, Addr.mk.injEq, and_true, true_and] at h'
      obtain ⟨rfl, rfl⟩ := h'
      exact (Array.getElem?_eq_some_iff.1 hg).1
  refine .inr ⟨g, 0, rfl, hlt, fun i hi => ?_⟩
  rw [Nat.zero_add, h.cellAt i (by omega)]
  simp [List.getElem?_eq_getElem hi, List.getD]

theorem tail_cells {w : World} {a : Option Addr} {zs : List Int} (h : AtB w a zs) : ∀ ad, a = some ad → ∀ j u, (zs.map (Value.int .u8))[j]? = some u → w.cell? (ad.add j) = some u := by
  intro ad had j u hj
  have hjl : j < zs.length := by
    have := (List.getElem?_eq_some_iff.1 hj).1
    simpa using this
  rcases h with h | ⟨b, off, hx, _, hc⟩
  · omega
  · rw [had] at hx
    obtain rfl := Option.some.inj hx
    rw [Addr.add_lit, hc j hjl]
    simp [List.getElem?_eq_getElem hjl] at hj
    subst hj
    simp [List.getD, List.getElem?_eq_getElem hjl]

set_option maxHeartbeats 1600000 in
theorem padfront_any (n : Nat) (hn : n ≤ 65536) (a : Option Addr) (zs : List Int) (hz : zs.length ≤ 1048576) (hnil : a = none → zs.length = 0) (ps : List Int) (hps : Hid (ps = pads n ++ zs)) (w : World) (hat : AtB w a zs) :
    Calls Try.prog 11 #[.int .i64 n, .slice a zs.length zs.length] w fun e w' => FreshB w w' ps e := by
  obtain ⟨cs, hcs, hmk⟩ := make0 n zs.length hn hz
  obtain ⟨i0, hi, hz0, hz1, hz2⟩ := info_parts Try.info5
  clear hz0 hz2
  go_enter Try.func11, Try.ntmps11
  go_wp2_with fail
  go_loopw [5, 6] (fun r i wr => ∃ k : Nat, k ≤ n ∧ i = .int .i64 k ∧ r = .slice (some ⟨w.heap.size, 0, none⟩) k (n + zs.length) ∧
    wr.ownsRow w.heap.size 5 1 (.slice (some ⟨w.heap.size, 0, none⟩) k (n + zs.length)) k ((pads k).map (Value.int .u8)) ∧ Below w.heap.size w wr) (fun _ i _ => n - (intOf i).toNat)
  case atStart => exact ⟨0, Nat.zero_le _, rfl, rfl, owns_made (by omega) hcs.out, (Below.refl _ _).alloc (Nat.le_refl _) _⟩
  case round =>
    clear hmk
    obtain ⟨k, hk, rfl, rfl, hown, hbel⟩ := hrel
    by_cases hlt : k < n
    · go_wp2_with fail
      refine (spaceat_any k (by omega) _).mono ?_
      rintro e w1 ⟨rfl, rfl⟩
      go_wp2_with (at_builtin; refine wpList_append_fits _ rfl _ _ 22 rfl w.heap.size 5 i0 1 Try.underlying22 hi hz1 w.heap.size k (n + zs.length) ((pads k).map (Value.int .u8)) rfl (hown.alloc _) ⟨wr.heap.size, 0, none⟩ 1 1 [.int .u8 (spaceAt k)] rfl rfl (new1 _ _ _) (ints_oneCell .u8 [spaceAt k]) (by omega) ?_; intro w5 hown5 hgrow5)
      go_roundw
      case rel =>
        refine ⟨k + 1, by omega, by go_num, rfl, ?_, (hbel.alloc hbel.size _).grown hgrow5 (by have := hbel.size; simp; omega) (fun q hq => by cases hq; exact Nat.le_refl _)⟩
        rw [pads_succ, List.map_append]
        exact hown5
      case measure => simp [intOf]; omega
    · obtain rfl : n = k := by omega
      have A := hat.below hbel (Nat.le_refl _)
      go_wp2_with (at_builtin; refine wpList_append_fits_any _ rfl _ _ 22 rfl w.heap.size 5 i0 1 Try.underlying22 hi hz1 w.heap.size n (n + zs.length) ((pads n).map (Value.int .u8)) rfl hown a zs.length zs.length (zs.map (Value.int .u8)) rfl (by simp) (fun h => ⟨hnil h, hnil h⟩) (tail_cells A) (ints_oneCell .u8 zs) (Nat.le_refl _) ?_; intro w5 hown5 hgrow5)
      go_ret
      have hl : ps.length = n + zs.length := by rw [hps.out, List.length_append, pads_length]
      refine ⟨some ⟨w.heap.size, 0, none⟩, by rw [hl]; rfl, fun h => (by cases h), fun x h => ⟨_, (Option.some.inj h).symm⟩, atB_of_owns (base := w.heap.size) (cap := n + zs.length) ?_, hbel.grown hgrow5 hbel.size (fun q hq => by cases hq; exact Nat.le_refl _)⟩
      rw [hl, hps.out, List.map_append]
      exact hown5

end Go.Proofs.Qxb6603478a
