import Derived.Test.Qxb6602938aCore
import Derived.BigRegion
import Derived.RegionTactic
namespace Go.Proofs.Qxb6602938a
open Go.RowKit

set_option maxHeartbeats 400000 in
theorem tooptions_nil (w : World) : Calls Try.prog 12 #[.slice none 0 0] w fun e w' => e = .returned (.slice none 0 0) ∧ w = w' := by
  have hnl := fun w => Lib.run_eql_slice_nil (P := Try.prog) w 22 31 none 0 0 0 0 Try.underlying22
  go_enter Try.func12, Try.ntmps12
  go_wp2
  go_ret
  exact ⟨rfl, rfl⟩

set_option maxHeartbeats 800000 in
theorem tooptions_some (x : Addr) (len cap : Nat) (hlen : len ≤ 1048576) (L V I : Nat → ByteArray) (w : World) (hat : At3 w (some x) len L V I) :
    Calls Try.prog 12 #[.slice (some x) len cap] w fun e w' => e = .returned (.slice (some ⟨w.heap.size, 0, none⟩) len len) ∧ Own3 w' w.heap.size 36 len len L V I ∧ Below w.heap.size w w' := by
  obtain ⟨cs, hcs, hmk⟩ := make3 27 36 _ Try.underlying27 Try.info36 len (by omega)
  have hnl := fun w => Lib.run_eql_slice_nil (P := Try.prog) w 22 31 (some x) len cap 0 0 Try.underlying22
  go_enter Try.func12, Try.ntmps12
  go_wp2
  go_loopw [4] (fun i wr => ∃ k : Nat, k ≤ len ∧ i = .int .i64 k ∧ Own3 wr w.heap.size 36 len k L V I ∧ Below w.heap.size w wr) (fun i _ => len - (intOf i).toNat)
  case atStart => exact ⟨0, Nat.zero_le _, rfl, Own3.made hcs.out L V I, (Below.refl _ _).alloc (Nat.le_refl _) _⟩
  case round =>
    obtain ⟨k, hk, rfl, hown, hbel⟩ := hrel
    by_cases hlt : k < len
    · rcases hat with rfl | ⟨b, off, hx, hb, hc⟩
      · omega
      obtain rfl : x = ⟨b, off, none⟩ := by simpa using hx
      obtain ⟨g0, g1, g2⟩ := hc k hlt
      rw [← hbel.cell (by exact hb)] at g0 g1 g2
      have hst := hown.step
      obtain ⟨f, hr, _⟩ := hown
      have c0 := hr.cell (i := k * 3) (by omega)
      have c1 := hr.cell (i := k * 3 + 1) (by omega)
      have c2 := hr.cell (i := k * 3 + 2) (by omega)
      have f0 := hr.frozen (k * 3)
      have f1 := hr.frozen (k * 3 + 1)
      have f2 := hr.frozen (k * 3 + 2)
      have hki : (k : Int) < (len : Int) := by omega
      clear hc hx hmk hnl
      go_wp2
      go_region
      all_goals go_wp2
      all_goals
        go_roundw
        case rel => exact ⟨k + 1, by omega, by go_num, hst.drew, (((hbel.setCell (Nat.le_refl _) _).setCell (Nat.le_refl _) _).setCell (Nat.le_refl _) _).drew⟩
        case measure => simp [intOf]; omega
    · go_wp2
      go_ret
      obtain rfl : k = len := by omega
      exact ⟨rfl, hown, hbel⟩

end Go.Proofs.Qxb6602938a
