/-
  zzHasSlash, zzBytes.
-/
import Derived.Test.Qxb6603623aPol2
namespace Go.Proofs.Qxb6603623a
open Go.RowKit

def slashB (l : List UInt8) : Bool := l.any (· == 47)

theorem slash_take (l : List UInt8) (k : Nat) (h : k < l.length) : slashB (l.take (k + 1)) = (slashB (l.take k) || l[k] == 47) := by
  unfold slashB
  rw [List.take_add_one, List.any_append, List.getElem?_eq_getElem h]
  simp

theorem byte_eq (b : UInt8) : (((b.toNat : Nat) : Int) == 47) = (b == 47) := by
  rw [Bool.eq_iff_iff]
  simp [← UInt8.toNat_inj]
  omega

set_option maxHeartbeats 400000 in
theorem slash7 (s : ByteArray) (w : World) (h : s.size ≤ 1000000) : Calls Try.prog 7 #[.string s] w fun e w' => e = .returned (.bool (slashB s.data.toList)) ∧ w' = w := by
  have hsz : s.data.toList.length = s.size := by simp
  have HSZ := hide hsz
  clear hsz
  go_enter Try.func7, Try.ntmps7
  go_wp2_with fail
  go_loopw [3] (fun i wr => ∃ k : Nat, k ≤ s.size ∧ i = .int .i64 k ∧ Hid (slashB (s.data.toList.take k) = false) ∧ w = wr) (fun i _ => s.size - (intOf i).toNat)
  case atStart => exact ⟨0, Nat.zero_le _, rfl, hide (by simp [slashB]), rfl⟩
  case round =>
    obtain ⟨k, hk, rfl, HT, rfl⟩ := hrel
    by_cases hlt : k < s.size
    · have HS := hide (slash_take s.data.toList k (by rw [unhide HSZ]; exact hlt))
      have HB := hide (byte_eq s[k])
      have hg : Hid (s.data.toList[k]'(by rw [unhide HSZ]; exact hlt) = s[k]) := hide rfl
      cases hb : (((s[k].toNat : Nat) : Int) == 47) with
      | true =>
        go_wp2_with fail
        go_ret
        refine ⟨?_, rfl⟩
        have e1 : slashB (s.data.toList.take (k + 1)) = true := by rw [unhide HS, unhide hg, ← unhide HB, hb]; simp
        have e2 : slashB s.data.toList = true := by
          unfold slashB at e1 ⊢
          rw [List.any_eq_true] at e1 ⊢
          obtain ⟨x, hx, h1⟩ := e1
          exact ⟨x, List.mem_of_mem_take hx, h1⟩
        rw [e2]
        rfl
      | false =>
        go_wp2_with fail
        go_roundw
        case rel =>
          refine ⟨k + 1, by omega, by go_num, hide ?_, trivial⟩
          rw [unhide HS, unhide hg, ← unhide HB, hb, unhide HT]
          rfl
        case measure => simp [intOf]; omega
    · have hkn : k = s.size := by omega
      have e2 : Hid (slashB s.data.toList = false) := hide (by
        have := unhide HT
        rw [List.take_of_length_le (by rw [unhide HSZ]; omega)] at this
        exact this)
      go_wp2
      go_ret
      exact ⟨by rw [unhide e2]; rfl, rfl⟩

theorem bytes6 (s : ByteArray) (w : World) (h : s.size ≤ maxLen) : Calls Try.prog 6 #[.string s] w fun e w' => ∃ b : Bool, e = .returned (.bool b) ∧ (s.size ≤ 65536 → b = true) ∧ w' = w := by
  unfold maxLen at h
  go_enter Try.func6, Try.ntmps6
  go_wp2
  all_goals go_ret
  all_goals refine ⟨_, rfl, ?_, rfl⟩
  all_goals first | (intro _; rfl) | (intro _; omega)

end Go.Proofs.Qxb6603623a
