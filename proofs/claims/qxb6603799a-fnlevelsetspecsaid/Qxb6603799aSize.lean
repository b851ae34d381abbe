/-
  zzBytes_.., zzEntriesBytes.
-/
import Derived.Test.Qxb6603799aLast
namespace Go.Proofs.Qxb6603799a
open Go.RowKit

def vlen : Value → Nat
  | .slice _ n _ => n
  | _ => 0

/-- All values and keys are short. -/
def Short (E : List Ent) (k : Nat) : Prop := ∀ j e, j < k → E[j]? = some e → vlen e.val ≤ 1048576 ∧ e.key.size ≤ 1048576

theorem Short.succ {E : List Ent} {k : Nat} (h : Short E k) {e : Ent} (he : E[k]? = some e) (h1 : vlen e.val ≤ 1048576) (h2 : e.key.size ≤ 1048576) : Short E (k + 1) := by
  intro j e' hj hje
  by_cases hjk : j = k
  · subst hjk
    rw [he] at hje
    injection hje with hje
    subst hje
    exact ⟨h1, h2⟩
  · exact h j e' (by omega) hje

set_option maxHeartbeats 4000000 in
theorem bytes24 {w : World} {a : Option Addr} {n c : Nat} {E : List Ent} (h : Ents w.heap.size w a n E) (hm : n ≤ maxLen) (r : Int) :
    Calls Try.prog 24 #[.slice a n c, .int .i64 r] w fun e w' => ∃ b : Bool, e = .returned (.bool b) ∧ (b = true → n ≤ 1048576 ∧ Short E n) ∧ w' = w := by
  have H := hide h
  clear h
  unfold maxLen at hm
  by_cases hbig : n ≤ 1048576
  · go_enter Try.func24, Try.ntmps24
    go_wp2_with fail
    go_loopw [5, 6] (fun s i wr => ∃ (k z : Nat), k ≤ n ∧ i = .int .i64 k ∧ s = .int .i64 z ∧ z ≤ 1048576 ∧ Hid (Short E k) ∧ w = wr) (fun _ i _ => n - (intOf i).toNat)
    case atStart => exact ⟨0, n, Nat.zero_le _, rfl, by go_num, hbig, hide (fun j e hj => by omega), rfl⟩
    case round =>
      obtain ⟨k, z, hk, rfl, rfl, hz, HS, rfl⟩ := hrel
      by_cases hlt : k < n
      · obtain ⟨b, off, e, rfl, hb, he, c0, c1, c2, c3⟩ := (unhide H).get hlt
        have hmem := List.mem_of_getElem? he
        obtain ⟨va, vn, vc, hv, v1, v2, v3, v4⟩ := (unhide H).val e hmem
        have hkey := (unhide H).key e hmem
        have HE := hide he
        have HV : Hid (vlen e.val = vn) := hide (by rw [hv]; rfl)
        rw [hv] at c1
        clear he c2 c3 hmem v3 v4
        unfold maxLen at hkey v2
        by_cases s1 : e.key.size ≤ 1048576
        · by_cases s2 : z + e.key.size ≤ 1048576
          · by_cases s3 : vn ≤ 1048576
            · by_cases s4 : z + e.key.size + vn ≤ 1048576
              · go_wp2_with fail
                go_roundw
                case rel => exact ⟨k + 1, z + e.key.size + vn, by omega, by go_num, by go_num, s4, hide ((unhide HS).succ (unhide HE) (by rw [unhide HV]; exact s3) s1), trivial⟩
                case measure => simp [intOf]; omega
              · go_wp2_with fail
                go_ret
                exact ⟨false, rfl, fun h => (by cases h), rfl⟩
            · go_wp2_with fail
              go_ret
              exact ⟨false, rfl, fun h => (by cases h), rfl⟩
          · go_wp2_with fail
            go_ret
            exact ⟨false, rfl, fun h => (by cases h), rfl⟩
        · go_wp2_with fail
          go_ret
          exact ⟨false, rfl, fun h => (by cases h), rfl⟩
      · have hkn : k = n := by omega
        subst hkn
        go_wp2_with fail
        go_ret
        exact ⟨true, rfl, fun _ => ⟨hbig, unhide HS⟩, rfl⟩
  · go_enter Try.func24, Try.ntmps24
    go_wp2_with fail
    go_ret
    exact ⟨false, rfl, fun h => (by cases h), rfl⟩

set_option maxHeartbeats 4000000 in
theorem sum11 {w : World} {a : Option Addr} {n c : Nat} {E : List Ent} (h : Ents w.heap.size w a n E) (hn : n ≤ 4096) (hs : Short E n) :
    Calls Try.prog 11 #[.slice a n c] w fun e w' => ∃ z : Nat, e = .returned (.int .i64 z) ∧ z ≤ 4194304 ∧ Below w.heap.size w w' := by
  have H := hide h
  have HS := hide hs
  clear h hs
  go_enter Try.func11, Try.ntmps11
  go_wp2_with fail
  go_loopw [3, 4] (fun s i wr => ∃ (k z : Nat), k ≤ n ∧ i = .int .i64 k ∧ s = .int .i64 z ∧ z ≤ 1048576 ∧ Hid (Below w.heap.size w wr)) (fun _ i _ => n - (intOf i).toNat)
  case atStart => exact ⟨0, 0, Nat.zero_le _, rfl, rfl, by omega, hide (Below.refl _ _)⟩
  case round =>
    obtain ⟨k, z, hk, rfl, rfl, hz, HB⟩ := hrel
    by_cases hlt : k < n
    · have HW := hide ((unhide H).step (unhide HB))
      obtain ⟨b, off, e, rfl, hb, he, c0, c1, c2, c3⟩ := (unhide HW).get hlt
      obtain ⟨va, vn, vc, hv, v1, v2, v3, v4⟩ := (unhide H).val e (List.mem_of_getElem? he)
      obtain ⟨s1, s2⟩ := unhide HS k e hlt he
      have s3 : vn ≤ 1048576 := by rw [hv] at s1; exact s1
      rw [hv] at c1
      clear he c2 c3 v3 v4 s1 hv HW
      by_cases t1 : z + (56 + e.key.size + vn) ≤ 1048576
      · go_wp2_with fail
        go_quiet (fail)
        go_wp2_with fail
        go_roundw
        case rel => exact ⟨k + 1, z + (56 + e.key.size + vn), by omega, by go_num, by go_num, t1, hide (below_drewN (unhide HB) _)⟩
        case measure => simp [intOf]; omega
      · go_wp2_with fail
        go_quiet (fail)
        go_wp2_with fail
        go_ret
        exact ⟨z + (56 + e.key.size + vn), by simp, by omega, below_drewN (unhide HB) _⟩
    · have hkn : k = n := by omega
      subst hkn
      go_wp2_with fail
      go_ret
      exact ⟨z, rfl, by omega, unhide HB⟩

end Go.Proofs.Qxb6603799a
