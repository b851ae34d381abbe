/-
  zzBytes_FnLevelSetSpec.
-/
import Derived.Test.Qxb6603799aStr
namespace Go.Proofs.Qxb6603799a
open Go.RowKit Go.Maps

set_option maxRecDepth 100000 in
set_option maxHeartbeats 8000000 in
theorem bytes10 {w : World} {a : Option Addr} {n c : Nat} {E : List Ent} (h : Ents w.heap.size w a n E) (hm : n ≤ maxLen) {ka : Option Addr} {kn kc : Nat} {L : List ByteArray} (hs : Strs w.heap.size w ka kn L) (hkm : kn ≤ maxLen) (rd : Int) (k : ByteArray) (hk : k.size ≤ maxLen) (va : Option Addr) (vn vc : Nat) (hv : vn ≤ maxLen) (x l : Int) (fst : Bool) :
    Calls Try.prog 10 #[.slice a n c, .slice ka kn kc, .int .i64 rd, .string k, .slice va vn vc, .int .u64 x, .int .u64 l, .bool fst] w fun e w' => ∃ b : Bool, e = .returned (.bool b) ∧ (b = true → n ≤ 1048576 ∧ Short E n) ∧ w' = w := by
  have H := hide h
  have HST := hide hs
  clear h hs
  unfold maxLen at hm hkm hk hv
  by_cases hbig : n ≤ 1048576
  · go_enter Try.func10, Try.ntmps10
    go_wp2_with fail
    go_loopw [17, 18] (fun s i wr => ∃ (q z : Nat), q ≤ n ∧ i = .int .i64 q ∧ s = .int .i64 z ∧ z ≤ 1048576 ∧ Hid (Short E q) ∧ w = wr) (fun _ i _ => n - (intOf i).toNat)
    case atStart => exact ⟨0, n, Nat.zero_le _, rfl, by go_num, hbig, hide (fun j e hj => by omega), rfl⟩
    case round =>
      obtain ⟨q, z, hq, rfl, rfl, hz, HS, rfl⟩ := hrel
      by_cases hlt : q < n
      · obtain ⟨b, off, e, rfl, hb, he, c0, c1, c2, c3⟩ := (unhide H).get hlt
        have hmem := List.mem_of_getElem? he
        obtain ⟨ea, en, ec, hev, v1, v2, v3, v4⟩ := (unhide H).val e hmem
        have hkey := (unhide H).key e hmem
        have HE := hide he
        have HV : Hid (vlen e.val = en) := hide (by rw [hev]; rfl)
        rw [hev] at c1
        clear he c2 c3 hmem v3 v4
        unfold maxLen at hkey v2
        by_cases s1 : e.key.size ≤ 1048576
        · by_cases s2 : z + e.key.size ≤ 1048576
          · by_cases s3 : en ≤ 1048576
            · by_cases s4 : z + e.key.size + en ≤ 1048576
              · go_wp2_with fail
                go_roundw
                case rel => exact ⟨q + 1, z + e.key.size + en, by omega, by go_num, by go_num, s4, hide ((unhide HS).succ (unhide HE) (by rw [unhide HV]; exact s3) s1), trivial⟩
                case measure => simp [intOf]; omega
              · go_wp2_with fail
                go_ret
                exact ⟨false, rfl, fun h => (by cases h), rfl⟩
            · go_wp2_with fail
              go_ret
              exact ⟨false, rfl, fun h => (by cases h), rfl⟩
          · go_wp2_with fail
            go_ret
            exact ⟨false, rfl, fun h => (by cases h), rfl⟩
        · go_wp2_with fail
          go_ret
          exact ⟨false, rfl, fun h => (by cases h), rfl⟩
      · have hqn : n = q := by omega
        subst hqn
        by_cases k1 : kn ≤ 1048576
        · by_cases k2 : z + kn ≤ 1048576
          · go_wp2_with fail
            go_loopw [17, 19] (fun s i wr => ∃ (q z : Nat), q ≤ kn ∧ i = .int .i64 q ∧ s = .int .i64 z ∧ z ≤ 1048576 ∧ w = wr) (fun _ i _ => kn - (intOf i).toNat)
            case atStart => exact ⟨0, z + kn, Nat.zero_le _, rfl, by go_num, k2, rfl⟩
            case round =>
              clear hz k2
              obtain ⟨q, z, hq, rfl, rfl, hz, rfl⟩ := hrel
              by_cases hlt : q < kn
              · obtain ⟨b, off, s, rfl, hb, _, c0, hsz⟩ := (unhide HST).get hlt
                unfold maxLen at hsz
                by_cases s1 : s.size ≤ 1048576
                · by_cases s2 : z + s.size ≤ 1048576
                  · go_wp2_with fail
                    go_roundw
                    case rel => exact ⟨q + 1, z + s.size, by omega, by go_num, by go_num, s2, trivial⟩
                    case measure => simp [intOf]; omega
                  · go_wp2_with fail
                    go_ret
                    exact ⟨false, rfl, fun h => (by cases h), rfl⟩
                · go_wp2_with fail
                  go_ret
                  exact ⟨false, rfl, fun h => (by cases h), rfl⟩
              · by_cases s1 : k.size ≤ 1048576
                · by_cases s2 : z + k.size ≤ 1048576
                  · by_cases s3 : vn ≤ 1048576
                    · by_cases s4 : z + k.size + vn ≤ 1048576
                      · go_wp2_with fail
                        go_ret
                        exact ⟨true, rfl, fun _ => ⟨hbig, unhide HS⟩, rfl⟩
                      · go_wp2_with fail
                        go_ret
                        exact ⟨false, rfl, fun h => (by cases h), rfl⟩
                    · go_wp2_with fail
                      go_ret
                      exact ⟨false, rfl, fun h => (by cases h), rfl⟩
                  · go_wp2_with fail
                    go_ret
                    exact ⟨false, rfl, fun h => (by cases h), rfl⟩
                · go_wp2_with fail
                  go_ret
                  exact ⟨false, rfl, fun h => (by cases h), rfl⟩
          · go_wp2_with fail
            go_ret
            exact ⟨false, rfl, fun h => (by cases h), rfl⟩
        · go_wp2_with fail
          go_ret
          exact ⟨false, rfl, fun h => (by cases h), rfl⟩
  · go_enter Try.func10, Try.ntmps10
    go_wp2_with fail
    go_ret
    exact ⟨false, rfl, fun h => (by cases h), rfl⟩

end Go.Proofs.Qxb6603799a
