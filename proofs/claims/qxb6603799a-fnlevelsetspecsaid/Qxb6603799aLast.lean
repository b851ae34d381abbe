/-
  zzLastEntry, zzFirstSeen.
-/
import Derived.Test.Qxb6603799aBase
namespace Go.Proofs.Qxb6603799a
open Go.RowKit

/-- The place of the last entry of key k among the first n, -1 for none. -/
def lastE (E : List Ent) (k : List UInt8) : Nat → Int
  | 0 => -1
  | n + 1 => if (E[n]?.map (fun e => e.key.data.toList)) == some k then n else lastE E k n

theorem lastE_hit {E : List Ent} {k : List UInt8} {n : Nat} {e : Ent} (h : E[n]? = some e) (hk : (e.key.data.toList == k) = true) : lastE E k (n + 1) = n := by
  unfold lastE
  rw [h, if_pos (by simpa using hk)]

theorem lastE_miss {E : List Ent} {k : List UInt8} {n : Nat} {e : Ent} (h : E[n]? = some e) (hk : (e.key.data.toList == k) = false) : lastE E k (n + 1) = lastE E k n := by
  conv => lhs; unfold lastE
  rw [h, if_neg (by simpa using hk)]

set_option maxHeartbeats 1000000 in
theorem last15 {w : World} {a : Option Addr} {n c : Nat} {E : List Ent} (h : Ents w.heap.size w a n E) (hn : n ≤ 1000000) (k : ByteArray) :
    Calls Try.prog 15 #[.slice a n c, .string k] w fun e w' => e = .returned (.int .i64 (lastE E k.data.toList n)) ∧ w' = w := by
  have H := hide h
  clear h
  go_enter Try.func15, Try.ntmps15
  go_wp2_with fail
  go_loopw [5] (fun i wr => ∃ m : Nat, m ≤ n ∧ i = .int .i64 ((m : Int) - 1) ∧ Hid (lastE E k.data.toList n = lastE E k.data.toList m) ∧ w = wr) (fun i _ => ((intOf i) + 1).toNat)
  case atStart => exact ⟨n, Nat.le_refl _, rfl, hide rfl, rfl⟩
  case round =>
    obtain ⟨m, hm, rfl, HL, rfl⟩ := hrel
    cases m with
    | zero =>
      go_wp2_with fail
      go_ret
      exact ⟨by rw [unhide HL]; rfl, rfl⟩
    | succ q =>
      obtain ⟨b, off, e, rfl, hlt, he, c0, c1, c2, c3⟩ := (unhide H).get (k := q) (by omega)
      have HE := hide he
      clear he c1 c2 c3
      have hq : ((q + 1 : Nat) : Int) - 1 = q := by omega
      rw [hq]
      have HK : Hid ((e.key.data.toList == k.data.toList) = (e.key.toList == k.toList)) := hide (by rw [ByteArray.toList_eq, ByteArray.toList_eq])
      cases hk : (e.key.toList == k.toList) with
      | true =>
        go_wp2_with fail
        go_ret
        exact ⟨by rw [unhide HL, lastE_hit (unhide HE) ((unhide HK).trans hk)]; rfl, rfl⟩
      | false =>
        go_wp2_with fail
        go_roundw
        case rel => exact ⟨q, by omega, rfl, hide (by rw [unhide HL, lastE_miss (unhide HE) ((unhide HK).trans hk)]), trivial⟩
        case measure => simp [intOf]

def keysL (E : List Ent) : List (List UInt8) := E.map (fun e => e.key.data.toList)

/-- No entry before i has key k. -/
def firstE (E : List Ent) (i : Nat) (k : List UInt8) : Bool := !((keysL E).take i).any (· == k)

theorem keysL_get {E : List Ent} {i : Nat} {e : Ent} (h : E[i]? = some e) : (keysL E)[i]? = some e.key.data.toList := by
  unfold keysL
  rw [List.getElem?_map, h]; rfl

theorem firstE_hit {E : List Ent} {i j : Nat} {e : Ent} {k : List UInt8} (h : E[j]? = some e) (hj : j < i) (hk : (e.key.data.toList == k) = true) : firstE E i k = false := by
  unfold firstE
  rw [Bool.not_eq_false', List.any_eq_true]
  refine ⟨e.key.data.toList, ?_, hk⟩
  have := keysL_get h
  have h2 : ((keysL E).take i)[j]? = some e.key.data.toList := by rw [List.getElem?_take, if_pos hj]; exact this
  exact List.mem_of_getElem? h2

theorem firstE_on {E : List Ent} {j : Nat} {e : Ent} {k : List UInt8} (h : E[j]? = some e) (hk : (e.key.data.toList == k) = false) (hf : firstE E j k = true) : firstE E (j + 1) k = true := by
  unfold firstE at *
  rw [List.take_add_one, keysL_get h, List.any_append]
  simp only [Option.toList_some, List.any_cons, List.any_nil, hk, Bool.or_false]
  exact hf

set_option maxHeartbeats 1000000 in
theorem first16 {w : World} {a : Option Addr} {n c : Nat} {E : List Ent} (h : Ents w.heap.size w a n E) (hn : n ≤ 1000000) {i : Nat} (hi : i < n) {ei : Ent} (hei : E[i]? = some ei) :
    Calls Try.prog 16 #[.slice a n c, .int .i64 i] w fun e w' => e = .returned (.bool (firstE E i ei.key.data.toList)) ∧ Below w.heap.size w w' := by
  have H := hide h
  have HEI := hide hei
  clear h hei
  go_enter Try.func16, Try.ntmps16
  go_wp2_with fail
  go_loopw [5] (fun j wr => ∃ m : Nat, m ≤ i ∧ j = .int .i64 m ∧ Hid (firstE E m ei.key.data.toList = true) ∧ Hid (Below w.heap.size w wr)) (fun j _ => i - (intOf j).toNat)
  case atStart => exact ⟨0, Nat.zero_le _, rfl, hide rfl, hide (Below.refl _ _)⟩
  case round =>
    obtain ⟨m, hm, rfl, HL, HB⟩ := hrel
    by_cases hmi : m < i
    · have HW := hide ((unhide H).step (unhide HB))
      obtain ⟨b, off, e', rfl, hlt, he', d0, d1, d2, d3⟩ := (unhide HW).get hi
      rw [unhide HEI] at he'
      injection he' with he'
      subst he'
      obtain ⟨b', off', e, hb, hlt', he, c0, c1, c2, c3⟩ := (unhide HW).get (k := m) (by omega)
      cases hb
      have HE := hide he
      clear he c1 c2 c3 d1 d2 d3
      have HK : Hid ((e.key.data.toList == ei.key.data.toList) = (e.key.toList == ei.key.toList)) := hide (by rw [ByteArray.toList_eq, ByteArray.toList_eq])
      cases hk : (e.key.toList == ei.key.toList) with
      | true =>
        go_wp2_with fail
        go_quiet (fail)
        go_wp2_with fail
        go_ret
        exact ⟨by rw [firstE_hit (unhide HE) hmi ((unhide HK).trans hk)]; rfl, below_drewN (unhide HB) _⟩
      | false =>
        go_wp2_with fail
        go_quiet (fail)
        go_wp2_with fail
        go_roundw
        case rel => exact ⟨m + 1, by omega, by go_num, hide (firstE_on (unhide HE) ((unhide HK).trans hk) (unhide HL)), hide (below_drewN (unhide HB) _)⟩
        case measure => simp [intOf]; omega
    · have hmn : m = i := by omega
      subst hmn
      go_wp2_with fail
      go_ret
      exact ⟨by rw [unhide HL]; rfl, unhide HB⟩

end Go.Proofs.Qxb6603799a
