/-
  zzSplit.
-/
import Derived.Test.Qxb6603623aSmall
import Derived.Maps.AppendAt
namespace Go.Proofs.Qxb6603623a
open Go.RowKit

theorem info9 : (Try.prog.info? 9).map (fun i => (i.zero, i.size, i.bytes)) = some (some (.string ⟨#[]⟩), 1, 16) := by kernel_rfl

theorem own_ge {w : World} {B : Nat} {e : TypeId} {size : Nat} {v : Value} {n : Nat} {xs : List Value} (h : w.ownsRow B e size v n xs) : ∀ j, v.ownBlock = some j → B ≤ j := by
  rcases h.2 with ⟨rfl, rfl⟩ | ⟨g, cap, cur, rfl, hg, _⟩
  · intro j hj; cases hj
  · intro j hj; cases hj; exact hg

/-- zzSplit's answer in memory. -/
def Segs (w : World) (g : Nat) (es : List (List UInt8)) : Prop := ∀ j e, es[j]? = some e → w.cell? ⟨g, j, none⟩ = some (strV e)

theorem byte_ne {b : UInt8} (h : (((b.toNat : Nat) : Int) == 47) = false) : b ≠ 47 := by
  rw [byte_eq] at h
  simpa using h

theorem byte_is {b : UInt8} (h : (((b.toNat : Nat) : Int) == 47) = true) : b = 47 := by
  rw [byte_eq] at h
  simpa using h

theorem map_snoc (out : List (List UInt8)) (e : List UInt8) : (out ++ [e]).map strV = out.map strV ++ [strV e] := by simp

set_option maxRecDepth 100000 in
set_option maxHeartbeats 2000000 in
theorem split19 (s : ByteArray) (w : World) (h : s.size ≤ 1000000) : Calls Try.prog 19 #[.string s] w fun e w' => ∃ g cap, e = .returned (.slice (some ⟨g, 0, none⟩) (Lib.Pa.els s.data.toList).length cap) ∧ w.heap.size ≤ g ∧ Segs w' g (Lib.Pa.els s.data.toList) ∧ Below w.heap.size w w' := by
  have HSZ := hide (size_list s)
  obtain ⟨i0, hi, hz0, hz1, hz2⟩ := info_parts info9
  go_enter Try.func19, Try.ntmps19
  go_wp2_with fail
  go_loopw [3, 4, 5] (fun v st i wr => ∃ (k t : Nat) (out : List (List UInt8)), k ≤ s.size + 1 ∧ i = .int .i64 k ∧ st = .int .i64 t ∧ Hid (k ≤ s.size → Cut s.data.toList k t out) ∧ Hid (¬ k ≤ s.size → out = Lib.Pa.els s.data.toList) ∧ out.length ≤ k ∧ wr.ownsRow w.heap.size 9 1 v out.length (out.map strV) ∧ Below w.heap.size w wr) (fun _ _ i _ => s.size + 1 - (intOf i).toNat)
  case atStart => exact ⟨0, 0, [], Nat.zero_le _, rfl, rfl, hide (fun _ => Cut.zero _), hide (fun x => absurd (Nat.zero_le _) x), Nat.le_refl _, World.ownsRow_nil _ _ _ _, Below.refl _ _⟩
  case round =>
    obtain ⟨k, t, out, hk, rfl, rfl, HC, HE, hlen, hrow, hbel⟩ := hrel
    have hks : w.heap.size ≤ wr.heap.size := hbel.size
    by_cases hle : k ≤ s.size
    · have ht : t ≤ k := (unhide HC hle).1
      by_cases hlt : k < s.size
      · have hgl : Hid (s.data.toList[k]'(by rw [unhide HSZ]; exact hlt) = s[k]) := hide rfl
        cases hb : (((s[k].toNat : Nat) : Int) == 47) with
        | true =>
          have HN := hide ((unhide HC hle).slash (by rw [unhide HSZ]; exact hlt) (by rw [unhide hgl]; exact byte_is hb))
          have hx : Hid (s.extract t k = ⟨((s.data.toList.take k).drop t).toArray⟩) := hide (ext_eq _ _ _)
          go_wp2_with (at_builtin; refine wpList_append_own _ rfl _ _ 33 rfl w.heap.size 9 i0 (.string ⟨#[]⟩) 1 16 Try.underlying33 hi hz0 hz1 hz2 rfl (by decide) _ _ _ rfl (hrow.alloc _) ⟨wr.heap.size, 0, none⟩ 1 1 [.string (s.extract t k)] rfl rfl (cell_one_new _ _ _) (by simp [Value.oneCell']) (by unfold maxLen; omega) (by omega) (by simp; omega) ?_; intro v' w3 hown3 hgrow3 hnil3)
          have s3 := hgrow3.size
          simp at s3
          go_roundw
          case rel =>
            refine ⟨k + 1, k + 1, out ++ [(s.data.toList.take k).drop t], by omega, by go_num, by go_num, hide (fun _ => unhide HN), hide (fun x => absurd (Nat.succ_le_of_lt hlt) x), by simp [hlen], ?_, ?_⟩
            · rw [map_snoc, List.length_append]
              rw [unhide hx] at hown3
              exact hown3
            · exact (hbel.alloc (by omega) _).grown hgrow3 (by simp; omega) (own_ge hrow)
          case measure => simp [intOf]; omega
        | false =>
          have HN := hide ((unhide HC hle).on (by rw [unhide HSZ]; exact hlt) (by rw [unhide hgl]; exact byte_ne hb))
          go_wp2_with fail
          go_roundw
          case rel =>
            exact ⟨k + 1, t, out, by omega, by go_num, rfl, hide (fun _ => unhide HN), hide (fun x => absurd (Nat.succ_le_of_lt hlt) x), by omega, hrow, hbel⟩
          case measure => simp [intOf]; omega
      · have hkn : k = s.size := by omega
        subst hkn
        clear hle hlt
        have HN := hide (unhide HC (Nat.le_refl _))
        have hx : Hid (s.extract t s.size = ⟨((s.data.toList.take s.size).drop t).toArray⟩) := hide (ext_eq _ _ _)
        have hW : Hid (out ++ [(s.data.toList.take s.size).drop t] = Lib.Pa.els s.data.toList) := hide (by
          have := unhide HN
          rw [← unhide HSZ] at this ⊢
          exact this.whole)
        go_wp2_with (at_builtin; refine wpList_append_own _ rfl _ _ 33 rfl w.heap.size 9 i0 (.string ⟨#[]⟩) 1 16 Try.underlying33 hi hz0 hz1 hz2 rfl (by decide) _ _ _ rfl (hrow.alloc _) ⟨wr.heap.size, 0, none⟩ 1 1 [.string (s.extract t s.size)] rfl rfl (cell_one_new _ _ _) (by simp [Value.oneCell']) (by unfold maxLen; omega) (by omega) (by simp; omega) ?_; intro v' w3 hown3 hgrow3 hnil3)
        have s3 := hgrow3.size
        simp at s3
        go_roundw
        case rel =>
          refine ⟨s.size + 1, s.size + 1, out ++ [(s.data.toList.take s.size).drop t], by omega, by go_num, by go_num, hide (fun x => by omega), hide (fun _ => unhide hW), by simp [hlen], ?_, ?_⟩
          · rw [map_snoc, List.length_append]
            rw [unhide hx] at hown3
            exact hown3
          · exact (hbel.alloc (by omega) _).grown hgrow3 (by simp; omega) (own_ge hrow)
        case measure => simp [intOf]
    · have hE := unhide HE hle
      subst hE
      rcases hrow.2 with ⟨_, h0⟩ | ⟨g, cap, cur, rfl, hg, _⟩
      · exact absurd (List.eq_nil_of_length_eq_zero h0) (els_ne _)
      · have HR := hide hrow
        clear hrow HC HE
        go_wp2_with fail
        go_ret
        refine ⟨g, cap, rfl, hg, ?_, hbel⟩
        intro j e hj
        have hjl : j < (Lib.Pa.els s.data.toList).length := (List.getElem?_eq_some_iff.1 hj).1
        rw [(unhide HR).cellAt j (by omega), List.getElem?_map, hj]
        rfl

end Go.Proofs.Qxb6603623a
