/-
  zzCanon, zzFixed.
-/
import Derived.Test.Qxb6603623aSplit
namespace Go.Proofs.Qxb6603623a
open Go.RowKit

theorem take_get {es : List (List UInt8)} {k : Nat} {e : List UInt8} (h : es[k]? = some e) : es.take (k + 1) = es.take k ++ [e] := by
  rw [List.take_add_one, h]; rfl

theorem all_fail {es : List (List UInt8)} {k : Nat} {e : List UInt8} (h : es[k]? = some e) (hp : properB e = false) : es.all properB = false := by
  rw [List.all_eq_false]
  exact ⟨e, List.mem_of_getElem? h, by simp [hp]⟩

theorem all_on {es : List (List UInt8)} {k : Nat} {e : List UInt8} (h : es[k]? = some e) (ht : (es.take k).all properB = true) (hp : properB e = true) : (es.take (k + 1)).all properB = true := by
  rw [take_get h, List.all_append, ht]; simp [hp]

theorem size_str (e : List UInt8) : (⟨e.toArray⟩ : ByteArray).data.toList = e := by simp

theorem els_len (l : List UInt8) : (Lib.Pa.els l).length ≤ l.length + 1 := by
  have h := span_els l
  have : ∀ es : List (List UInt8), es.length ≤ span es := by
    intro es
    induction es with
    | nil => simp [span]
    | cons a r ih => simp [span]; omega
  have := this (Lib.Pa.els l)
  omega

/-- The first loop: all segments proper. -/
theorem seg_bad {es : List (List UInt8)} {k : Nat} {e : List UInt8} {b : Bool} (h : es[k]? = some e) (ht : (es.take k).foldl seg (some b) = none ∨ ∃ s, (es.take k).foldl seg (some b) = some s ∧ seg (some s) e = none) : es.foldl seg (some b) = none := by
  have hx : es = es.take k ++ (e :: es.drop (k + 1)) := by
    obtain ⟨hlt, he⟩ := List.getElem?_eq_some_iff.1 h
    rw [← he, List.getElem_cons_drop, List.take_append_drop]
  rw [hx, List.foldl_append, List.foldl_cons]
  rcases ht with h1 | ⟨s, h1, h2⟩
  · rw [h1]; exact seg_none _
  · rw [h1, h2]; exact seg_none _

theorem seg_on {es : List (List UInt8)} {k : Nat} {e : List UInt8} {b s s' : Bool} (h : es[k]? = some e) (ht : (es.take k).foldl seg (some b) = some s) (hs : seg (some s) e = some s') : (es.take (k + 1)).foldl seg (some b) = some s' := by
  rw [take_get h, List.foldl_append, ht]; exact hs

set_option maxRecDepth 100000 in
set_option maxHeartbeats 2000000 in
theorem canon28_root (s : ByteArray) (w : World) (h : s.size ≤ 1000000) (h0 : s.size ≠ 0) (hr : s.data.toList.head? = some 47) : Calls Try.prog 28 #[.string s] w fun e w' => e = .returned (.bool ((Lib.Pa.els (s.data.toList.drop 1)).all properB)) ∧ Below w.heap.size w w' := by
  have e0 : (s.toList == []) = false := by
    rw [ByteArray.toList_eq]
    cases hx : s.data.toList with
    | nil => rw [hx] at hr; cases hr
    | cons => rfl
  have hb : (((s[0].toNat : Nat) : Int) == 47) = true := by
    have : s.data.toList.head? = some s[0] := by
      rw [List.head?_eq_getElem?]
      rw [List.getElem?_eq_getElem (by rw [size_list]; omega)]
      rfl
    rw [hr] at this
    injection this with this
    rw [← this]; rfl
  have hx : Hid ((s.extract 1 s.size).data.toList = s.data.toList.drop 1) := hide (by
    rw [ext_list, List.take_of_length_le (by rw [size_list]; exact Nat.le_refl _)])
  have hxs : (s.extract 1 s.size).size ≤ 1000000 := by
    rw [← size_list, unhide hx, List.length_drop, size_list]; omega
  have HLE := hide (els_len (s.data.toList.drop 1))
  have HSZ := hide (size_list s)
  have hn : (Lib.Pa.els (s.data.toList.drop 1)).length ≤ 1000001 := by
    have := unhide HLE
    rw [List.length_drop, unhide HSZ] at this
    omega
  clear hr
  go_enter Try.func28, Try.ntmps28
  go_wp2_with fail
  refine (split19 (s.extract 1 s.size) w hxs).mono ?_
  rintro e w1 ⟨g, cap, rfl, hg, HS, hb1⟩
  rw [unhide hx] at HS ⊢
  have HS' := hide HS
  have HB := hide hb1
  generalize hes : Lib.Pa.els (s.data.toList.drop 1) = es at *
  clear HS hb1
  go_wp2_with fail
  go_loopw [4] (fun i wr => ∃ k : Nat, k ≤ es.length ∧ i = .int .i64 k ∧ Hid ((es.take k).all properB = true) ∧ w1 = wr) (fun i _ => es.length - (intOf i).toNat)
  case atStart => exact ⟨0, Nat.zero_le _, rfl, hide rfl, rfl⟩
  case round =>
    obtain ⟨k, hk, rfl, HT, rfl⟩ := hrel
    by_cases hlt : k < es.length
    · have hge := hide (List.getElem?_eq_getElem hlt)
      generalize es[k] = e at hge
      have hc := unhide HS' k e (unhide hge)
      unfold strV at hc
      go_wp2_with fail
      refine (proper33 _ w1).mono ?_
      rintro e' w2 ⟨rfl, rfl⟩
      rw [size_str]
      cases hp : properB e with
      | true =>
        go_wp2_with fail
        go_roundw
        case rel => exact ⟨k + 1, by omega, by go_num, hide (all_on (unhide hge) (unhide HT) hp), trivial⟩
        case measure => simp [intOf]; omega
      | false =>
        go_wp2_with fail
        go_ret
        refine ⟨?_, unhide HB⟩
        rw [hes, all_fail (unhide hge) hp]
        rfl
    · have HT' : Hid (es.all properB = true) := hide (by
        have := unhide HT
        rw [List.take_of_length_le (by omega)] at this
        exact this)
      go_wp2_with fail
      go_ret
      refine ⟨?_, unhide HB⟩
      rw [hes, unhide HT']
      rfl

theorem segB (b : Bool) (e : List UInt8) : seg (some b) e = if (e == []) = true then none else if (e == [46]) = true then none else if (e == [46, 46]) = true then (if b = true then none else some false) else some true := by
  unfold seg
  by_cases h1 : e = []
  · simp [h1]
  · by_cases h2 : e = [46]
    · simp [h2]
    · by_cases h3 : e = [46, 46]
      · simp [h3]
      · simp [h1, h2, h3]

set_option maxRecDepth 100000 in
set_option maxHeartbeats 2000000 in
theorem canon28_un (s : ByteArray) (w : World) (h : s.size ≤ 1000000) (h0 : s.size ≠ 0) (hr : s.data.toList.head? ≠ some 47) (hd : s.data.toList ≠ [46]) : Calls Try.prog 28 #[.string s] w fun e w' => e = .returned (.bool (canonU (Lib.Pa.els s.data.toList))) ∧ Below w.heap.size w w' := by
  have e0 : (s.toList == []) = false := by
    rw [ByteArray.toList_eq]
    cases hx : s.data.toList with
    | nil => rw [← size_list, hx] at h0; exact absurd rfl h0
    | cons => rfl
  have hb : (((s[0].toNat : Nat) : Int) == 47) = false := by
    have : s.data.toList.head? = some s[0] := by
      rw [List.head?_eq_getElem?]
      rw [List.getElem?_eq_getElem (by rw [size_list]; omega)]
      rfl
    rw [byte_eq]
    rw [this] at hr
    simpa using hr
  have e1 : (s.toList == [46]) = false := by
    rw [ByteArray.toList_eq]
    simpa using hd
  have HLE := hide (els_len s.data.toList)
  have hn : (Lib.Pa.els s.data.toList).length ≤ 1000001 := by
    have := unhide HLE
    rw [size_list] at this
    omega
  clear hr hd
  go_enter Try.func28, Try.ntmps28
  go_wp2_with fail
  refine (split19 s w h).mono ?_
  rintro e w1 ⟨g, cap, rfl, hg, HS, hb1⟩
  have HS' := hide HS
  have HB := hide hb1
  generalize hes : Lib.Pa.els s.data.toList = es at *
  clear HS hb1
  go_wp2_with fail
  go_loopw [6, 7, 8] (fun b i _ wr => ∃ (k : Nat) (q : Bool), k ≤ es.length ∧ i = .int .i64 k ∧ b = .bool q ∧ Hid ((es.take k).foldl seg (some false) = some q) ∧ w1 = wr) (fun _ i _ _ => es.length - (intOf i).toNat)
  case atStart => exact ⟨0, false, Nat.zero_le _, rfl, rfl, hide rfl, rfl⟩
  case round =>
    obtain ⟨k, q, hk, rfl, rfl, HT, rfl⟩ := hrel
    by_cases hlt : k < es.length
    · have hge := hide (List.getElem?_eq_getElem hlt)
      generalize es[k] = e at hge
      have hc := unhide HS' k e (unhide hge)
      unfold strV at hc
      have HSB := hide (segB q e)
      have HN : ∀ x, seg (some q) e = some x → Hid ((es.take (k + 1)).foldl seg (some false) = some x) := fun x hx => hide (seg_on (unhide hge) (unhide HT) hx)
      have HF : seg (some q) e = none → Hid (canonU es = false) := fun hx => hide (by
        unfold canonU
        rw [seg_bad (unhide hge) (.inr ⟨q, unhide HT, hx⟩)]; rfl)
      have hbe : (⟨e.toArray⟩ : ByteArray).toList = e := by rw [ByteArray.toList_eq]
      generalize (⟨e.toArray⟩ : ByteArray) = se at hc hbe
      rw [← hbe] at HSB HF HN
      have HNh := hide HN
      have HFh := hide HF
      clear HN HF hbe hge
      cases f0 : (se.toList == []) with
      | true =>
        go_wp2_with fail
        go_ret
        refine ⟨?_, unhide HB⟩
        rw [hes, unhide (unhide HFh (by rw [unhide HSB, if_pos f0]))]
        rfl
      | false =>
        cases f1 : (se.toList == [46]) with
        | true =>
          go_wp2_with fail
          go_ret
          refine ⟨?_, unhide HB⟩
          rw [hes, unhide (unhide HFh (by rw [unhide HSB, f0, if_neg (by simp), if_pos f1]))]
          rfl
        | false =>
          cases f2 : (se.toList == [46, 46]) with
          | true =>
            cases q with
            | true =>
              go_wp2_with fail
              go_ret
              refine ⟨?_, unhide HB⟩
              rw [unhide (unhide HFh (by rw [unhide HSB, f0, f1, f2]; rfl))]
              rfl
            | false =>
              go_wp2_with fail
              go_roundw
              case rel => exact ⟨k + 1, false, by omega, by go_num, rfl, unhide HNh _ (by rw [unhide HSB, f0, f1, f2]; rfl), trivial⟩
              case measure => simp [intOf]; omega
          | false =>
            go_wp2_with fail
            go_roundw
            case rel => exact ⟨k + 1, true, by omega, by go_num, rfl, unhide HNh _ (by rw [unhide HSB, f0, f1, f2]; rfl), trivial⟩
            case measure => simp [intOf]; omega
    · have HT' : Hid (canonU es = true) := hide (by
        have := unhide HT
        rw [List.take_of_length_le (by omega)] at this
        unfold canonU
        rw [this]; rfl)
      go_wp2_with fail
      go_ret
      refine ⟨?_, unhide HB⟩
      rw [hes, unhide HT']
      rfl

theorem canon28 (s : ByteArray) (w : World) (h : s.size ≤ 1000000) : Calls Try.prog 28 #[.string s] w fun e w' => e = .returned (.bool (canonL s.data.toList)) ∧ Below w.heap.size w w' := by
  by_cases h0 : s.size = 0
  · have hl : s.data.toList = [] := List.eq_nil_of_length_eq_zero (by rw [size_list, h0])
    have e0 : (s.toList == []) = true := by rw [ByteArray.toList_eq, hl]; rfl
    have HL := hide hl
    clear hl
    go_enter Try.func28, Try.ntmps28
    go_wp2_with fail
    go_ret
    refine ⟨?_, Below.refl _ _⟩
    rw [unhide HL]
    rfl
  · have hl : s.data.toList ≠ [] := fun e => h0 (by rw [← size_list, e]; rfl)
    by_cases hr : s.data.toList.head? = some 47
    · have : canonL s.data.toList = (Lib.Pa.els (s.data.toList.drop 1)).all properB := by
        unfold canonL
        rw [if_neg hl, if_pos hr]
      rw [this]
      exact canon28_root s w h h0 hr
    · by_cases hd : s.data.toList = [46]
      · have e0 : (s.toList == []) = false := by rw [ByteArray.toList_eq, hd]; rfl
        have e1 : (s.toList == [46]) = true := by rw [ByteArray.toList_eq, hd]; rfl
        have hb : (((s[0].toNat : Nat) : Int) == 47) = false := by
          have : s.data.toList.head? = some s[0] := by
            rw [List.head?_eq_getElem?]
            rw [List.getElem?_eq_getElem (by rw [size_list]; omega)]
            rfl
          rw [byte_eq]
          rw [this] at hr
          simpa using hr
        have HL := hide hd
        clear hl hr hd
        go_enter Try.func28, Try.ntmps28
        go_wp2_with fail
        go_ret
        refine ⟨?_, Below.refl _ _⟩
        rw [unhide HL]
        rfl
      · have : canonL s.data.toList = canonU (Lib.Pa.els s.data.toList) := by
          unfold canonL
          rw [if_neg hl, if_neg hr, if_neg hd]
        rw [this]
        exact canon28_un s w h h0 hr hd

theorem last_byte (s : ByteArray) (h : 0 < s.size) : (s.data.toList.getLast? == some 47) = (((s[s.size - 1].toNat : Nat) : Int) == 47) := by
  rw [byte_eq, List.getLast?_eq_getElem?, size_list, List.getElem?_eq_getElem (by rw [size_list]; omega)]
  rfl

theorem first_byte (s : ByteArray) (h : 0 < s.size) : (s.data.toList.head? == some 47) = (((s[0].toNat : Nat) : Int) == 47) := by
  rw [byte_eq, List.head?_eq_getElem?, List.getElem?_eq_getElem (by rw [size_list]; omega)]
  rfl

set_option maxRecDepth 100000 in
set_option maxHeartbeats 1000000 in
theorem fixed18 (s : ByteArray) (w : World) (h : s.size ≤ 1000000) : Calls Try.prog 18 #[.string s] w fun e w' => e = .returned (.bool (fixedL s.data.toList)) ∧ Below w.heap.size w w' := by
  have HE : Hid (fixedL s.data.toList = (s.toList == [47] || (canonL s.data.toList || (decide (2 ≤ s.size) && (s.data.toList.getLast? == some 47 && canonL (s.data.toList.take (s.size - 1))))))) := hide (by
    unfold fixedL; rw [ByteArray.toList_eq, size_list])
  cases e0 : (s.toList == [47]) with
  | true =>
    go_enter Try.func18, Try.ntmps18
    go_wp2_with fail
    go_ret
    exact ⟨by rw [unhide HE, e0]; rfl, Below.refl _ _⟩
  | false =>
    cases e1 : canonL s.data.toList with
    | true =>
      go_enter Try.func18, Try.ntmps18
      go_wp2_with fail
      refine (canon28 s w h).mono ?_
      rintro e w1 ⟨rfl, b1⟩
      go_wp2_with fail
      go_ret
      exact ⟨by rw [unhide HE, e0, e1]; rfl, b1⟩
    | false =>
      by_cases h2 : 2 ≤ s.size
      · have HL := hide (last_byte s (by omega))
        cases hb : (((s[s.size - 1].toNat : Nat) : Int) == 47) with
        | true =>
          have hx : Hid ((s.extract 0 (s.size - 1)).data.toList = s.data.toList.take (s.size - 1)) := hide (by rw [ext_list, List.drop_zero])
          have hxs : (s.extract 0 (s.size - 1)).size ≤ 1000000 := by
            rw [← size_list, unhide hx, List.length_take, size_list]; omega
          go_enter Try.func18, Try.ntmps18
          go_wp2_with fail
          refine (canon28 s w h).mono ?_
          rintro e w1 ⟨rfl, b1⟩
          go_wp2_with fail
          refine (canon28 (s.extract 0 (s.size - 1)) w1 hxs).mono ?_
          rintro e w2 ⟨rfl, b2⟩
          rw [unhide hx]
          go_wp2_with fail
          go_ret
          refine ⟨?_, b1.trans (b2.mono b1.size)⟩
          rw [unhide HE, e0, e1, unhide HL, hb]
          simp [h2]
        | false =>
          go_enter Try.func18, Try.ntmps18
          go_wp2_with fail
          refine (canon28 s w h).mono ?_
          rintro e w1 ⟨rfl, b1⟩
          go_wp2_with fail
          go_ret
          refine ⟨?_, b1⟩
          rw [unhide HE, e0, e1, unhide HL, hb]
          simp
      · go_enter Try.func18, Try.ntmps18
        go_wp2_with fail
        refine (canon28 s w h).mono ?_
        rintro e w1 ⟨rfl, b1⟩
        go_wp2_with fail
        go_ret
        refine ⟨?_, b1⟩
        rw [unhide HE, e0, e1]
        simp [h2]

end Go.Proofs.Qxb6603623a
