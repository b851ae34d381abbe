/-
  zzOpenModel.
-/
import Derived.Test.Qxb6603623aCan
import Derived.Deep.DeepCutAuto
namespace Go.Proofs.Qxb6603623a
open Go.RowKit

def ask (r t : Bool) (n : Nat) (f l : List UInt8) : Bool :=
  (r && (!t && (n == 1 && (f == [114, 111, 98, 111, 116, 115, 46, 116, 120, 116] || f == [102, 97, 118, 105, 99, 111, 110, 46, 105, 99, 111])))) ||
  ((r && (f == [46, 119, 101, 108, 108, 45, 107, 110, 111, 119, 110] && (decide (2 ≤ n) || t))) ||
  (!t && (Lib.hasSuffix l [46, 114, 115, 115] || (Lib.hasSuffix l [46, 120, 109, 108] || Lib.hasSuffix l [46, 97, 116, 111, 109]))))

theorem askL_eq (r t : Bool) {es : List (List UInt8)} {f l : List UInt8} (hf : es[0]? = some f) (hl : es[es.length - 1]? = some l) : askL r t es = ask r t es.length f l := by
  unfold askL ask
  rw [List.head?_eq_getElem?, List.getLast?_eq_getElem?, hf, hl]
  simp

theorem model_fixed {p : List UInt8} (hf : fixedL p = true) (h47 : p ≠ [47]) : p ≠ [] ∧ bodyL p ≠ [] := by
  have h0 : p ≠ [] := fun e => by rw [e] at hf; revert hf; decide
  refine ⟨h0, ?_⟩
  unfold bodyL
  split
  · rename_i hr
    cases p with
    | nil => exact absurd rfl h0
    | cons c t =>
      have hc : c = 47 := by simpa using hr
      subst hc
      intro e
      have : t = [] := e
      exact h47 (by rw [this])
  · exact h0

theorem els_seg_len {l e : List UInt8} (h : e ∈ Lib.Pa.els l) : e.length ≤ l.length := by
  have h1 := span_els l
  have : ∀ es : List (List UInt8), e ∈ es → e.length + 1 ≤ span es := by
    intro es
    induction es with
    | nil => intro hx; cases hx
    | cons a r ih =>
      intro hx
      rcases List.mem_cons.1 hx with rfl | hx
      · simp [span]
      · have := ih hx; simp [span]; omega
  have := this _ h
  omega

set_option maxRecDepth 100000 in
set_option maxHeartbeats 4000000 in
theorem model10_main (s : ByteArray) (w : World) (h : s.size ≤ 65536) (hf : fixedL s.data.toList = true) (h47 : s.data.toList ≠ [47]) : Calls Try.prog 10 #[.string s] w fun e w' => e = .returned (.bool (modelL s.data.toList)) ∧ Below w.heap.size w w' := by
  have HE : Hid (modelL s.data.toList = askL (s.data.toList.head? == some 47) ((bodyL s.data.toList).getLast? == some 47) (Lib.Pa.els (cutL (bodyL s.data.toList)))) := hide (by
    unfold modelL
    rw [if_neg (fun x => by rcases x with x | x; exact absurd (hf.symm.trans x) (by simp); exact h47 x)])
  obtain ⟨n0, n1⟩ := model_fixed hf h47
  have hpos : 0 < s.size := by
    rw [← size_list]
    exact List.length_pos_iff.2 n0
  have e47 : (s.toList == [47]) = false := by rw [ByteArray.toList_eq]; simpa using h47
  have HFB := hide (first_byte s hpos)
  obtain ⟨r, hr⟩ : ∃ r, (((s[0].toNat : Nat) : Int) == 47) = r := ⟨_, rfl⟩
  have HR : Hid ((s.data.toList.head? == some 47) = r) := hide ((unhide HFB).trans hr)
  have HF := hide hf
  have HN1 := hide n1
  clear n0 n1 h47 hf
  have Hr := hide hr
  clear hr
  go_enter Try.func10, Try.ntmps10
  go_wp2_with fail
  refine (fixed18 s w (by omega)).mono ?_
  rintro e w1 ⟨rfl, b1⟩
  rw [unhide HF]
  have HB := hide b1
  clear b1
  go_upto_if 20 with fail
  go_cut [3, 4] (fun s3 s4 wc => ∃ b : ByteArray, s3 = .bool r ∧ s4 = .string b ∧ Hid (b.data.toList = bodyL s.data.toList) ∧ w1 = wc)
  case first =>
    as_aux_lemma =>
      cases r with
      | true =>
        have hr := unhide Hr
        have hx : Hid ((s.extract 1 s.size).data.toList = bodyL s.data.toList) := hide (by
          unfold bodyL
          rw [ext_list, List.take_of_length_le (by rw [size_list]; exact Nat.le_refl _), if_pos (by simpa using unhide HR)])
        go_wp2
        go_meet
        case rel => exact ⟨_, by rw [hr], rfl, hx, rfl⟩
      | false =>
        have hr := unhide Hr
        have hx : Hid (s.data.toList = bodyL s.data.toList) := hide (by
          unfold bodyL
          rw [if_neg (by simpa using unhide HR)])
        go_wp2
        go_meet
        case rel => exact ⟨_, by rw [hr], rfl, hx, rfl⟩
  obtain ⟨b, hc1, hc2, Hb, hc3⟩ := hcut
  subst hc1 hc2 hc3
  clear HF Hr HFB e47
  have hbs : b.size ≤ 65536 := by
    have e1 := congrArg List.length (unhide Hb)
    rw [size_list] at e1
    have e2 : (bodyL s.data.toList).length ≤ s.data.toList.length := by
      unfold bodyL
      split
      · rw [List.length_drop]; omega
      · exact Nat.le_refl _
    rw [size_list] at e2
    omega
  have hbp : 0 < b.size := by
    rw [← size_list, unhide Hb]
    exact List.length_pos_iff.2 (unhide HN1)
  have HLB := hide (last_byte b hbp)
  obtain ⟨t, ht⟩ : ∃ t, (((b[b.size - 1].toNat : Nat) : Int) == 47) = t := ⟨_, rfl⟩
  have HTR : Hid (((bodyL s.data.toList).getLast? == some 47) = t) := hide (by
    rw [← unhide Hb, unhide HLB]; exact ht)
  have Ht := hide ht
  clear ht HLB HN1
  go_upto_if 29 with fail
  go_cut [4, 5] (fun s4 s5 wc => ∃ c : ByteArray, s5 = .bool t ∧ s4 = .string c ∧ Hid (c.data.toList = cutL (bodyL s.data.toList)) ∧ w1 = wc)
  case first =>
    as_aux_lemma =>
      cases t with
      | true =>
        have ht := unhide Ht
        have hx : Hid ((b.extract 0 (b.size - 1)).data.toList = cutL (bodyL s.data.toList)) := hide (by
          unfold cutL
          rw [if_pos (by simpa using unhide HTR), ext_list, List.drop_zero, ← unhide Hb, size_list])
        go_wp2
        go_meet
        case rel => exact ⟨_, by rw [ht], rfl, hx, rfl⟩
      | false =>
        have ht := unhide Ht
        have hx : Hid (b.data.toList = cutL (bodyL s.data.toList)) := hide (by
          unfold cutL
          rw [if_neg (by simpa using unhide HTR), ← unhide Hb])
        go_wp2
        go_meet
        case rel => exact ⟨_, by rw [ht], rfl, hx, rfl⟩
  obtain ⟨c, hc1, hc2, Hc, hc3⟩ := hcut
  subst hc1 hc2 hc3
  have hcs : c.size ≤ 65536 := by
    have e1 := congrArg List.length (unhide Hc)
    rw [size_list, ← unhide Hb] at e1
    have e2 : (cutL b.data.toList).length ≤ b.data.toList.length := by
      unfold cutL
      split
      · rw [List.length_take]; omega
      · exact Nat.le_refl _
    rw [size_list] at e2
    omega
  clear Ht
  go_wp2_with fail
  refine (split19 c w1 (by omega)).mono ?_
  rintro e w2 ⟨g, cap, rfl, hg, HS, b2⟩
  have HB2 := hide ((unhide HB).trans (b2.mono (unhide HB).size))
  have HLE := els_len c.data.toList
  rw [size_list] at HLE
  have hne := List.length_pos_iff.2 (els_ne c.data.toList)
  obtain ⟨f, hf⟩ : ∃ f, (Lib.Pa.els c.data.toList)[0]? = some f := ⟨_, List.getElem?_eq_getElem hne⟩
  obtain ⟨l, hl⟩ : ∃ l, (Lib.Pa.els c.data.toList)[(Lib.Pa.els c.data.toList).length - 1]? = some l := ⟨_, List.getElem?_eq_getElem (by omega)⟩
  have c0 := HS 0 f hf
  have c1 := HS _ l hl
  have hll : l.length ≤ 65536 := by
    have := els_seg_len (List.mem_of_getElem? hl)
    rw [size_list] at this
    omega
  have HA : Hid (modelL s.data.toList = ask r t (Lib.Pa.els c.data.toList).length f l) := hide (by
    rw [unhide HE, unhide HR, unhide HTR, ← unhide Hc]
    exact askL_eq r t hf hl)
  unfold strV at c0 c1
  have hfe : Hid ((⟨f.toArray⟩ : ByteArray).toList = f) := hide (by rw [ByteArray.toList_eq])
  have hle : Hid ((⟨l.toArray⟩ : ByteArray).data.toList = l) := hide (by simp)
  have hls : Hid ((⟨l.toArray⟩ : ByteArray).size ≤ 65536) := hide (by rw [← size_list, unhide hle]; exact hll)
  generalize (⟨f.toArray⟩ : ByteArray) = fs at c0 hfe
  generalize (⟨l.toArray⟩ : ByteArray) = ls at c1 hle hls
  generalize (Lib.Pa.els c.data.toList).length = n at *
  have hn : n ≤ 65537 := by omega
  clear HLE
  clear HS b2 HB hf hl HE HR HTR Hc Hb hg hbs hbp hcs hll
  rw [← unhide hfe, ← unhide hle] at HA
  have HA' : Hid (modelL s.data.toList = ((r && (!t && (n == 1 && (fs.toList == [114, 111, 98, 111, 116, 115, 46, 116, 120, 116] || fs.toList == [102, 97, 118, 105, 99, 111, 110, 46, 105, 99, 111])))) ||
    ((r && (fs.toList == [46, 119, 101, 108, 108, 45, 107, 110, 111, 119, 110] && (decide (2 ≤ n) || t))) ||
    (!t && (Lib.hasSuffix ls.data.toList [46, 114, 115, 115] || (Lib.hasSuffix ls.data.toList [46, 120, 109, 108] || Lib.hasSuffix ls.data.toList [46, 97, 116, 111, 109])))))) := HA
  clear hfe hle HA f l
  have hls := unhide hls
  go_upto_region 13 with fail
  go_cut [63] (fun s63 wc => s63 = .bool (r && (!t && (n == 1 && (fs.toList == [114, 111, 98, 111, 116, 115, 46, 116, 120, 116] || fs.toList == [102, 97, 118, 105, 99, 111, 110, 46, 105, 99, 111])))) ∧ w2 = wc)
  case first =>
    as_aux_lemma =>
      cases r with
      | false =>
        go_wp2
        go_meet
        case rel => exact ⟨rfl, rfl⟩
      | true =>
        cases t with
        | true =>
          go_wp2
          go_meet
          case rel => exact ⟨rfl, rfl⟩
        | false =>
          by_cases h1 : n = 1
          · cases f1 : (fs.toList == [114, 111, 98, 111, 116, 115, 46, 116, 120, 116]) with
            | true =>
              go_wp2
              go_meet
              case rel => exact ⟨by rw [f1]; simp [h1], rfl⟩
            | false =>
              go_wp2
              go_meet
              case rel => exact ⟨by rw [f1]; simp [h1], rfl⟩
          · go_wp2
            go_meet
            case rel => exact ⟨by simp [h1], rfl⟩
  obtain ⟨hc1, hc2⟩ := hcut
  subst hc1 hc2
  cases q1 : (r && (!t && (n == 1 && (fs.toList == [114, 111, 98, 111, 116, 115, 46, 116, 120, 116] || fs.toList == [102, 97, 118, 105, 99, 111, 110, 46, 105, 99, 111])))) with
  | true =>
    go_wp2_with fail
    go_ret
    exact ⟨by rw [unhide HA', q1]; rfl, unhide HB2⟩
  | false =>
    have Q1 := hide q1
    clear q1
    go_upto_region 15 with fail
    go_cut [76] (fun s76 wc => s76 = .bool (r && (fs.toList == [46, 119, 101, 108, 108, 45, 107, 110, 111, 119, 110] && (decide (2 ≤ n) || t))) ∧ w2 = wc)
    case first =>
      as_aux_lemma =>
        cases r with
        | false =>
          go_wp2
          go_meet
          case rel => exact ⟨rfl, rfl⟩
        | true =>
          cases f1 : (fs.toList == [46, 119, 101, 108, 108, 45, 107, 110, 111, 119, 110]) with
          | false =>
            go_wp2
            go_meet
            case rel => exact ⟨by rw [f1]; simp, rfl⟩
          | true =>
            by_cases h1 : 2 ≤ n
            · go_wp2
              go_meet
              case rel => exact ⟨by rw [f1]; simp [h1], rfl⟩
            · cases t with
              | true =>
                go_wp2
                go_meet
                case rel => exact ⟨by rw [f1]; simp, rfl⟩
              | false =>
                go_wp2
                go_meet
                case rel => exact ⟨by rw [f1]; simp [h1]; omega, rfl⟩
    obtain ⟨hc1, hc2⟩ := hcut
    subst hc1 hc2
    cases q2 : (r && (fs.toList == [46, 119, 101, 108, 108, 45, 107, 110, 111, 119, 110] && (decide (2 ≤ n) || t))) with
    | true =>
      go_wp2_with fail
      go_ret
      exact ⟨by rw [unhide HA', unhide Q1, q2]; rfl, unhide HB2⟩
    | false =>
      have Q2 := hide q2
      clear q2
      cases t with
      | true =>
        go_wp2_with fail
        go_ret
        exact ⟨by rw [unhide HA', unhide Q1, unhide Q2]; rfl, unhide HB2⟩
      | false =>
        have P1 := hide (suffix20 ls ⟨#[46, 114, 115, 115]⟩ w2 (by omega) (by decide))
        have P2 := hide (suffix20 ls ⟨#[46, 120, 109, 108]⟩ w2 (by omega) (by decide))
        have P3 := hide (suffix20 ls ⟨#[46, 97, 116, 111, 109]⟩ w2 (by omega) (by decide))
        cases g1 : Lib.hasSuffix ls.data.toList [46, 114, 115, 115] with
        | true =>
          go_wp2_with fail
          refine (unhide P1).mono ?_
          rintro e wx ⟨rfl, rfl⟩
          rw [g1]
          go_wp2_with fail
          go_ret
          exact ⟨by rw [unhide HA', unhide Q1, unhide Q2, g1]; rfl, unhide HB2⟩
        | false =>
          cases g2 : Lib.hasSuffix ls.data.toList [46, 120, 109, 108] with
          | true =>
            go_wp2_with fail
            refine (unhide P1).mono ?_
            rintro e wx ⟨rfl, rfl⟩
            rw [g1]
            go_wp2_with fail
            refine (unhide P2).mono ?_
            rintro e wx ⟨rfl, rfl⟩
            rw [g2]
            go_wp2_with fail
            go_ret
            exact ⟨by rw [unhide HA', unhide Q1, unhide Q2, g1, g2]; rfl, unhide HB2⟩
          | false =>
            go_wp2_with fail
            refine (unhide P1).mono ?_
            rintro e wx ⟨rfl, rfl⟩
            rw [g1]
            go_wp2_with fail
            refine (unhide P2).mono ?_
            rintro e wx ⟨rfl, rfl⟩
            rw [g2]
            go_wp2_with fail
            refine (unhide P3).mono ?_
            rintro e wx ⟨rfl, rfl⟩
            cases g3 : Lib.hasSuffix ls.data.toList [46, 97, 116, 111, 109] with
            | true =>
              go_wp2_with fail
              go_ret
              exact ⟨by rw [unhide HA', unhide Q1, unhide Q2, g1, g2, g3]; rfl, unhide HB2⟩
            | false =>
              go_wp2_with fail
              go_ret
              exact ⟨by rw [unhide HA', unhide Q1, unhide Q2, g1, g2, g3]; rfl, unhide HB2⟩

theorem model10 (s : ByteArray) (w : World) (h : s.size ≤ 65536) : Calls Try.prog 10 #[.string s] w fun e w' => e = .returned (.bool (modelL s.data.toList)) ∧ Below w.heap.size w w' := by
  cases hf : fixedL s.data.toList with
  | false =>
    have HM : Hid (modelL s.data.toList = false) := hide (by unfold modelL; rw [if_pos (.inl hf)])
    go_enter Try.func10, Try.ntmps10
    go_wp2_with fail
    refine (fixed18 s w (by omega)).mono ?_
    rintro e w1 ⟨rfl, b1⟩
    rw [hf]
    go_wp2_with fail
    go_ret
    exact ⟨by rw [unhide HM]; rfl, b1⟩
  | true =>
    by_cases h47 : s.data.toList = [47]
    · have HM : Hid (modelL s.data.toList = false) := hide (by unfold modelL; rw [if_pos (.inr h47)])
      have e47 : (s.toList == [47]) = true := by rw [ByteArray.toList_eq, h47]; rfl
      clear h47
      go_enter Try.func10, Try.ntmps10
      go_wp2_with fail
      refine (fixed18 s w (by omega)).mono ?_
      rintro e w1 ⟨rfl, b1⟩
      rw [hf]
      go_wp2_with fail
      go_ret
      exact ⟨by rw [unhide HM]; rfl, b1⟩
    · exact model10_main s w h hf h47

theorem walk4 (s : ByteArray) (w : World) (h : s.size ≤ maxLen) : Calls Try.prog 4 #[.string s] w fun e w' => e = .returned (.bool true) ∧ Below w.heap.size w w' := by
  unfold maxLen at h
  by_cases hs : s.size ≤ 65536
  · have HL := hide (model_law s.data.toList)
    go_enter Try.func4, Try.ntmps4
    go_wp2_with fail
    refine (bytes9 s w (by unfold maxLen; exact h)).mono ?_
    rintro e w1 ⟨b, rfl, rfl⟩
    cases b with
    | false =>
      go_wp2_with fail
      go_ret
      exact ⟨rfl, Below.refl _ _⟩
    | true =>
      go_wp2_with fail
      refine (open8 s w1 (by omega)).mono ?_
      rintro e w2 ⟨rfl, b2⟩
      go_wp2_with fail
      refine (model10 s w2 hs).mono ?_
      rintro e w3 ⟨rfl, b3⟩
      rw [unhide HL]
      go_wp2_with fail
      go_ret
      refine ⟨?_, b2.trans (b3.mono b2.size)⟩
      simp
  · go_enter Try.func4, Try.ntmps4
    go_wp2_with fail
    refine (bytes9 s w (by unfold maxLen; exact h)).mono ?_
    rintro e w1 ⟨b, rfl, rfl⟩
    cases b with
    | false =>
      go_wp2_with fail
      go_ret
      exact ⟨rfl, Below.refl _ _⟩
    | true =>
      go_wp2_with fail
      go_ret
      exact ⟨rfl, Below.refl _ _⟩

end Go.Proofs.Qxb6603623a
