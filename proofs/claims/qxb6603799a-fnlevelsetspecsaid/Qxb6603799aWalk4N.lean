/-
  FnLevelSetSpec: the short ways; the walk whole.
-/
import Derived.Test.Qxb6603799aWalk4
namespace Go.Proofs.Qxb6603799a
open Go.RowKit Go.Maps

set_option maxRecDepth 100000 in
set_option maxHeartbeats 4000000 in
theorem walk4 {w : World} {a : Option Addr} {n c : Nat} {E : List Ent} (h : Ents w.heap.size w a n E) (hc : a = none → n = 0 ∧ c = 0) (hm : n ≤ maxLen)
    {ka : Option Addr} {kn kc : Nat} {L : List ByteArray} (hs : Strs w.heap.size w ka kn L) (hkc : ka = none → kn = 0 ∧ kc = 0) (hkm : kn ≤ maxLen) (rd : Int) (k : ByteArray) (hk : k.size ≤ maxLen)
    (va : Option Addr) (vn vc : Nat) (hv : Byt 0 w.heap.size w (.slice va vn vc)) (x l : Int) (fst : Bool) :
    Calls Try.prog 4 #[.slice a n c, .slice ka kn kc, .int .i64 rd, .string k, .slice va vn vc, .int .u64 x, .int .u64 l, .bool fst] w fun e w' => e = .returned (.bool true) ∧ Below w.heap.size w w' := by
  have hvm : vn ≤ maxLen := by
    obtain ⟨_, _, _, e, h1, h2, _⟩ := hv
    cases e
    omega
  by_cases h1 : n ≤ 4096
  · by_cases h2 : kn ≤ 65536
    · by_cases h3 : k.size ≤ 1048576
      · by_cases h4 : vn ≤ 1048576
        · exact walk4_main h hc h1 hs hkc h2 rd k h3 va vn vc hv h4 x l fst
        · have HB := hide (bytes10 (c := c) (kc := kc) h hm hs hkm rd k hk va vn vc hvm x l fst)
          unfold maxLen at hm hkm hk hvm
          clear h hc hs hkc hv
          go_enter Try.func4, Try.ntmps4
          go_wp2_with fail
          refine (unhide HB).mono ?_
          rintro e w0 ⟨b, rfl, hb, rfl⟩
          clear hb
          cases b with
          | false =>
            go_wp2_with fail
            go_ret
            exact ⟨rfl, Below.refl _ _⟩
          | true =>
            go_wp2_with fail
            go_ret
            exact ⟨rfl, Below.refl _ _⟩
      · have HB := hide (bytes10 (c := c) (kc := kc) h hm hs hkm rd k hk va vn vc hvm x l fst)
        unfold maxLen at hm hkm hk hvm
        clear h hc hs hkc hv
        go_enter Try.func4, Try.ntmps4
        go_wp2_with fail
        refine (unhide HB).mono ?_
        rintro e w0 ⟨b, rfl, hb, rfl⟩
        clear hb
        cases b with
        | false =>
          go_wp2_with fail
          go_ret
          exact ⟨rfl, Below.refl _ _⟩
        | true =>
          go_wp2_with fail
          go_ret
          exact ⟨rfl, Below.refl _ _⟩
    · have HB := hide (bytes10 (c := c) (kc := kc) h hm hs hkm rd k hk va vn vc hvm x l fst)
      unfold maxLen at hm hkm hk hvm
      clear h hc hs hkc hv
      go_enter Try.func4, Try.ntmps4
      go_wp2_with fail
      refine (unhide HB).mono ?_
      rintro e w0 ⟨b, rfl, hb, rfl⟩
      clear hb
      cases b with
      | false =>
        go_wp2_with fail
        go_ret
        exact ⟨rfl, Below.refl _ _⟩
      | true =>
        go_wp2_with fail
        go_ret
        exact ⟨rfl, Below.refl _ _⟩
  · have HB := hide (bytes10 (c := c) (kc := kc) h hm hs hkm rd k hk va vn vc hvm x l fst)
    unfold maxLen at hm hkm hk hvm
    clear h hc hs hkc hv
    go_enter Try.func4, Try.ntmps4
    go_wp2_with fail
    refine (unhide HB).mono ?_
    rintro e w0 ⟨b, rfl, hb, rfl⟩
    clear hb
    cases b with
    | false =>
      go_wp2_with fail
      go_ret
      exact ⟨rfl, Below.refl _ _⟩
    | true =>
      go_wp2_with fail
      go_ret
      exact ⟨rfl, Below.refl _ _⟩

end Go.Proofs.Qxb6603799a
