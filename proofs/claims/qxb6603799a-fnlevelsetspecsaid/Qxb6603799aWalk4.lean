/-
  FnLevelSetSpec: the walk.
-/
import Derived.Test.Qxb6603799aSetAll
import Derived.Deep.DeepCutAuto
namespace Go.Proofs.Qxb6603799a
open Go.RowKit Go.Maps

/-- What was cloned. -/
structure C4 (w3 : World) (a : Option Addr) (n : Nat) (F : List Ent) (ka : Option Addr) (kn kc : Nat) (xs : List Value) (v : Value) : Prop where
  ent : Ents w3.heap.size w3 a n F
  fin : ∀ f ∈ F, Fine 0 w3 f
  keys : Keys w3 ka kn kc xs
  val : Byt 0 w3.heap.size w3 v
  vsm : vlen v ≤ 1048576

theorem C4.step {w3 wr : World} {a : Option Addr} {n : Nat} {F : List Ent} {ka : Option Addr} {kn kc : Nat} {xs : List Value} {v : Value} (h : C4 w3 a n F ka kn kc xs v) (hb : Below w3.heap.size w3 wr) : C4 wr a n F ka kn kc xs v :=
  ⟨h.ent.step hb, fun f hf => (h.fin f hf).step hb, h.keys.step hb, h.val.step hb, h.vsm⟩

theorem grown_drew (w : World) : w.grownBy w.drew none := ⟨rfl, rfl, rfl, Nat.le_refl _, fun _ _ _ => rfl⟩

set_option maxRecDepth 100000 in
set_option maxHeartbeats 16000000 in
theorem walk4_main {w : World} {a : Option Addr} {n c : Nat} {E : List Ent} (h : Ents w.heap.size w a n E) (hc : a = none → n = 0 ∧ c = 0) (hn : n ≤ 4096)
    {ka : Option Addr} {kn kc : Nat} {L : List ByteArray} (hs : Strs w.heap.size w ka kn L) (hkc : ka = none → kn = 0 ∧ kc = 0) (hkn : kn ≤ 65536) (rd : Int) (k : ByteArray) (hk : k.size ≤ 1048576)
    (va : Option Addr) (vn vc : Nat) (hv : Byt 0 w.heap.size w (.slice va vn vc)) (hvn : vn ≤ 1048576) (x l : Int) (fst : Bool) :
    Calls Try.prog 4 #[.slice a n c, .slice ka kn kc, .int .i64 rd, .string k, .slice va vn vc, .int .u64 x, .int .u64 l, .bool fst] w fun e w' => e = .returned (.bool true) ∧ Below w.heap.size w w' := by
  have hmm := @run_makeMap Try.prog
  have H := hide (And.intro h (And.intro hc (And.intro hs (And.intro hkc hv))))
  have HB10 := hide (bytes10 (c := c) (kc := kc) h (by unfold maxLen; omega) hs (by unfold maxLen; omega) rd k (by unfold maxLen; omega) va vn vc (by unfold maxLen; omega) x l fst)
  clear h hc hs hkc hv
  go_enter Try.func4, Try.ntmps4
  go_wp2_with fail
  refine (unhide HB10).mono ?_
  rintro e w0 ⟨b, rfl, hb, rfl⟩
  cases b with
  | false =>
    go_wp2_with fail
    go_ret
    exact ⟨rfl, Below.refl _ _⟩
  | true =>
    as_aux_lemma =>
      have HS := hide (hb rfl).2
      clear hb HB10
      go_wp2_with fail
      refine (sum11 (unhide H).1 hn (unhide HS)).mono ?_
      rintro e w1 ⟨z, rfl, hz, b1⟩
      have HB1 := hide b1
      clear b1
      by_cases hz1 : z ≤ 1048576
      · go_wp2_with fail
        refine (sum12 ((unhide H).2.2.1.step (unhide HB1)) hkn).mono ?_
        rintro e wx ⟨z2, rfl, hz2, rfl⟩
        by_cases hz3 : z + z2 ≤ 1048576
        · by_cases hz4 : z + z2 + (k.size + vn) ≤ 1048576
          · go_wp2_with fail
            refine (cloneE13 ((unhide H).1.step (unhide HB1)) (unhide H).2.1 hn (unhide HS)).mono ?_
            rintro e w2 ⟨a', c', F, rfl, hfine, hents, b2⟩
            have hFl : F.length = n := hents.len
            have HB2 := hide (Below.trans' (unhide HB1) b2)
            have HF := hide (And.intro hents (fun f hf => (hfine f hf).low (Nat.zero_le _)))
            clear hfine hents b2 HS HB1
            go_wp2_with fail
            refine (cloneS14 ((unhide H).2.2.1.step (unhide HB2)) (unhide H).2.2.2.1 hkn).mono ?_
            rintro e w2' ⟨ka', kc', xs, rfl, hkeys, b3⟩
            have HB3 := hide (Below.trans' (unhide HB2) b3)
            have HF3 := hide (And.intro ((unhide HF).1.step b3) (And.intro (fun f hf => ((unhide HF).2 f hf).step b3) hkeys))
            clear hkeys b3 HB2 HF
            go_wp2_with fail
            refine (clone8 ((unhide H).2.2.2.2.step (unhide HB3)) hvn).mono ?_
            rintro e w3 ⟨v', rfl, hv1, hv2, b4⟩
            have HB4 := hide (Below.trans' (unhide HB3) b4)
            have HC : Hid (C4 w3 a' n F ka' kn kc' xs v') := hide ⟨(unhide HF3).1.step b4, fun f hf => ((unhide HF3).2.1 f hf).step b4, (unhide HF3).2.2.step b4, hv1.mono (Nat.zero_le _) (Nat.le_refl _), hv2⟩
            obtain ⟨va', vn', vc', hv', _⟩ := hv1
            subst hv'
            have hvn' : vn' ≤ 1048576 := hv2
            clear hv2 b4 HB3 HF3 H
            as_aux_lemma =>
              have HM := hide (And.intro (World.ownsMap_made w3 Try.prog 9 heldElem) ((Below.refl w3.heap.size w3).alloc (Nat.le_refl _) (.map #[] 0)))
              go_wp2_with fail
              go_loopw [19] (fun i wr => ∃ q : Nat, q ≤ n ∧ i = .int .i64 q ∧ Hid (wr.ownsMap Try.prog 9 heldElem w3.heap.size q (mapP F q) ∧ Below w3.heap.size w3 wr)) (fun i _ => n - (intOf i).toNat)
              case atStart => exact ⟨0, Nat.zero_le _, rfl, HM⟩
              case round =>
                clear HM
                obtain ⟨q, hq, rfl, HW⟩ := hrel
                by_cases hlt : q < n
                ·
                  as_aux_lemma =>
                    have HCr := hide ((unhide HC).step (unhide HW).2)
                    obtain ⟨b, off, e, rfl, hbw, he, c0, c1, c2, c3⟩ := (unhide HCr).ent.get hlt
                    obtain ⟨ea, en, ec, hev, _⟩ := ((unhide HCr).fin e (List.mem_of_getElem? he)).1
                    have hks : e.key.size ≤ maxLen := (unhide HCr).ent.key e (List.mem_of_getElem? he)
                    have HE : Hid (mapP F (q + 1) = (mapP F q).put (.string e.key.data.toList) (.held (itemV (.slice ea en ec) e.idx e.lease))) := hide (by rw [mapP_succ he, ← hev]; rfl)
                    rw [hev] at c1
                    obtain ⟨w6, hrun, hown6, hgrow6⟩ := (unhide HW).1.drew.update (val := itemV (.slice ea en ec) e.idx e.lease) keyed9 Try.underlying35 (by unfold maxLen; omega) (WideMaps.keyOf_string_mk (P := Try.prog) Try.underlying9 hks) rfl
                    have hfin := hide (And.intro hown6 hgrow6)
                    unfold itemV at hrun
                    clear he hev hown6 hgrow6 HCr hks
                    go_wp2_with fail
                    obtain ⟨wq, hwq⟩ : ∃ wq : World, wq = wr := ⟨_, rfl⟩
                    subst hwq
                    have i1 : (0 : Int) ≤ q := by omega
                    have i2 : (q : Int) < n := by omega
                    refine wp_region_still_tail 22 (by kernel_rfl) (by kernel_rfl) ?_
                    simp only [List.take_succ_cons, List.take_zero, List.drop_succ_cons, List.drop_zero]
                    change wpStill _ _ wq.drew (fun a' => wpList _ _ _ _ a' wq.drew) _ _
                    still_step
                    still_step
                    still_step
                    still_step
                    still_step
                    still_step
                    still_step
                    still_step
                    still_step
                    still_step
                    still_step
                    still_step
                    still_step
                    still_step
                    still_step
                    still_step
                    still_step
                    still_step
                    still_step
                    still_step
                    still_step
                    still_step
                    refine wpStill_nil ?_
                    have HW6 : Hid (w6.ownsMap Try.prog 9 heldElem w3.heap.size (q + 1) (mapP F (q + 1)) ∧ Below w3.heap.size w3 w6) := hide ⟨by rw [unhide HE]; exact (unhide hfin).1, ((unhide HW).2.drew).grown (unhide hfin).2 (unhide HW).2.size (fun j hj => by cases hj; exact Nat.le_refl _)⟩
                    clear HW hfin HE
                    go_wp2_with fail
                    go_roundw
                    case rel => exact ⟨q + 1, by omega, by go_num, HW6⟩
                    case measure => simp [intOf]; omega
                · have hqn : n = q := by omega
                  as_aux_lemma =>
                    subst hqn
                    obtain ⟨wq, hwq⟩ : ∃ wq : World, wq = wr := ⟨_, rfl⟩
                    subst hwq
                    clear hmm
                    obtain ⟨was, hwas⟩ : ∃ b, has (mapP F n) (.string k.data.toList) = b := ⟨_, rfl⟩
                    have HWas := hide hwas
                    clear hwas
                    go_upto_region 28 with fail
                    go_cut [20] (fun s20 wc => s20 = .bool was ∧ wq = wc)
                    case first =>
                      as_aux_lemma =>
                        have HWS := hide ((was_mapP F k.data.toList n (by omega)).trans (unhide HWas))
                        go_wp2_with fail
                        refine (last15 ((unhide HC).step (unhide HW).2).ent (by omega) k).mono ?_
                        rintro e wx' ⟨rfl, rfl⟩
                        go_wp2
                        go_meet
                        case rel => exact ⟨by rw [← unhide HWS], rfl⟩
                    obtain ⟨hc1, hc2⟩ := hcut
                    subst hc1 hc2
                    as_aux_lemma =>
                      clear hq hlt
                      go_wp2_with fail
                      go_loopw [21, 22] (fun s i wr => ∃ q : Nat, q ≤ n ∧ i = .int .i64 q ∧ s = .int .i64 (cntP (keysL F) allB q) ∧ Hid (wr.ownsMap Try.prog 9 heldElem w3.heap.size n (mapP F n) ∧ Below w3.heap.size w3 wr)) (fun _ i _ => n - (intOf i).toNat)
                      case atStart => exact ⟨0, Nat.zero_le _, rfl, rfl, HW⟩
                      case round =>
                        clear HW
                        obtain ⟨q, hq, rfl, rfl, HW⟩ := hrel
                        have hcl := cntP_le (keysL F) allB q
                        by_cases hlt : q < n
                        ·
                          as_aux_lemma =>
                            obtain ⟨e, he⟩ : ∃ e, F[q]? = some e := ⟨_, List.getElem?_eq_getElem (by omega)⟩
                            have HE := hide he
                            have HN := hide (cntP_succ (p := allB) (keysL_get he))
                            clear he
                            go_wp2_with fail
                            refine (first16 ((unhide HC).step (unhide HW).2).ent (by omega) hlt (unhide HE)).mono ?_
                            rintro e' w5 ⟨rfl, b5⟩
                            have HW5 : Hid (w5.ownsMap Try.prog 9 heldElem w3.heap.size n (mapP F n) ∧ Below w3.heap.size w3 w5) := hide ⟨(unhide HW).1.kept (grown_of_below b5) (by simp), (unhide HW).2.trans (b5.mono (unhide HW).2.size)⟩
                            clear HW b5
                            cases hfe : firstE F q e.key.data.toList with
                            | true =>
                              have HN' : Hid (cntP (keysL F) allB (q + 1) = cntP (keysL F) allB q + 1) := hide (by
                                rw [unhide HN]
                                have : (!((keysL F).take q).any (· == e.key.data.toList)) = true := hfe
                                rw [this]; rfl)
                              go_wp2_with fail
                              go_roundw
                              case rel => exact ⟨q + 1, by omega, by go_num, by rw [unhide HN']; go_num, HW5⟩
                              case measure => simp [intOf]; omega
                            | false =>
                              have HN' : Hid (cntP (keysL F) allB (q + 1) = cntP (keysL F) allB q) := hide (by
                                rw [unhide HN]
                                have : (!((keysL F).take q).any (· == e.key.data.toList)) = false := hfe
                                rw [this]; rfl)
                              go_wp2_with fail
                              go_roundw
                              case rel => exact ⟨q + 1, by omega, by go_num, by rw [unhide HN'], HW5⟩
                              case measure => simp [intOf]; omega
                        · have hqn : n = q := by omega
                          as_aux_lemma =>
                            subst hqn
                            go_wp2_with fail
                            refine (new17 (unhide HW).1 ka' kn kc' rd).mono ?_
                            rintro e w4 ⟨lb, rfl, hlb, hlev, b4⟩
                            have HL := hide (And.intro hlev ((unhide HW).2.trans (b4.mono (unhide HW).2.size)))
                            have hlb3 : w3.heap.size ≤ lb := Nat.le_trans (unhide HW).2.size hlb
                            clear hlev b4 HW hlb hq hlt
                            have HSET := hide (set18_all (unhide HL).1 (by omega) ((unhide HC).step (unhide HL).2).keys (by omega)
                              (fun g hg => by
                                rcases (unhide HC).keys.shape with ⟨h0, _⟩ | ⟨g', h1, _, h3, _⟩
                                · rw [h0] at hg; cases hg
                                · rw [h1] at hg
                                  injection hg with hg
                                  injection hg with hg
                                  omega) k (by unfold maxLen; omega) va' vn' vc' x l fst
                              (fun hh => by
                                rcases lastE_spec F k.data.toList n (by omega) with ⟨h1, _⟩ | ⟨j, ej, h1, h2, h3, h4, h5⟩
                                · rw [(mapP_spec F k.data.toList n (by omega)).1 h1] at hh; cases hh
                                · obtain ⟨ua, un, uc, hu, _⟩ := ((unhide HC).fin ej (List.mem_of_getElem? h3)).1
                                  refine ⟨ua, un, uc, ej.idx, ej.lease, ?_⟩
                                  rw [((mapP_spec F k.data.toList n (by omega)).2 j ej h2 h3).2, itemE, hu]))
                            go_wp2_with fail
                            refine (unhide HSET).mono ?_
                            rintro e w5 ⟨rfl, ⟨ga, gc, l5, got5⟩, b5⟩
                            as_aux_lemma =>
                              rw [unhide HWas] at l5 got5
                              obtain ⟨gone, hgone⟩ : ∃ g, (fst && (x == 0)) = g := ⟨_, rfl⟩
                              rw [hgone] at l5
                              have HGone := hide hgone
                              have HS5 : Hid (Lev w5 lb w3.heap.size (.slice ga (newK fst was xs k).length gc) rd (n + 1) (newD gone (mapP F n) k.data.toList (.slice va' vn' vc') x l) ∧ Got w5 ga (newK fst was xs k) ∧ Below w3.heap.size w3 w5) := hide ⟨l5, got5, (unhide HL).2.trans (b5.below (unhide HL).2.size hlb3 (Nat.le_refl _))⟩
                              clear l5 got5 b5 HL HSET hgone
                              have hyn : (newK fst was xs k).length ≤ 65537 := by
                                have := (unhide HC).keys.len
                                unfold newK
                                split
                                · simp; omega
                                · omega
                              generalize hys : newK fst was xs k = ys at *
                              have HYs := hide hys
                              clear hys
                              generalize hmb : w3.heap.size = mb at *
                              have HMb := hide hmb
                              clear hmb
                              go_wp2_with fail
                              refine (items19 (unhide HS5).1).mono ?_
                              rintro e wx' ⟨rfl, rfl⟩
                              go_wp2_with fail
                              refine (keys20 (unhide HS5).1).mono ?_
                              rintro e wx' ⟨rfl, rfl⟩
                              go_wp2_with fail
                              refine (readers21 (unhide HS5).1).mono ?_
                              rintro e wx' ⟨rfl, rfl⟩
                              obtain ⟨w5, hw5⟩ : ∃ w5 : World, w5 = wx' := ⟨_, rfl⟩
                              subst hw5
                              go_upto_region 41 with fail
                              go_cut [26] (fun s26 wc => s26 = .bool gone ∧ w5 = wc)
                              case first =>
                                as_aux_lemma =>
                                  cases fst with
                                  | true =>
                                    go_wp2
                                    go_meet
                                    case rel => exact ⟨by rw [← unhide HGone]; rfl, rfl⟩
                                  | false =>
                                    go_wp2
                                    go_meet
                                    case rel => exact ⟨by rw [← unhide HGone]; rfl, rfl⟩
                              obtain ⟨hc1, hc2⟩ := hcut
                              subst hc1 hc2
                              as_aux_lemma =>
                                have hcl := cntP_le (keysL F) allB n
                                go_upto_region 43 with fail
                                go_cut [156] (fun s156 wc => s156 = .bool (gone && was) ∧ w5 = wc)
                                case first =>
                                  as_aux_lemma =>
                                    cases gone with
                                    | false =>
                                      go_wp2
                                      go_meet
                                      case rel => exact ⟨rfl, rfl⟩
                                    | true =>
                                      go_wp2
                                      go_meet
                                      case rel => exact ⟨rfl, rfl⟩
                                obtain ⟨hc1, hc2⟩ := hcut
                                subst hc1 hc2
                                as_aux_lemma =>
                                  go_upto_if 156 with fail
                                  go_cut [27] (fun s27 wc => ∃ d1 : Int, s27 = .int .i64 d1 ∧ Hid (d1 = (cntP (keysL F) allB n : Int) - (if (gone && was) = true then 1 else 0)) ∧ -1 ≤ d1 ∧ d1 ≤ 4096 ∧ w5 = wc)
                                  case first =>
                                    as_aux_lemma =>
                                      cases hgw : (gone && was) with
                                      | false =>
                                        go_wp2
                                        go_meet
                                        case rel => exact ⟨_, rfl, hide (by rw [hgw]; simp), by omega, by omega, rfl⟩
                                      | true =>
                                        go_wp2
                                        go_meet
                                        case rel => exact ⟨_, rfl, hide (by rw [hgw]; simp), by omega, by omega, rfl⟩
                                  obtain ⟨d1, hc1, HD1, hd1, hd2, hc2⟩ := hcut
                                  subst hc1 hc2
                                  as_aux_lemma =>
                                    go_upto_region 45 with fail
                                    go_cut [164] (fun s164 wc => s164 = .bool (!gone && !was) ∧ w5 = wc)
                                    case first =>
                                      as_aux_lemma =>
                                        cases gone with
                                        | false =>
                                          go_wp2
                                          go_meet
                                          case rel => exact ⟨rfl, rfl⟩
                                        | true =>
                                          go_wp2
                                          go_meet
                                          case rel => exact ⟨rfl, rfl⟩
                                    obtain ⟨hc1, hc2⟩ := hcut
                                    subst hc1 hc2
                                    as_aux_lemma =>
                                      go_upto_if 164 with fail
                                      go_cut [27] (fun s27 wc => s27 = .int .i64 (wantI (cntP (keysL F) allB n) gone was) ∧ w5 = wc)
                                      case first =>
                                        as_aux_lemma =>
                                          have HWI : Hid (wantI (cntP (keysL F) allB n) gone was = d1 + (if (!gone && !was) = true then 1 else 0)) := hide (by rw [unhide HD1]; rfl)
                                          cases hgw : (!gone && !was) with
                                          | false =>
                                            rw [hgw] at HWI
                                            go_wp2
                                            go_meet
                                            case rel => exact ⟨by rw [unhide HWI]; simp, rfl⟩
                                          | true =>
                                            rw [hgw] at HWI
                                            go_wp2
                                            go_meet
                                            case rel => exact ⟨by rw [unhide HWI]; simp, rfl⟩
                                      obtain ⟨hc1, hc2⟩ := hcut
                                      subst hc1 hc2
                                      as_aux_lemma =>
                                        have HSZ : Hid ((size (newD gone (mapP F n) k.data.toList (.slice va' vn' vc') x l) : Int) = wantI (cntP (keysL F) allB n) gone was) := hide (by rw [size_newD (tidy_mapP F n), unhide HWas, size_mapP F n (by omega)])
                                        clear HD1 hd1 hd2 d1
                                        generalize wantI (cntP (keysL F) allB n) gone was = wi at *
                                        have hlen := fun ty => (unhide HS5).1.map.len Try.underlying35 ty
                                        rw [unhide HSZ] at hlen
                                        go_upto_region 49 with fail
                                        clear hlen HSZ
                                        go_cut [28, 29] (fun s28 s29 wc => ∃ gb, s28 = .pointer (some ⟨gb, 0, none⟩) ∧ s29 = .bool (!gone) ∧ Hid (Below w5.heap.size w5 wc) ∧ Hid (gone = false → gb < wc.heap.size ∧ wc.cell? ⟨gb, 0, none⟩ = some (.slice va' vn' vc') ∧ wc.cell? ⟨gb, 1, none⟩ = some (.int .u64 x) ∧ wc.cell? ⟨gb, 2, none⟩ = some (.int .u64 l)))
                                        case first =>
                                          as_aux_lemma =>
                                            cases gone with
                                            | false =>
                                              have hlook := lookI (unhide HS5).1.map (k := k) (by unfold maxLen; omega) (at_newD_same (tidy_mapP F n) _ _ _ _ _)
                                              rw [has_newD_same (tidy_mapP F n)] at hlook
                                              unfold itemV at hlook
                                              go_wp2
                                              go_meet
                                              case rel =>
                                                obtain ⟨g0, g1, g2⟩ := box39_cells w5 (.slice va' vn' vc') (.int .u64 x) (.int .u64 l)
                                                exact ⟨_, rfl, rfl, hide ((Below.refl _ _).alloc (Nat.le_refl _) _), hide (fun _ => ⟨by simp, g0, g1, g2⟩)⟩
                                            | true =>
                                              have hlook := lookI (unhide HS5).1.map (k := k) (by unfold maxLen; omega) (at_newD_gone _ _ _ _ _ _)
                                              rw [has_newD_same (tidy_mapP F n)] at hlook
                                              unfold zeroI at hlook
                                              go_wp2
                                              go_meet
                                              case rel => exact ⟨_, rfl, rfl, hide ((Below.refl _ _).alloc (Nat.le_refl _) _), hide (fun h => by cases h)⟩
                                        obtain ⟨gb, hc1, hc2, HB6, HGB⟩ := hcut
                                        subst hc1 hc2
                                        as_aux_lemma =>
                                          have HS6 : Hid (Lev wc lb mb (.slice ga ys.length gc) rd (n + 1) (newD gone (mapP F n) k.data.toList (.slice va' vn' vc') x l) ∧ Got wc ga ys ∧ Below mb w3 wc) := hide ⟨(unhide HS5).1.kept (grown_of_below (unhide HB6)), (unhide HS5).2.1.step (unhide HB6), (unhide HS5).2.2.trans ((unhide HB6).mono (by rw [← unhide HMb]; have := (unhide HS5).2.2.size; omega))⟩
                                          clear HS5 HB6
                                          obtain ⟨w6, hw6⟩ : ∃ w6 : World, w6 = wc := ⟨_, rfl⟩
                                          subst hw6
                                          go_upto_if 177 with fail
                                          go_cut [] (fun wc => Hid (Below w6.heap.size w6 wc))
                                          case first =>
                                            as_aux_lemma =>
                                              cases gone with
                                              | true =>
                                                go_wp2
                                                go_meet
                                                case rel => exact hide (Below.refl _ _)
                                              | false =>
                                                obtain ⟨hgs, g0, g1, g2⟩ := unhide HGB rfl
                                                have hby : Hid (Byt 0 w6.heap.size w6 (.slice va' vn' vc')) := hide (((unhide HC).step (by rw [unhide HMb]; exact (unhide HS6).2.2)).val)
                                                go_wp2_with fail
                                                refine (same22 (unhide hby) hvn' x l).mono ?_
                                                rintro e w8 ⟨rfl, b8⟩
                                                have HB8 := hide b8
                                                clear b8 g0 g1 g2
                                                go_wp2
                                                go_meet
                                                case rel => exact HB8
                                          as_aux_lemma =>
                                            have HS7 : Hid (Lev wc lb mb (.slice ga ys.length gc) rd (n + 1) (newD gone (mapP F n) k.data.toList (.slice va' vn' vc') x l) ∧ Got wc ga ys ∧ Below mb w3 wc) := hide ⟨(unhide HS6).1.kept (grown_of_below (unhide hcut)), (unhide HS6).2.1.step (unhide hcut), (unhide HS6).2.2.trans ((unhide hcut).mono (by rw [← unhide HMb]; have := (unhide HS6).2.2.size; omega))⟩
                                            clear HS6 hcut HGB
                                            go_wp2_with fail
                                            go_loopw [30, 31, 32, 33, 34] (fun i _ _ _ _ wr => ∃ q : Nat, q ≤ n ∧ i = .int .i64 q ∧ Hid (Lev wr lb mb (.slice ga ys.length gc) rd (n + 1) (newD gone (mapP F n) k.data.toList (.slice va' vn' vc') x l) ∧ Got wr ga ys ∧ Below mb w3 wr)) (fun i _ _ _ _ _ => n - (intOf i).toNat)
                                            case atStart => exact ⟨0, Nat.zero_le _, rfl, HS7⟩
                                            case round =>
                                              clear HS7
                                              obtain ⟨q, hq, rfl, HW⟩ := hrel
                                              by_cases hlt : q < n
                                              ·
                                                as_aux_lemma =>
                                                  have HCr := hide ((unhide HC).step (by rw [unhide HMb]; exact (unhide HW).2.2))
                                                  obtain ⟨b, off, e, rfl, hbw, he, c0, c1, c2, c3⟩ := (unhide HCr).ent.get hlt
                                                  have hks : e.key.size ≤ maxLen := (unhide HCr).ent.key e (List.mem_of_getElem? he)
                                                  have HE := hide he
                                                  clear he c1 c2 c3
                                                  have HK : Hid ((e.key.data.toList == k.data.toList) = (e.key.toList == k.toList)) := hide (by rw [ByteArray.toList_eq, ByteArray.toList_eq])
                                                  cases hke : (e.key.toList == k.toList) with
                                                  | true =>
                                                    go_wp2_with fail
                                                    go_roundw
                                                    case rel => exact ⟨q + 1, by omega, by go_num, HW⟩
                                                    case measure => simp [intOf]; omega
                                                  | false =>
                                                    obtain ⟨j, ej, hj1, hj2, hj3, hj4, hj5⟩ := round4 hFl hlt (unhide HE) gone (k := k.data.toList) (fun h => by have := (unhide HK).trans hke; rw [h] at this; simp at this) (.slice va' vn' vc') x l
                                                    have HJ1 := hide hj1
                                                    have HJ3 := hide hj3
                                                    have HJ4 := hide hj4
                                                    have HJ5 := hide hj5
                                                    clear hj1 hj3 hj4 hj5
                                                    go_wp2_with fail
                                                    refine (first16 (unhide HCr).ent (by omega) hlt (unhide HE)).mono ?_
                                                    rintro e' w8 ⟨rfl, b8⟩
                                                    have HC8 := hide ((unhide HCr).step b8)
                                                    have HW8 : Hid (Lev w8 lb mb (.slice ga ys.length gc) rd (n + 1) (newD gone (mapP F n) k.data.toList (.slice va' vn' vc') x l) ∧ Got w8 ga ys ∧ Below mb w3 w8) := hide ⟨(unhide HW).1.kept (grown_of_below b8), (unhide HW).2.1.step b8, (unhide HW).2.2.trans (b8.mono (by rw [← unhide HMb]; have := (unhide HW).2.2.size; omega))⟩
                                                    clear HCr HW b8 c0
                                                    cases hfe : firstE F q e.key.data.toList with
                                                    | false =>
                                                      go_wp2_with fail
                                                      go_roundw
                                                      case rel => exact ⟨q + 1, by omega, by go_num, HW8⟩
                                                      case measure => simp [intOf]; omega
                                                    | true =>
                                                      go_wp2_with fail
                                                      refine (last15 (unhide HC8).ent (by omega) e.key).mono ?_
                                                      rintro e' w9 ⟨rfl, rfl⟩
                                                      rw [unhide HJ1]
                                                      obtain ⟨b2, off2, ej', hab, hbw2, hej, d0, d1, d2, d3⟩ := (unhide HC8).ent.get hj2
                                                      injection hab with hab
                                                      injection hab with hab1 hab2
                                                      subst hab1 hab2
                                                      rw [unhide HJ3] at hej
                                                      injection hej with hej
                                                      subst hej
                                                      have hfi := (unhide HC8).fin ej (List.mem_of_getElem? (unhide HJ3))
                                                      obtain ⟨ua, un, uc, hv, _⟩ := hfi.1
                                                      have x3 := unhide HJ5
                                                      unfold itemE itemV at x3
                                                      rw [hv] at x3 d1
                                                      have hlook := lookI (unhide HW8).1.map hks x3
                                                      rw [unhide HJ4] at hlook
                                                      have HFI := hide hfi
                                                      have HV := hide hv
                                                      clear x3 d0 hfi hv
                                                      go_wp2_with fail
                                                      have hb7 : Below w9.heap.size w9 (w9.alloc (.cells #[.slice ua un uc, .int .u64 ej.idx, .int .u64 ej.lease] 39)) := (Below.refl _ _).alloc (Nat.le_refl _) _
                                                      obtain ⟨g0, g1, g2⟩ := box39_cells w9 (.slice ua un uc) (.int .u64 ej.idx) (.int .u64 ej.lease)
                                                      have HW7 : Hid (Lev (w9.alloc (.cells #[.slice ua un uc, .int .u64 ej.idx, .int .u64 ej.lease] 39)) lb mb (.slice ga ys.length gc) rd (n + 1) (newD gone (mapP F n) k.data.toList (.slice va' vn' vc') x l) ∧ Got (w9.alloc (.cells #[.slice ua un uc, .int .u64 ej.idx, .int .u64 ej.lease] 39)) ga ys ∧ Below mb w3 (w9.alloc (.cells #[.slice ua un uc, .int .u64 ej.idx, .int .u64 ej.lease] 39))) := hide ⟨(unhide HW8).1.kept (grown_of_below hb7), (unhide HW8).2.1.step hb7, (unhide HW8).2.2.trans (hb7.mono (by rw [← unhide HMb]; have := (unhide HW8).2.2.size; omega))⟩
                                                      have HFI7 := hide ((unhide HFI).step hb7)
                                                      have s1 := (hb7.cell (p := ⟨b, off + j * 4 + 1, none⟩) (by exact hbw2)).trans d1
                                                      have s2 := (hb7.cell (p := ⟨b, off + j * 4 + 2, none⟩) (by exact hbw2)).trans d2
                                                      have s3 := (hb7.cell (p := ⟨b, off + j * 4 + 3, none⟩) (by exact hbw2)).trans d3
                                                      have hbs : b < (w9.alloc (.cells #[.slice ua un uc, .int .u64 ej.idx, .int .u64 ej.lease] 39)).heap.size := by simp; omega
                                                      have hgs : w9.heap.size < (w9.alloc (.cells #[.slice ua un uc, .int .u64 ej.idx, .int .u64 ej.lease] 39)).heap.size := by simp
                                                      clear hb7 HFI HW8 HC8 d1 d2 d3 hlook hbw2
                                                      generalize w9.alloc (.cells #[.slice ua un uc, .int .u64 ej.idx, .int .u64 ej.lease] 39) = w7 at *
                                                      generalize w9.heap.size = gb2 at *
                                                      have hby : Hid (Byt 0 w7.drew.heap.size w7.drew (.slice ua un uc)) := hide (by rw [← unhide HV]; exact (unhide HFI7).1)
                                                      have hsm : Hid (vlen (.slice ua un uc) ≤ 1048576) := hide (by rw [← unhide HV]; exact (unhide HFI7).2.1)
                                                      go_region_held3 (fun w' => w'.cell? ⟨b, off + j * 4 + 1, none⟩ = some (.slice ua un uc) ∧ w'.cell? ⟨b, off + j * 4 + 2, none⟩ = some (.int .u64 ej.idx) ∧ w'.cell? ⟨b, off + j * 4 + 3, none⟩ = some (.int .u64 ej.lease) ∧ w'.cell? ⟨gb2, 0, none⟩ = some (.slice ua un uc) ∧ w'.cell? ⟨gb2, 1, none⟩ = some (.int .u64 ej.idx) ∧ w'.cell? ⟨gb2, 2, none⟩ = some (.int .u64 ej.lease))
                                                        (first | go_keep | (refine ⟨(hb8.cell (by exact hbs)).trans s1, (hb8.cell (by exact hbs)).trans s2, (hb8.cell (by exact hbs)).trans s3, (hb8.cell (by exact hgs)).trans g0, (hb8.cell (by exact hgs)).trans g1, (hb8.cell (by exact hgs)).trans g2⟩))
                                                        (first | (go_at_call 22; refine (same22 (unhide hby) (unhide hsm) ej.idx ej.lease).mono ?_; rintro e' w8 ⟨rfl, hb8⟩))
                                                      have hb8' : Below w7.heap.size w7 w8 := ⟨hb8.os, hb8.tape, hb8.output, hb8.size, hb8.block⟩
                                                      have HWF : Hid (Lev w8 lb mb (.slice ga ys.length gc) rd (n + 1) (newD gone (mapP F n) k.data.toList (.slice va' vn' vc') x l) ∧ Got w8 ga ys ∧ Below mb w3 w8) := hide ⟨(unhide HW7).1.kept (grown_of_below hb8'), (unhide HW7).2.1.step hb8', (unhide HW7).2.2.trans (hb8'.mono (by rw [← unhide HMb]; have := (unhide HW7).2.2.size; omega))⟩
                                                      clear s1 s2 s3 g0 g1 g2 hb8 hb8' HW7 HFI7
                                                      go_wp2_with fail
                                                      go_roundw
                                                      case rel => exact ⟨q + 1, by omega, by go_num, HWF⟩
                                                      case measure => simp [intOf]; omega
                                              · have hqn : n = q := by omega
                                                as_aux_lemma =>
                                                  subst hqn
                                                  obtain ⟨w7, hw7⟩ : ∃ w7 : World, w7 = wr := ⟨_, rfl⟩
                                                  subst hw7
                                                  clear hq hlt
                                                  go_upto_region 64 with fail
                                                  go_cut [245] (fun s245 wc => s245 = .bool (!fst && !was) ∧ w7 = wc)
                                                  case first =>
                                                    as_aux_lemma =>
                                                      cases fst with
                                                      | false =>
                                                        go_wp2
                                                        go_meet
                                                        case rel => exact ⟨rfl, rfl⟩
                                                      | true =>
                                                        go_wp2
                                                        go_meet
                                                        case rel => exact ⟨rfl, rfl⟩
                                                  obtain ⟨hc1, hc2⟩ := hcut
                                                  subst hc1 hc2
                                                  as_aux_lemma =>
                                                    go_upto_if 245 with fail
                                                    go_cut [] (fun wc => w7 = wc)
                                                    case first =>
                                                      as_aux_lemma =>
                                                        have hxl := (unhide HC).keys.len
                                                        cases hfw : (!fst && !was) with
                                                        | false =>
                                                          have hyl : ys.length = kn := by
                                                            rw [← unhide HYs, ← hxl]
                                                            unfold newK
                                                            rw [hfw]; simp
                                                          have y1 : ys.length ≤ kn := Nat.le_of_eq hyl
                                                          have y2 : kn ≤ ys.length := Nat.le_of_eq hyl.symm
                                                          clear hyl hxl
                                                          go_wp2
                                                          go_meet
                                                          case rel => rfl
                                                        | true =>
                                                          have hyy : ys = xs ++ [.string k] := by
                                                            rw [← unhide HYs]
                                                            unfold newK
                                                            rw [hfw]; simp
                                                          have hyl : ys.length = kn + 1 := by rw [hyy, ← hxl]; simp
                                                          rcases (unhide HW).2.1.cell with h0 | ⟨g, rfl, hg1, hg2⟩
                                                          · omega
                                                          have c0 := hg2 kn (.string k) (by rw [hyy, ← hxl, List.getElem?_append_right (Nat.le_refl _), Nat.sub_self]; rfl)
                                                          have y1 : ys.length ≤ kn + 1 := Nat.le_of_eq hyl
                                                          have y2 : kn + 1 ≤ ys.length := Nat.le_of_eq hyl.symm
                                                          clear hg2 hyy hyl hxl
                                                          go_wp2
                                                          go_meet
                                                          case rel => rfl
                                                    as_aux_lemma =>
                                                      subst hcut
                                                      go_wp2_with fail
                                                      go_loopw [35] (fun i wr => ∃ q : Nat, q ≤ kn ∧ i = .int .i64 q ∧ Hid (Below w7.heap.size w7 wr)) (fun i _ => kn - (intOf i).toNat)
                                                      case atStart => exact ⟨0, Nat.zero_le _, rfl, hide (Below.refl _ _)⟩
                                                      case round =>
                                                        obtain ⟨q, hq, rfl, HV⟩ := hrel
                                                        by_cases hlt : q < kn
                                                        ·
                                                          as_aux_lemma =>
                                                            have hxl := (unhide HC).keys.len
                                                            obtain ⟨u, hu⟩ : ∃ u, xs[q]? = some u := ⟨_, List.getElem?_eq_getElem (by omega)⟩
                                                            obtain ⟨s, rfl⟩ := (unhide HC).keys.str u (List.mem_of_getElem? hu)
                                                            have hyu := newK_get (unhide HYs) hu
                                                            have hyl : q < ys.length := (List.getElem?_eq_some_iff.1 hyu).1
                                                            have HCr := hide (((unhide HC).step (by rw [unhide HMb]; exact (unhide HW).2.2)).keys.step (unhide HV))
                                                            have HGr := hide ((unhide HW).2.1.step (unhide HV))
                                                            rcases (unhide HCr).shape with ⟨_, h0, _⟩ | ⟨g1, rfl, _, hg1, hc1⟩
                                                            · omega
                                                            rcases (unhide HGr).cell with h0 | ⟨g2, rfl, hg2, hc2⟩
                                                            · omega
                                                            have d1 := hc1 q _ hu
                                                            have d2 := hc2 q _ hyu
                                                            clear hc1 hc2 hxl hu hyu HCr HGr
                                                            go_wp2_with fail
                                                            go_quiet (fail)
                                                            go_wp2_with fail
                                                            go_roundw
                                                            case rel => exact ⟨q + 1, by omega, by go_num, hide (below_drewN (unhide HV) _)⟩
                                                            case measure => simp [intOf]; omega
                                                        · have hqn : kn = q := by omega
                                                          as_aux_lemma =>
                                                            subst hqn
                                                            go_wp2_with fail
                                                            go_ret
                                                            refine ⟨rfl, ?_⟩
                                                            have h1 : Below w3.heap.size w3 w7 := by rw [unhide HMb]; exact (unhide HW).2.2
                                                            exact (unhide HB4).trans ((h1.trans ((unhide HV).mono h1.size)).mono (unhide HB4).size)
          · go_wp2_with fail
            go_ret
            exact ⟨rfl, unhide HB1⟩
        · go_wp2_with fail
          go_ret
          exact ⟨rfl, unhide HB1⟩
      · go_wp2_with fail
        go_ret
        exact ⟨rfl, unhide HB1⟩

end Go.Proofs.Qxb6603799a
