/-
  FnLevelSetScriptFirst: the walk.
-/
import Derived.Test.Qxb6603799aPlain
import Derived.Deep.DeepCutAuto
import Derived.Deep.AppendLies
namespace Go.Proofs.Qxb6603799a
open Go.RowKit Go.Maps

theorem look35 {w : World} {mb N : Nat} {D : DataW Value} (h : w.ownsMap Try.prog 9 heldElem mb N D) {k : ByteArray} (hk : k.size ≤ maxLen) {u : Value} (hu : D.atKey (.string k.data.toList) (.held zeroI) = .held u) :
    (Instr.lookup 35 (.map (some mb)) (.string k) true).run Try.prog w = .ok (.tuple #[u, .bool (has D (.string k.data.toList))]) w := by
  obtain ⟨v, ps, hr, hv⟩ := h.look_ok keyed9 Try.underlying35 (zero39 w) (zd := .held zeroI) (zp := []) rfl (WideMaps.keyOf_string_mk Try.underlying9 hk)
  rw [hu] at hv
  have : v = u := by
    unfold heldElem at hv
    simp at hv
    exact hv.1
  rw [this] at hr
  exact hr

/-- What stands while the script is walked: the level, the clones. -/
structure S6 (w3 wr : World) (a : Option Addr) (n : Nat) (F : List Ent) (lb mb : Nat) (r : Int) (N : Nat) (D : DataW Value) : Prop where
  lev : Lev wr lb mb (.slice none 0 0) r N D
  bel : Below w3.heap.size w3 wr
  ent : Ents w3.heap.size w3 a n F
  fin : ∀ f ∈ F, Fine 0 w3 f
  lm : w3.heap.size ≤ mb

theorem S6.ents {w3 wr : World} {a : Option Addr} {n : Nat} {F : List Ent} {lb mb : Nat} {r : Int} {N : Nat} {D : DataW Value} (h : S6 w3 wr a n F lb mb r N D) : Ents wr.heap.size wr a n F := h.ent.step h.bel

theorem S6.fine {w3 wr : World} {a : Option Addr} {n : Nat} {F : List Ent} {lb mb : Nat} {r : Int} {N : Nat} {D : DataW Value} (h : S6 w3 wr a n F lb mb r N D) {f : Ent} (hf : f ∈ F) : Fine 0 wr f := (h.fin f hf).step h.bel

theorem S6.step {w3 wr w' : World} {a : Option Addr} {n : Nat} {F : List Ent} {lb mb : Nat} {r : Int} {N : Nat} {D : DataW Value} (h : S6 w3 wr a n F lb mb r N D) (hb : Below wr.heap.size wr w') : S6 w3 w' a n F lb mb r N D :=
  ⟨h.lev.kept (grown_of_below hb), h.bel.trans (hb.mono h.bel.size), h.ent, h.fin, h.lm⟩

theorem grown_drew (w : World) : w.grownBy w.drew none := ⟨rfl, rfl, rfl, Nat.le_refl _, fun _ _ _ => rfl⟩

/-- One set of the script. -/
theorem S6.set {w3 wr w' : World} {a : Option Addr} {n : Nat} {F : List Ent} {lb mb : Nat} {r : Int} {N N' : Nat} {D D' : DataW Value} (h : S6 w3 wr a n F lb mb r N D) (hl : Lev w' lb mb (.slice none 0 0) r N' D') (hg : wr.drew.grownBy w' (some mb)) : S6 w3 w' a n F lb mb r N' D' :=
  ⟨hl, (h.bel.drew).grown hg h.bel.size (fun k hk => by cases hk; exact h.lm), h.ent, h.fin, h.lm⟩

set_option maxRecDepth 100000 in
set_option maxHeartbeats 8000000 in
theorem walk6_main {w : World} {a : Option Addr} {n c : Nat} {E : List Ent} (h : Ents w.heap.size w a n E) (hc : a = none → n = 0 ∧ c = 0) (hn : n ≤ 4096) (hm : n ≤ maxLen) (r : Int) :
    Calls Try.prog 6 #[.slice a n c, .int .i64 r] w fun e w' => e = .returned (.bool true) ∧ Below w.heap.size w w' := by
  have H := hide h
  have HC := hide hc
  have hmm := @run_makeMap Try.prog
  clear h hc
  go_enter Try.func6, Try.ntmps6
  go_wp2_with fail
  refine (bytes24 (unhide H) hm r).mono ?_
  rintro e w0 ⟨b, rfl, hb, rfl⟩
  cases b with
  | false =>
    go_wp2_with fail
    go_ret
    exact ⟨rfl, Below.refl _ _⟩
  | true =>
    have HS := hide (hb rfl).2
    clear hb
    go_wp2_with fail
    refine (sum11 (unhide H) hn (unhide HS)).mono ?_
    rintro e w1 ⟨z, rfl, hz, b1⟩
    have HB1 := hide b1
    clear b1
    by_cases hz1 : z ≤ 1048576
    · go_wp2_with fail
      refine (cloneE13 ((unhide H).step (unhide HB1)) (unhide HC) hn (unhide HS)).mono ?_
      rintro e w3 ⟨a', c', F, rfl, hfine, hents, b3⟩
      have hFl : F.length = n := hents.len
      have HB3 := hide (Below.trans' (unhide HB1) b3)
      have HF := hide (And.intro hents (fun f hf => (hfine f hf).low (Nat.zero_le _)))
      clear hfine hents b3 HS HC H HB1
      have hmap := World.ownsMap_made w3 Try.prog 9 heldElem
      have hb4 : Below w3.heap.size w3 (w3.alloc (.map #[] 0)) := (Below.refl _ _).alloc (Nat.le_refl _) _
      have HM := hide (And.intro hmap hb4)
      clear hmap hb4
      go_wp2_with fail
      refine (new17 (unhide HM).1 none 0 0 r).mono ?_
      rintro e w4 ⟨lb, rfl, hlb, hlev, b4⟩
      have HSS : Hid (S6 w3 w4 a' n F lb w3.heap.size r 0 (mapF F 0)) := hide ⟨hlev, (unhide HM).2.trans (b4.mono (unhide HM).2.size), (unhide HF).1, (unhide HF).2, Nat.le_refl _⟩
      have hlb' : w3.heap.size < lb := by simp at hlb; omega
      clear hlev b4 hlb HM HF
      generalize hmb : w3.heap.size = mb at *
      clear hmb hmm
      go_wp2_with fail
      go_loopw [6] (fun i wr => ∃ k : Nat, k ≤ n ∧ i = .int .i64 k ∧ Hid (S6 w3 wr a' n F lb mb r k (mapF F k))) (fun i _ => n - (intOf i).toNat)
      case atStart => exact ⟨0, Nat.zero_le _, rfl, HSS⟩
      case round =>
        obtain ⟨k, hk, rfl, HW⟩ := hrel
        by_cases hlt : k < n
        · clear HSS
          obtain ⟨b, off, e, rfl, hbw, he, c0, c1, c2, c3⟩ := (unhide HW).ents.get hlt
          obtain ⟨va, vn, vc, hv, _⟩ := ((unhide HW).fine (List.mem_of_getElem? he)).1
          have hks : e.key.size ≤ maxLen := (unhide HW).ents.key e (List.mem_of_getElem? he)
          have HE : Hid (mapF F (k + 1) = setF (mapF F k) e.key.data.toList (.slice va vn vc) e.idx e.lease) := hide (by rw [mapF_succ he, ← hv]; rfl)
          have hbne : b ≠ mb := by
            rcases (unhide HW).ent.cell with h0 | ⟨b', off', hab, hlt', _⟩
            · omega
            · injection hab with hab
              injection hab with hab
              have := (unhide HW).lm
              omega
          have hL := hide ((unhide HW).lev.kept (grown_drew wr))
          rw [hv] at c1
          clear he hv
          go_wp2_with fail
          go_region_held3 (fun w' => w'.cell? ⟨b, off + k * 4, none⟩ = some (.string e.key) ∧ w'.cell? ⟨b, off + k * 4 + 1, none⟩ = some (.slice va vn vc) ∧ w'.cell? ⟨b, off + k * 4 + 2, none⟩ = some (.int .u64 e.idx) ∧ w'.cell? ⟨b, off + k * 4 + 3, none⟩ = some (.int .u64 e.lease))
            (first | go_keep | (refine ⟨(hg8.cell_far _ (by exact hbw) (by simpa using hbne)).trans c0, (hg8.cell_far _ (by exact hbw) (by simpa using hbne)).trans c1, (hg8.cell_far _ (by exact hbw) (by simpa using hbne)).trans c2, (hg8.cell_far _ (by exact hbw) (by simpa using hbne)).trans c3⟩))
            (first | (go_at_call 18; refine (set18_first (unhide hL) (by omega) e.key hks va vn vc e.idx e.lease).mono ?_; rintro e' w5 ⟨rfl, hl5, hg8⟩))
          have HW5 : Hid (S6 w3 w5 (some ⟨b, off, none⟩) n F lb mb r (k + 1) (mapF F (k + 1))) := hide (by rw [unhide HE]; exact (unhide HW).set hl5 hg8)
          clear hl5 hg8 HW hL c0 c1 c2 c3 HE
          go_wp2_with fail
          go_roundw
          case rel => exact ⟨k + 1, by omega, by go_num, HW5⟩
          case measure => simp [intOf]; omega
        · have hkn : n = k := by omega
          subst hkn
          clear HSS hk hlt
          go_wp2_with fail
          refine (items19 (unhide HW).lev).mono ?_
          rintro e wx ⟨rfl, rfl⟩
          go_wp2_with fail
          refine (keys20 (unhide HW).lev).mono ?_
          rintro e wx ⟨rfl, rfl⟩
          go_wp2_with fail
          refine (readers21 (unhide HW).lev).mono ?_
          rintro e wx ⟨rfl, rfl⟩
          go_wp2_with fail
          go_loopw [8, 9, 10, 11, 12, 13] (fun lv i _ _ _ _ wq => ∃ k : Nat, k ≤ n ∧ i = .int .i64 k ∧ lv = .int .i64 (cntP (keysL F) (liveB F n) k) ∧ Hid (S6 w3 wq a' n F lb mb r n (mapF F n))) (fun _ i _ _ _ _ _ => n - (intOf i).toNat)
          case atStart => exact ⟨0, Nat.zero_le _, rfl, rfl, HW⟩
          case round =>
            clear HW
            obtain ⟨k, hk, rfl, rfl, HW⟩ := hrel
            have hcl := cntP_le (keysL F) (liveB F n) k
            by_cases hlt : k < n
            · obtain ⟨b, off, e, rfl, hbw, he, hat⟩ := (unhide HW).ents.get hlt
              have hks : e.key.size ≤ maxLen := (unhide HW).ents.key e (List.mem_of_getElem? he)
              obtain ⟨r1, j, ej, hj1, hj2, hj3, hj4⟩ := round6 hFl hlt he
              have HE := hide he
              have HJ := hide hj4
              have HJ3 := hide hj3
              have HJ1 := hide hj1
              have HR1 := hide r1
              clear he hj4 hj3 hj1 r1 hat
              go_wp2_with fail
              refine (first16 (unhide HW).ents (by omega) hlt (unhide HE)).mono ?_
              rintro e' w5 ⟨rfl, b5⟩
              have HW5 := hide ((unhide HW).step b5)
              clear HW b5
              cases hfe : firstE F k e.key.data.toList with
              | false =>
                have HN : Hid (cntP (keysL F) (liveB F n) (k + 1) = cntP (keysL F) (liveB F n) k) := hide (unhide HR1 hfe)
                go_wp2_with fail
                go_roundw
                case rel => exact ⟨k + 1, by omega, by go_num, by rw [unhide HN], HW5⟩
                case measure => simp [intOf]; omega
              | true =>
                obtain ⟨b', off', e'', hab, hbw', he', c0, c1, c2, c3⟩ := (unhide HW5).ents.get hlt
                injection hab with hab
                injection hab with hab1 hab2
                subst hab1 hab2
                rw [unhide HE] at he'
                injection he' with he'
                subst he'
                clear c1 c2 c3
                go_wp2_with fail
                refine (last15 (unhide HW5).ents (by omega) e.key).mono ?_
                rintro e' w6 ⟨rfl, rfl⟩
                rw [unhide HJ1]
                obtain ⟨b2, off2, ej', hab, hbw2, hej, d0, d1, d2, d3⟩ := (unhide HW5).ents.get hj2
                injection hab with hab
                injection hab with hab1 hab2
                subst hab1 hab2
                rw [unhide HJ3] at hej
                injection hej with hej
                subst hej
                rcases unhide HJ with ⟨x1, x2, x3, x4⟩ | ⟨x1, x2, x3, x4⟩
                · have hlook := look35 (unhide HW5).lev.map hks x3
                  rw [x2] at hlook
                  unfold zeroI at hlook
                  rw [x1] at d2
                  have HX := hide x4
                  clear x2 x3 x4 c0 d0 d1 d3
                  go_wp2_with fail
                  go_roundw
                  case rel => exact ⟨k + 1, by omega, by go_num, by rw [unhide HX], hide ((unhide HW5).step ((Below.refl _ _).alloc (Nat.le_refl _) _))⟩
                  case measure => simp [intOf]; omega
                · have hfi := (unhide HW5).fine (List.mem_of_getElem? (unhide HJ3))
                  obtain ⟨va, vn, vc, hv, _⟩ := hfi.1
                  unfold itemE itemV at x3
                  rw [hv] at x3 d1
                  have hlook := look35 (unhide HW5).lev.map hks x3
                  rw [x2] at hlook
                  have hx0 : (ej.idx == 0) = false := by simpa using x1
                  have HX := hide (x4 hfe)
                  have HFI := hide hfi
                  have HV := hide hv
                  clear x2 x3 x4 c0 d0 hfi hv x1
                  go_wp2_with fail
                  have hb7 : Below w6.heap.size w6 (w6.alloc (.cells #[.slice va vn vc, .int .u64 ej.idx, .int .u64 ej.lease] 39)) := (Below.refl _ _).alloc (Nat.le_refl _) _
                  obtain ⟨g0, g1, g2⟩ := box39_cells w6 (.slice va vn vc) (.int .u64 ej.idx) (.int .u64 ej.lease)
                  have HW7 := hide ((unhide HW5).step hb7)
                  have HFI7 := hide ((unhide HFI).step hb7)
                  have s1 := (hb7.cell (p := ⟨b, off + j * 4 + 1, none⟩) (by exact hbw2)).trans d1
                  have s2 := (hb7.cell (p := ⟨b, off + j * 4 + 2, none⟩) (by exact hbw2)).trans d2
                  have s3 := (hb7.cell (p := ⟨b, off + j * 4 + 3, none⟩) (by exact hbw2)).trans d3
                  have hbs : b < (w6.alloc (.cells #[.slice va vn vc, .int .u64 ej.idx, .int .u64 ej.lease] 39)).heap.size := by simp; omega
                  have hgs : w6.heap.size < (w6.alloc (.cells #[.slice va vn vc, .int .u64 ej.idx, .int .u64 ej.lease] 39)).heap.size := by simp
                  clear hb7 HFI HW5 d1 d2 d3 hlook hbw2 hbw'
                  generalize w6.alloc (.cells #[.slice va vn vc, .int .u64 ej.idx, .int .u64 ej.lease] 39) = w7 at *
                  generalize w6.heap.size = gb at *
                  have hby : Hid (Byt 0 w7.drew.heap.size w7.drew (.slice va vn vc)) := hide (by rw [← unhide HV]; exact (unhide HFI7).1)
                  have hsm : Hid (vlen (.slice va vn vc) ≤ 1048576) := hide (by rw [← unhide HV]; exact (unhide HFI7).2.1)
                  go_region_held3 (fun w' => w'.cell? ⟨b, off + j * 4 + 1, none⟩ = some (.slice va vn vc) ∧ w'.cell? ⟨b, off + j * 4 + 2, none⟩ = some (.int .u64 ej.idx) ∧ w'.cell? ⟨b, off + j * 4 + 3, none⟩ = some (.int .u64 ej.lease) ∧ w'.cell? ⟨gb, 0, none⟩ = some (.slice va vn vc) ∧ w'.cell? ⟨gb, 1, none⟩ = some (.int .u64 ej.idx) ∧ w'.cell? ⟨gb, 2, none⟩ = some (.int .u64 ej.lease))
                    (first | go_keep | (refine ⟨(hb8.cell (by exact hbs)).trans s1, (hb8.cell (by exact hbs)).trans s2, (hb8.cell (by exact hbs)).trans s3, (hb8.cell (by exact hgs)).trans g0, (hb8.cell (by exact hgs)).trans g1, (hb8.cell (by exact hgs)).trans g2⟩))
                    (first | (go_at_call 22; refine (same22 (unhide hby) (unhide hsm) ej.idx ej.lease).mono ?_; rintro e' w8 ⟨rfl, hb8⟩))
                  have HW8 := hide ((unhide HW7).step ⟨hb8.os, hb8.tape, hb8.output, hb8.size, hb8.block⟩)
                  clear s1 s2 s3 g0 g1 g2 hb8 HW7 HFI7
                  go_wp2_with fail
                  go_roundw
                  case rel => exact ⟨k + 1, by omega, by go_num, by rw [unhide HX]; go_num, HW8⟩
                  case measure => simp [intOf]; omega
            · have hkn : n = k := by omega
              subst hkn
              have hlen := fun ty => (unhide HW).lev.map.len Try.underlying35 ty
              rw [size_live F n (by omega)] at hlen
              go_wp2_with fail
              go_ret
              exact ⟨by simp, (unhide HB3).trans ((unhide HW).bel.mono (unhide HB3).size)⟩
    · go_wp2_with fail
      go_ret
      exact ⟨rfl, unhide HB1⟩

theorem walk6 {w : World} {a : Option Addr} {n c : Nat} {E : List Ent} (h : Ents w.heap.size w a n E) (hc : a = none → n = 0 ∧ c = 0) (hm : n ≤ maxLen) (r : Int) :
    Calls Try.prog 6 #[.slice a n c, .int .i64 r] w fun e w' => e = .returned (.bool true) ∧ Below w.heap.size w w' := by
  by_cases hn : n ≤ 4096
  · exact walk6_main h hc hn hm r
  · have H := hide h
    clear h hc
    unfold maxLen at hm
    go_enter Try.func6, Try.ntmps6
    go_wp2_with fail
    refine (bytes24 (unhide H) (by unfold maxLen; exact hm) r).mono ?_
    rintro e w0 ⟨b, rfl, hb, rfl⟩
    cases b with
    | false =>
      go_wp2_with fail
      go_ret
      exact ⟨rfl, Below.refl _ _⟩
    | true =>
      clear hb
      go_wp2_with fail
      go_ret
      exact ⟨rfl, Below.refl _ _⟩

end Go.Proofs.Qxb6603799a
