/-
  The four hand-ins of FnHoldVoteTotalIsUnionEitherOrder: regions whose order is drawn.
-/
import Derived.Test.Qxb6603397aBox
import Derived.Maps.RangeWalk
namespace Go.Proofs.Qxb6603397a
open Go.RowKit Go.Maps

set_option linter.unusedSimpArgs false in
set_option maxRecDepth 100000 in
set_option maxHeartbeats 4000000 in
theorem reg13 (sl ix se te : Int) (hd sr tr : List Value) (hA : Arrs hd sr tr) (fb : Bool) (w x : World) (hb bm vm : Nat) (p0 p1 : Option Addr) (n0 d0 n1 d1 : Nat) (A B X : List Int) (st : Nat) (kl : Lit) (hkl : keyOf Try.prog 69 (.agg (keyL sl ix se te hd sr tr fb).toArray) = some kl)
    (hB : B8 w x bm hd sr tr p0 n0 d0 A p1 n1 d1 B) (hV : VState x hb bm vm kl X st) (hs1 : st ≤ 1) (hbv : bm < vm) (hbx : bm ≤ x.heap.size) (hinc : st = 1 → incB X = true ∧ X.length ≤ 1000000) (hn : n0 ≤ 4096) {Q : Exit → Act → World → Prop}
    (v1 v4 v6 v8 v10 v11 v12 v13 v15 v17 v19 v20 v21 v23 v24 v25 v26 v27 v28 v29 v30 v31 v32 v33 v34 v35 v36 v37 v38 v39 v40 v41 v42 v43 v44 v45 v46 v47 v48 v49 v50 v51 v52 v53 v54 v55 v56 v57 v58 v59 v60 v61 v62 v63 v64 v65 v66 v67 v68 v69 v70 v71 v72 v73 v74 v75 v76 v77 v78 v79 v80 v81 v82 v83 v84 v85 v86 v87 v88 v89 v90 v91 v92 v93 v94 v95 v96 v97 v98 v99 v100 v101 v102 v103 v104 v105 v106 v107 v108 v109 v110 v111 v112 v113 v114 v115 v116 v117 v118 v119 v120 v121 v122 v123 v124 v125 v126 v127 v128 v129 v130 v131 v132 v133 v134 v135 v136 v137 v138 v139 v140 v141 v142 v143 v144 v145 v146 v147 v148 v149 v150 v151 v152 v153 v154 v155 v156 v157 v158 v159 v160 v161 v162 v163 v164 v165 v166 v167 v168 v169 : Value)
    (post : ∀ z pa pc, B8 w z bm hd sr tr p0 n0 d0 A p1 n1 d1 B → VState z hb bm vm kl (vlist st X A) (vst st X A) → Below bm x z → Q .normal { tmps := List.toArray (.slice p0 n0 d0 :: v1 :: .int .u64 sl :: .int .u64 ix :: v4 :: .int .u64 se :: v6 :: .int .u64 te :: v8 :: .bool fb :: v10 :: v11 :: v12 :: v13 :: .pointer (some ⟨w.heap.size, 0, none⟩) :: v15 :: .pointer (some ⟨w.heap.size + 1, 0, none⟩) :: v17 :: .pointer (some ⟨w.heap.size + 1 + 1, 0, none⟩) :: v19 :: v20 :: v21 :: .pointer (some ⟨hb, 0, none⟩) :: .int .i64 (vret st X A) :: v24 :: v25 :: v26 :: v27 :: v28 :: v29 :: v30 :: v31 :: v32 :: v33 :: v34 :: v35 :: v36 :: v37 :: v38 :: v39 :: v40 :: v41 :: v42 :: v43 :: v44 :: v45 :: v46 :: v47 :: v48 :: v49 :: v50 :: v51 :: v52 :: v53 :: v54 :: v55 :: v56 :: v57 :: v58 :: v59 :: v60 :: v61 :: v62 :: v63 :: v64 :: v65 :: v66 :: v67 :: v68 :: v69 :: v70 :: v71 :: v72 :: .pointer (some ⟨hb, 0, none⟩) :: .slice p0 n0 d0 :: .slice pa n0 pc :: .int .u64 sl :: .int .u64 ix :: .agg hd.toArray :: .int .u64 se :: .agg sr.toArray :: .int .u64 te :: .agg tr.toArray :: .bool fb :: .int .i64 (vret st X A) :: v85 :: v86 :: v87 :: v88 :: v89 :: v90 :: v91 :: v92 :: v93 :: v94 :: v95 :: v96 :: v97 :: v98 :: v99 :: v100 :: v101 :: v102 :: v103 :: v104 :: v105 :: v106 :: v107 :: v108 :: v109 :: v110 :: v111 :: v112 :: v113 :: v114 :: v115 :: v116 :: v117 :: v118 :: v119 :: v120 :: v121 :: v122 :: v123 :: v124 :: v125 :: v126 :: v127 :: v128 :: v129 :: v130 :: v131 :: v132 :: v133 :: v134 :: v135 :: v136 :: v137 :: v138 :: v139 :: v140 :: v141 :: v142 :: v143 :: v144 :: v145 :: v146 :: v147 :: v148 :: v149 :: v150 :: v151 :: v152 :: v153 :: v154 :: v155 :: v156 :: v157 :: v158 :: v159 :: v160 :: v161 :: v162 :: v163 :: v164 :: v165 :: v166 :: v167 :: v168 :: v169 :: []), defers := [] } z) :
    (Code.region 13 #[{ dst := some 73, op := Op.move (Operand.tmp 22), type := 50, pos := "laws_root_b1.go:373", after := #[], guard := none }, { dst := some 74, op := Op.move (Operand.tmp 0), type := 23, pos := "laws_root_b1.go:373", after := #[], guard := none }, { dst := some 75, op := Op.call { callee := Callee.value (Operand.func 12), args := #[Operand.tmp 74], argTypes := #[23] }, type := 23, pos := "laws_root_b1.go:373", after := #[{ on := 1, ground := Ground.data }], guard := none }, { dst := some 76, op := Op.move (Operand.tmp 2), type := 39, pos := "laws_root_b1.go:373", after := #[], guard := none }, { dst := some 77, op := Op.move (Operand.tmp 3), type := 39, pos := "laws_root_b1.go:373", after := #[], guard := none }, { dst := some 78, op := Op.load 48 (Operand.tmp 14), type := 48, pos := "laws_root_b1.go:373", after := #[], guard := none }, { dst := some 79, op := Op.move (Operand.tmp 5), type := 39, pos := "laws_root_b1.go:373", after := #[], guard := none }, { dst := some 80, op := Op.load 48 (Operand.tmp 16), type := 48, pos := "laws_root_b1.go:373", after := #[], guard := none }, { dst := some 81, op := Op.move (Operand.tmp 7), type := 39, pos := "laws_root_b1.go:373", after := #[], guard := none }, { dst := some 82, op := Op.load 48 (Operand.tmp 18), type := 48, pos := "laws_root_b1.go:373", after := #[], guard := none }, { dst := some 83, op := Op.move (Operand.tmp 9), type := 4, pos := "laws_root_b1.go:373", after := #[], guard := none }, { dst := some 84, op := Op.call { callee := Callee.value (Operand.func 33), args := #[Operand.tmp 73, Operand.tmp 75, Operand.tmp 76, Operand.tmp 77, Operand.tmp 78, Operand.tmp 79, Operand.tmp 80, Operand.tmp 81, Operand.tmp 82, Operand.tmp 83], argTypes := #[50, 23, 39, 39, 48, 39, 48, 39, 48, 4] }, type := 3, pos := "laws_root_b1.go:373", after := #[{ on := 0, ground := Ground.data }, { on := 2, ground := Ground.data }, { on := 3, ground := Ground.data }, { on := 4, ground := Ground.data }, { on := 5, ground := Ground.data }, { on := 6, ground := Ground.data }, { on := 7, ground := Ground.data }, { on := 8, ground := Ground.data }, { on := 9, ground := Ground.data }, { on := 10, ground := Ground.data }, { on := 2, ground := Ground.chain }], guard := none }, { dst := some 23, op := Op.assign (Operand.tmp 84), type := 3, pos := "laws_root_b1.go:373", after := #[{ on := 11, ground := Ground.data }, { on := 11, ground := Ground.chain }, { on := 0, ground := Ground.phase }, { on := 1, ground := Ground.phase }, { on := 2, ground := Ground.phase }, { on := 3, ground := Ground.phase }, { on := 4, ground := Ground.phase }, { on := 5, ground := Ground.phase }, { on := 6, ground := Ground.phase }, { on := 7, ground := Ground.phase }, { on := 8, ground := Ground.phase }, { on := 9, ground := Ground.phase }, { on := 10, ground := Ground.phase }, { on := 11, ground := Ground.phase }], guard := none }] true).wp Try.prog Q { tmps := List.toArray (.slice p0 n0 d0 :: v1 :: .int .u64 sl :: .int .u64 ix :: v4 :: .int .u64 se :: v6 :: .int .u64 te :: v8 :: .bool fb :: v10 :: v11 :: v12 :: v13 :: .pointer (some ⟨w.heap.size, 0, none⟩) :: v15 :: .pointer (some ⟨w.heap.size + 1, 0, none⟩) :: v17 :: .pointer (some ⟨w.heap.size + 1 + 1, 0, none⟩) :: v19 :: v20 :: v21 :: .pointer (some ⟨hb, 0, none⟩) :: v23 :: v24 :: v25 :: v26 :: v27 :: v28 :: v29 :: v30 :: v31 :: v32 :: v33 :: v34 :: v35 :: v36 :: v37 :: v38 :: v39 :: v40 :: v41 :: v42 :: v43 :: v44 :: v45 :: v46 :: v47 :: v48 :: v49 :: v50 :: v51 :: v52 :: v53 :: v54 :: v55 :: v56 :: v57 :: v58 :: v59 :: v60 :: v61 :: v62 :: v63 :: v64 :: v65 :: v66 :: v67 :: v68 :: v69 :: v70 :: v71 :: v72 :: v73 :: v74 :: v75 :: v76 :: v77 :: v78 :: v79 :: v80 :: v81 :: v82 :: v83 :: v84 :: v85 :: v86 :: v87 :: v88 :: v89 :: v90 :: v91 :: v92 :: v93 :: v94 :: v95 :: v96 :: v97 :: v98 :: v99 :: v100 :: v101 :: v102 :: v103 :: v104 :: v105 :: v106 :: v107 :: v108 :: v109 :: v110 :: v111 :: v112 :: v113 :: v114 :: v115 :: v116 :: v117 :: v118 :: v119 :: v120 :: v121 :: v122 :: v123 :: v124 :: v125 :: v126 :: v127 :: v128 :: v129 :: v130 :: v131 :: v132 :: v133 :: v134 :: v135 :: v136 :: v137 :: v138 :: v139 :: v140 :: v141 :: v142 :: v143 :: v144 :: v145 :: v146 :: v147 :: v148 :: v149 :: v150 :: v151 :: v152 :: v153 :: v154 :: v155 :: v156 :: v157 :: v158 :: v159 :: v160 :: v161 :: v162 :: v163 :: v164 :: v165 :: v166 :: v167 :: v168 :: v169 :: []), defers := [] } x := by
  have hi1 : (Try.prog.info? 48).map (·.size) = some hd.length := by rw [i48, hA.l1]
  have hi2 : (Try.prog.info? 48).map (·.size) = some sr.length := by rw [i48, hA.l2]
  have hi3 : (Try.prog.info? 48).map (·.size) = some tr.length := by rw [i48, hA.l3]
  have H := hide hA
  have HK := hide hkl
  have HI := hide hinc
  have Qa := hide (hB.below (x' := x.drew) ((Below.refl _ _).drew))
  have Va := hide (hV.below (w' := x.drew) ((Below.refl _ _).drew))
  have Za : bm ≤ x.drew.heap.size := by simpa using hbx
  have HP := hide post
  clear hA hkl hinc hB hV post
  refine wp_region_noPanic ?_
  refine wp_region_held_drew (S := fun w' => Box w' w.heap.size hd sr tr) (by as_aux_lemma => kernel_rfl) (unhide Qa).box (fun hHeld => ?_)
  refine wpAnyH_take (i := 0) (v := .pointer (some ⟨hb, 0, none⟩)) rfl (by as_aux_lemma => kernel_rfl) (by as_aux_lemma => kernel_rfl) (by as_aux_lemma => kernel_rfl) (fun _ _ _ h => h) (Or.inl ⟨by rfl, ?_⟩) hHeld ?_
  · intro w' hSw; go_simp
  simp only [List.getElem_toArray, List.getElem_cons_succ, List.getElem_cons_zero, Act.put, List.setIfInBounds_toArray, List.set_cons_zero, List.set_cons_succ]
  refine wpAnyH_take (i := 1) (v := .slice p0 n0 d0) rfl (by as_aux_lemma => kernel_rfl) (by as_aux_lemma => kernel_rfl) (by as_aux_lemma => kernel_rfl) (fun _ _ _ h => h) (Or.inl ⟨by rfl, ?_⟩) hHeld ?_
  · intro w' hSw; go_simp
  simp only [List.getElem_toArray, List.getElem_cons_succ, List.getElem_cons_zero, Act.put, List.setIfInBounds_toArray, List.set_cons_zero, List.set_cons_succ]
  refine wpAnyH_take (i := 3) (v := .int .u64 sl) rfl (by as_aux_lemma => kernel_rfl) (by as_aux_lemma => kernel_rfl) (by as_aux_lemma => kernel_rfl) (fun _ _ _ h => h) (Or.inl ⟨by rfl, ?_⟩) hHeld ?_
  · intro w' hSw; go_simp
  simp only [List.getElem_toArray, List.getElem_cons_succ, List.getElem_cons_zero, Act.put, List.setIfInBounds_toArray, List.set_cons_zero, List.set_cons_succ]
  refine wpAnyH_take (i := 4) (v := .int .u64 ix) rfl (by as_aux_lemma => kernel_rfl) (by as_aux_lemma => kernel_rfl) (by as_aux_lemma => kernel_rfl) (fun _ _ _ h => h) (Or.inl ⟨by rfl, ?_⟩) hHeld ?_
  · intro w' hSw; go_simp
  simp only [List.getElem_toArray, List.getElem_cons_succ, List.getElem_cons_zero, Act.put, List.setIfInBounds_toArray, List.set_cons_zero, List.set_cons_succ]
  refine wpAnyH_take (i := 5) (v := .agg hd.toArray) rfl (by as_aux_lemma => kernel_rfl) (by as_aux_lemma => kernel_rfl) (by as_aux_lemma => kernel_rfl) (fun _ _ _ h => h) (yieldsIf_load_mid (by rfl) 48 _ rfl w.heap.size 0 rfl hd _ (fun _ h => h.1) Try.underlying48 rfl hi1) hHeld ?_
  simp only [List.getElem_toArray, List.getElem_cons_succ, List.getElem_cons_zero, Act.put, List.setIfInBounds_toArray, List.set_cons_zero, List.set_cons_succ]
  refine wpAnyH_take (i := 6) (v := .int .u64 se) rfl (by as_aux_lemma => kernel_rfl) (by as_aux_lemma => kernel_rfl) (by as_aux_lemma => kernel_rfl) (fun _ _ _ h => h) (Or.inl ⟨by rfl, ?_⟩) hHeld ?_
  · intro w' hSw; go_simp
  simp only [List.getElem_toArray, List.getElem_cons_succ, List.getElem_cons_zero, Act.put, List.setIfInBounds_toArray, List.set_cons_zero, List.set_cons_succ]
  refine wpAnyH_take (i := 7) (v := .agg sr.toArray) rfl (by as_aux_lemma => kernel_rfl) (by as_aux_lemma => kernel_rfl) (by as_aux_lemma => kernel_rfl) (fun _ _ _ h => h) (yieldsIf_load_mid (by rfl) 48 _ rfl (w.heap.size + 1) 0 rfl sr _ (fun _ h => h.2.1) Try.underlying48 rfl hi2) hHeld ?_
  simp only [List.getElem_toArray, List.getElem_cons_succ, List.getElem_cons_zero, Act.put, List.setIfInBounds_toArray, List.set_cons_zero, List.set_cons_succ]
  refine wpAnyH_take (i := 8) (v := .int .u64 te) rfl (by as_aux_lemma => kernel_rfl) (by as_aux_lemma => kernel_rfl) (by as_aux_lemma => kernel_rfl) (fun _ _ _ h => h) (Or.inl ⟨by rfl, ?_⟩) hHeld ?_
  · intro w' hSw; go_simp
  simp only [List.getElem_toArray, List.getElem_cons_succ, List.getElem_cons_zero, Act.put, List.setIfInBounds_toArray, List.set_cons_zero, List.set_cons_succ]
  refine wpAnyH_take (i := 9) (v := .agg tr.toArray) rfl (by as_aux_lemma => kernel_rfl) (by as_aux_lemma => kernel_rfl) (by as_aux_lemma => kernel_rfl) (fun _ _ _ h => h) (yieldsIf_load_mid (by rfl) 48 _ rfl (w.heap.size + 1 + 1) 0 rfl tr _ (fun _ h => h.2.2) Try.underlying48 rfl hi3) hHeld ?_
  simp only [List.getElem_toArray, List.getElem_cons_succ, List.getElem_cons_zero, Act.put, List.setIfInBounds_toArray, List.set_cons_zero, List.set_cons_succ]
  refine wpAnyH_take (i := 10) (v := .bool fb) rfl (by as_aux_lemma => kernel_rfl) (by as_aux_lemma => kernel_rfl) (by as_aux_lemma => kernel_rfl) (fun _ _ _ h => h) (Or.inl ⟨by rfl, ?_⟩) hHeld ?_
  · intro w' hSw; go_simp
  simp only [List.getElem_toArray, List.getElem_cons_succ, List.getElem_cons_zero, Act.put, List.setIfInBounds_toArray, List.set_cons_zero, List.set_cons_succ]
  refine wpAnyH_ready (rs := [2]) (by as_aux_lemma => kernel_rfl) (by simp) ?_
  refine AllReadyH.cons rfl (fun K hK => ?_) AllReadyH.nil
  go_simp
  refine (clone12 (unhide Qa).s0 Za (by omega)).mono ?_
  rintro e y ⟨pa, pc, rfl, _, oy, by1⟩
  have hu := (unhide Qa).s0.u64
  have Qb := hide ((unhide Qa).below (by1.mono Za))
  have Vb := hide ((unhide Va).below by1)
  have Zb : bm ≤ y.heap.size := Nat.le_trans Za by1.size
  have Yb := hide (Sl.of_owns oy hu)
  have Bb := hide (((Below.refl bm x).drew).trans (by1.mono Za))
  clear Qa Va oy hHeld by1 Za hu
  dsimp only
  refine hK.out _ _ (unhide Qb).box (fun hHeld => ?_)
  clear hK K
  refine wpAnyH_ready (rs := [11]) (by as_aux_lemma => kernel_rfl) (by simp) ?_
  refine AllReadyH.cons rfl (fun K hK => ?_) AllReadyH.nil
  go_simp
  refine (vote33 sl ix se te hd sr tr fb (unhide H) (unhide HK) (unhide Vb) hs1 hbv Zb (unhide HI) (unhide Yb) (Nat.le_refl _) (by omega)).mono ?_
  rintro e z ⟨rfl, Vc, bz1⟩
  have Qc := hide ((unhide Qb).below bz1)
  have Vc := hide Vc
  have Bc := hide ((unhide Bb).trans bz1)
  clear Qb Vb Yb Bb hHeld bz1 Zb
  dsimp only
  refine hK.out _ _ (unhide Qc).box (fun hHeld => ?_)
  clear hK K
  refine wpAnyH_take (i := 12) (v := .int .i64 (vret st X A)) rfl (by as_aux_lemma => kernel_rfl) (by as_aux_lemma => kernel_rfl) (by as_aux_lemma => kernel_rfl) (fun _ _ _ h => h) (Or.inl ⟨by rfl, ?_⟩) hHeld ?_
  · intro w' hSw; go_simp
  simp only [List.getElem_toArray, List.getElem_cons_succ, List.getElem_cons_zero, Act.put, List.setIfInBounds_toArray, List.set_cons_zero, List.set_cons_succ]
  refine wpAnyH_done (by as_aux_lemma => kernel_rfl) ?_ _
  clear hHeld
  exact NoPanic.normal (unhide HP _ _ _ (unhide Qc) (unhide Vc) (unhide Bc))

set_option linter.unusedSimpArgs false in
set_option maxRecDepth 100000 in
set_option maxHeartbeats 4000000 in
theorem reg14 (sl ix se te : Int) (hd sr tr : List Value) (hA : Arrs hd sr tr) (fb : Bool) (w x : World) (hb bm vm : Nat) (p0 p1 : Option Addr) (n0 d0 n1 d1 : Nat) (A B X : List Int) (st : Nat) (kl : Lit) (hkl : keyOf Try.prog 69 (.agg (keyL sl ix se te hd sr tr fb).toArray) = some kl)
    (hB : B8 w x bm hd sr tr p0 n0 d0 A p1 n1 d1 B) (hV : VState x hb bm vm kl X st) (hs1 : st ≤ 1) (hbv : bm < vm) (hbx : bm ≤ x.heap.size) (hinc : st = 1 → incB X = true ∧ X.length ≤ 1000000) (hn : n1 ≤ 4096) {Q : Exit → Act → World → Prop}
    (v0 v4 v6 v8 v10 v11 v12 v13 v15 v17 v19 v20 v21 v23 v24 v25 v26 v27 v28 v29 v30 v31 v32 v33 v34 v35 v36 v37 v38 v39 v40 v41 v42 v43 v44 v45 v46 v47 v48 v49 v50 v51 v52 v53 v54 v55 v56 v57 v58 v59 v60 v61 v62 v63 v64 v65 v66 v67 v68 v69 v70 v71 v72 v73 v74 v75 v76 v77 v78 v79 v80 v81 v82 v83 v84 v85 v86 v87 v88 v89 v90 v91 v92 v93 v94 v95 v96 v97 v98 v99 v100 v101 v102 v103 v104 v105 v106 v107 v108 v109 v110 v111 v112 v113 v114 v115 v116 v117 v118 v119 v120 v121 v122 v123 v124 v125 v126 v127 v128 v129 v130 v131 v132 v133 v134 v135 v136 v137 v138 v139 v140 v141 v142 v143 v144 v145 v146 v147 v148 v149 v150 v151 v152 v153 v154 v155 v156 v157 v158 v159 v160 v161 v162 v163 v164 v165 v166 v167 v168 v169 : Value)
    (post : ∀ z pa pc, B8 w z bm hd sr tr p0 n0 d0 A p1 n1 d1 B → VState z hb bm vm kl (vlist st X B) (vst st X B) → Below bm x z → Q .normal { tmps := List.toArray (v0 :: .slice p1 n1 d1 :: .int .u64 sl :: .int .u64 ix :: v4 :: .int .u64 se :: v6 :: .int .u64 te :: v8 :: .bool fb :: v10 :: v11 :: v12 :: v13 :: .pointer (some ⟨w.heap.size, 0, none⟩) :: v15 :: .pointer (some ⟨w.heap.size + 1, 0, none⟩) :: v17 :: .pointer (some ⟨w.heap.size + 1 + 1, 0, none⟩) :: v19 :: v20 :: v21 :: .pointer (some ⟨hb, 0, none⟩) :: v23 :: .int .i64 (vret st X B) :: v25 :: v26 :: v27 :: v28 :: v29 :: v30 :: v31 :: v32 :: v33 :: v34 :: v35 :: v36 :: v37 :: v38 :: v39 :: v40 :: v41 :: v42 :: v43 :: v44 :: v45 :: v46 :: v47 :: v48 :: v49 :: v50 :: v51 :: v52 :: v53 :: v54 :: v55 :: v56 :: v57 :: v58 :: v59 :: v60 :: v61 :: v62 :: v63 :: v64 :: v65 :: v66 :: v67 :: v68 :: v69 :: v70 :: v71 :: v72 :: v73 :: v74 :: v75 :: v76 :: v77 :: v78 :: v79 :: v80 :: v81 :: v82 :: v83 :: v84 :: .pointer (some ⟨hb, 0, none⟩) :: .slice p1 n1 d1 :: .slice pa n1 pc :: .int .u64 sl :: .int .u64 ix :: .agg hd.toArray :: .int .u64 se :: .agg sr.toArray :: .int .u64 te :: .agg tr.toArray :: .bool fb :: .int .i64 (vret st X B) :: v97 :: v98 :: v99 :: v100 :: v101 :: v102 :: v103 :: v104 :: v105 :: v106 :: v107 :: v108 :: v109 :: v110 :: v111 :: v112 :: v113 :: v114 :: v115 :: v116 :: v117 :: v118 :: v119 :: v120 :: v121 :: v122 :: v123 :: v124 :: v125 :: v126 :: v127 :: v128 :: v129 :: v130 :: v131 :: v132 :: v133 :: v134 :: v135 :: v136 :: v137 :: v138 :: v139 :: v140 :: v141 :: v142 :: v143 :: v144 :: v145 :: v146 :: v147 :: v148 :: v149 :: v150 :: v151 :: v152 :: v153 :: v154 :: v155 :: v156 :: v157 :: v158 :: v159 :: v160 :: v161 :: v162 :: v163 :: v164 :: v165 :: v166 :: v167 :: v168 :: v169 :: []), defers := [] } z) :
    (Code.region 14 #[{ dst := some 85, op := Op.move (Operand.tmp 22), type := 50, pos := "laws_root_b1.go:374", after := #[], guard := none }, { dst := some 86, op := Op.move (Operand.tmp 1), type := 23, pos := "laws_root_b1.go:374", after := #[], guard := none }, { dst := some 87, op := Op.call { callee := Callee.value (Operand.func 12), args := #[Operand.tmp 86], argTypes := #[23] }, type := 23, pos := "laws_root_b1.go:374", after := #[{ on := 1, ground := Ground.data }], guard := none }, { dst := some 88, op := Op.move (Operand.tmp 2), type := 39, pos := "laws_root_b1.go:374", after := #[], guard := none }, { dst := some 89, op := Op.move (Operand.tmp 3), type := 39, pos := "laws_root_b1.go:374", after := #[], guard := none }, { dst := some 90, op := Op.load 48 (Operand.tmp 14), type := 48, pos := "laws_root_b1.go:374", after := #[], guard := none }, { dst := some 91, op := Op.move (Operand.tmp 5), type := 39, pos := "laws_root_b1.go:374", after := #[], guard := none }, { dst := some 92, op := Op.load 48 (Operand.tmp 16), type := 48, pos := "laws_root_b1.go:374", after := #[], guard := none }, { dst := some 93, op := Op.move (Operand.tmp 7), type := 39, pos := "laws_root_b1.go:374", after := #[], guard := none }, { dst := some 94, op := Op.load 48 (Operand.tmp 18), type := 48, pos := "laws_root_b1.go:374", after := #[], guard := none }, { dst := some 95, op := Op.move (Operand.tmp 9), type := 4, pos := "laws_root_b1.go:374", after := #[], guard := none }, { dst := some 96, op := Op.call { callee := Callee.value (Operand.func 33), args := #[Operand.tmp 85, Operand.tmp 87, Operand.tmp 88, Operand.tmp 89, Operand.tmp 90, Operand.tmp 91, Operand.tmp 92, Operand.tmp 93, Operand.tmp 94, Operand.tmp 95], argTypes := #[50, 23, 39, 39, 48, 39, 48, 39, 48, 4] }, type := 3, pos := "laws_root_b1.go:374", after := #[{ on := 0, ground := Ground.data }, { on := 2, ground := Ground.data }, { on := 3, ground := Ground.data }, { on := 4, ground := Ground.data }, { on := 5, ground := Ground.data }, { on := 6, ground := Ground.data }, { on := 7, ground := Ground.data }, { on := 8, ground := Ground.data }, { on := 9, ground := Ground.data }, { on := 10, ground := Ground.data }, { on := 2, ground := Ground.chain }], guard := none }, { dst := some 24, op := Op.assign (Operand.tmp 96), type := 3, pos := "laws_root_b1.go:374", after := #[{ on := 11, ground := Ground.data }, { on := 11, ground := Ground.chain }, { on := 0, ground := Ground.phase }, { on := 1, ground := Ground.phase }, { on := 2, ground := Ground.phase }, { on := 3, ground := Ground.phase }, { on := 4, ground := Ground.phase }, { on := 5, ground := Ground.phase }, { on := 6, ground := Ground.phase }, { on := 7, ground := Ground.phase }, { on := 8, ground := Ground.phase }, { on := 9, ground := Ground.phase }, { on := 10, ground := Ground.phase }, { on := 11, ground := Ground.phase }], guard := none }] true).wp Try.prog Q { tmps := List.toArray (v0 :: .slice p1 n1 d1 :: .int .u64 sl :: .int .u64 ix :: v4 :: .int .u64 se :: v6 :: .int .u64 te :: v8 :: .bool fb :: v10 :: v11 :: v12 :: v13 :: .pointer (some ⟨w.heap.size, 0, none⟩) :: v15 :: .pointer (some ⟨w.heap.size + 1, 0, none⟩) :: v17 :: .pointer (some ⟨w.heap.size + 1 + 1, 0, none⟩) :: v19 :: v20 :: v21 :: .pointer (some ⟨hb, 0, none⟩) :: v23 :: v24 :: v25 :: v26 :: v27 :: v28 :: v29 :: v30 :: v31 :: v32 :: v33 :: v34 :: v35 :: v36 :: v37 :: v38 :: v39 :: v40 :: v41 :: v42 :: v43 :: v44 :: v45 :: v46 :: v47 :: v48 :: v49 :: v50 :: v51 :: v52 :: v53 :: v54 :: v55 :: v56 :: v57 :: v58 :: v59 :: v60 :: v61 :: v62 :: v63 :: v64 :: v65 :: v66 :: v67 :: v68 :: v69 :: v70 :: v71 :: v72 :: v73 :: v74 :: v75 :: v76 :: v77 :: v78 :: v79 :: v80 :: v81 :: v82 :: v83 :: v84 :: v85 :: v86 :: v87 :: v88 :: v89 :: v90 :: v91 :: v92 :: v93 :: v94 :: v95 :: v96 :: v97 :: v98 :: v99 :: v100 :: v101 :: v102 :: v103 :: v104 :: v105 :: v106 :: v107 :: v108 :: v109 :: v110 :: v111 :: v112 :: v113 :: v114 :: v115 :: v116 :: v117 :: v118 :: v119 :: v120 :: v121 :: v122 :: v123 :: v124 :: v125 :: v126 :: v127 :: v128 :: v129 :: v130 :: v131 :: v132 :: v133 :: v134 :: v135 :: v136 :: v137 :: v138 :: v139 :: v140 :: v141 :: v142 :: v143 :: v144 :: v145 :: v146 :: v147 :: v148 :: v149 :: v150 :: v151 :: v152 :: v153 :: v154 :: v155 :: v156 :: v157 :: v158 :: v159 :: v160 :: v161 :: v162 :: v163 :: v164 :: v165 :: v166 :: v167 :: v168 :: v169 :: []), defers := [] } x := by
  have hi1 : (Try.prog.info? 48).map (·.size) = some hd.length := by rw [i48, hA.l1]
  have hi2 : (Try.prog.info? 48).map (·.size) = some sr.length := by rw [i48, hA.l2]
  have hi3 : (Try.prog.info? 48).map (·.size) = some tr.length := by rw [i48, hA.l3]
  have H := hide hA
  have HK := hide hkl
  have HI := hide hinc
  have Qa := hide (hB.below (x' := x.drew) ((Below.refl _ _).drew))
  have Va := hide (hV.below (w' := x.drew) ((Below.refl _ _).drew))
  have Za : bm ≤ x.drew.heap.size := by simpa using hbx
  have HP := hide post
  clear hA hkl hinc hB hV post
  refine wp_region_noPanic ?_
  refine wp_region_held_drew (S := fun w' => Box w' w.heap.size hd sr tr) (by as_aux_lemma => kernel_rfl) (unhide Qa).box (fun hHeld => ?_)
  refine wpAnyH_take (i := 0) (v := .pointer (some ⟨hb, 0, none⟩)) rfl (by as_aux_lemma => kernel_rfl) (by as_aux_lemma => kernel_rfl) (by as_aux_lemma => kernel_rfl) (fun _ _ _ h => h) (Or.inl ⟨by rfl, ?_⟩) hHeld ?_
  · intro w' hSw; go_simp
  simp only [List.getElem_toArray, List.getElem_cons_succ, List.getElem_cons_zero, Act.put, List.setIfInBounds_toArray, List.set_cons_zero, List.set_cons_succ]
  refine wpAnyH_take (i := 1) (v := .slice p1 n1 d1) rfl (by as_aux_lemma => kernel_rfl) (by as_aux_lemma => kernel_rfl) (by as_aux_lemma => kernel_rfl) (fun _ _ _ h => h) (Or.inl ⟨by rfl, ?_⟩) hHeld ?_
  · intro w' hSw; go_simp
  simp only [List.getElem_toArray, List.getElem_cons_succ, List.getElem_cons_zero, Act.put, List.setIfInBounds_toArray, List.set_cons_zero, List.set_cons_succ]
  refine wpAnyH_take (i := 3) (v := .int .u64 sl) rfl (by as_aux_lemma => kernel_rfl) (by as_aux_lemma => kernel_rfl) (by as_aux_lemma => kernel_rfl) (fun _ _ _ h => h) (Or.inl ⟨by rfl, ?_⟩) hHeld ?_
  · intro w' hSw; go_simp
  simp only [List.getElem_toArray, List.getElem_cons_succ, List.getElem_cons_zero, Act.put, List.setIfInBounds_toArray, List.set_cons_zero, List.set_cons_succ]
  refine wpAnyH_take (i := 4) (v := .int .u64 ix) rfl (by as_aux_lemma => kernel_rfl) (by as_aux_lemma => kernel_rfl) (by as_aux_lemma => kernel_rfl) (fun _ _ _ h => h) (Or.inl ⟨by rfl, ?_⟩) hHeld ?_
  · intro w' hSw; go_simp
  simp only [List.getElem_toArray, List.getElem_cons_succ, List.getElem_cons_zero, Act.put, List.setIfInBounds_toArray, List.set_cons_zero, List.set_cons_succ]
  refine wpAnyH_take (i := 5) (v := .agg hd.toArray) rfl (by as_aux_lemma => kernel_rfl) (by as_aux_lemma => kernel_rfl) (by as_aux_lemma => kernel_rfl) (fun _ _ _ h => h) (yieldsIf_load_mid (by rfl) 48 _ rfl w.heap.size 0 rfl hd _ (fun _ h => h.1) Try.underlying48 rfl hi1) hHeld ?_
  simp only [List.getElem_toArray, List.getElem_cons_succ, List.getElem_cons_zero, Act.put, List.setIfInBounds_toArray, List.set_cons_zero, List.set_cons_succ]
  refine wpAnyH_take (i := 6) (v := .int .u64 se) rfl (by as_aux_lemma => kernel_rfl) (by as_aux_lemma => kernel_rfl) (by as_aux_lemma => kernel_rfl) (fun _ _ _ h => h) (Or.inl ⟨by rfl, ?_⟩) hHeld ?_
  · intro w' hSw; go_simp
  simp only [List.getElem_toArray, List.getElem_cons_succ, List.getElem_cons_zero, Act.put, List.setIfInBounds_toArray, List.set_cons_zero, List.set_cons_succ]
  refine wpAnyH_take (i := 7) (v := .agg sr.toArray) rfl (by as_aux_lemma => kernel_rfl) (by as_aux_lemma => kernel_rfl) (by as_aux_lemma => kernel_rfl) (fun _ _ _ h => h) (yieldsIf_load_mid (by rfl) 48 _ rfl (w.heap.size + 1) 0 rfl sr _ (fun _ h => h.2.1) Try.underlying48 rfl hi2) hHeld ?_
  simp only [List.getElem_toArray, List.getElem_cons_succ, List.getElem_cons_zero, Act.put, List.setIfInBounds_toArray, List.set_cons_zero, List.set_cons_succ]
  refine wpAnyH_take (i := 8) (v := .int .u64 te) rfl (by as_aux_lemma => kernel_rfl) (by as_aux_lemma => kernel_rfl) (by as_aux_lemma => kernel_rfl) (fun _ _ _ h => h) (Or.inl ⟨by rfl, ?_⟩) hHeld ?_
  · intro w' hSw; go_simp
  simp only [List.getElem_toArray, List.getElem_cons_succ, List.getElem_cons_zero, Act.put, List.setIfInBounds_toArray, List.set_cons_zero, List.set_cons_succ]
  refine wpAnyH_take (i := 9) (v := .agg tr.toArray) rfl (by as_aux_lemma => kernel_rfl) (by as_aux_lemma => kernel_rfl) (by as_aux_lemma => kernel_rfl) (fun _ _ _ h => h) (yieldsIf_load_mid (by rfl) 48 _ rfl (w.heap.size + 1 + 1) 0 rfl tr _ (fun _ h => h.2.2) Try.underlying48 rfl hi3) hHeld ?_
  simp only [List.getElem_toArray, List.getElem_cons_succ, List.getElem_cons_zero, Act.put, List.setIfInBounds_toArray, List.set_cons_zero, List.set_cons_succ]
  refine wpAnyH_take (i := 10) (v := .bool fb) rfl (by as_aux_lemma => kernel_rfl) (by as_aux_lemma => kernel_rfl) (by as_aux_lemma => kernel_rfl) (fun _ _ _ h => h) (Or.inl ⟨by rfl, ?_⟩) hHeld ?_
  · intro w' hSw; go_simp
  simp only [List.getElem_toArray, List.getElem_cons_succ, List.getElem_cons_zero, Act.put, List.setIfInBounds_toArray, List.set_cons_zero, List.set_cons_succ]
  refine wpAnyH_ready (rs := [2]) (by as_aux_lemma => kernel_rfl) (by simp) ?_
  refine AllReadyH.cons rfl (fun K hK => ?_) AllReadyH.nil
  go_simp
  refine (clone12 (unhide Qa).s1 Za (by omega)).mono ?_
  rintro e y ⟨pa, pc, rfl, _, oy, by1⟩
  have hu := (unhide Qa).s1.u64
  have Qb := hide ((unhide Qa).below (by1.mono Za))
  have Vb := hide ((unhide Va).below by1)
  have Zb : bm ≤ y.heap.size := Nat.le_trans Za by1.size
  have Yb := hide (Sl.of_owns oy hu)
  have Bb := hide (((Below.refl bm x).drew).trans (by1.mono Za))
  clear Qa Va oy hHeld by1 Za hu
  dsimp only
  refine hK.out _ _ (unhide Qb).box (fun hHeld => ?_)
  clear hK K
  refine wpAnyH_ready (rs := [11]) (by as_aux_lemma => kernel_rfl) (by simp) ?_
  refine AllReadyH.cons rfl (fun K hK => ?_) AllReadyH.nil
  go_simp
  refine (vote33 sl ix se te hd sr tr fb (unhide H) (unhide HK) (unhide Vb) hs1 hbv Zb (unhide HI) (unhide Yb) (Nat.le_refl _) (by omega)).mono ?_
  rintro e z ⟨rfl, Vc, bz1⟩
  have Qc := hide ((unhide Qb).below bz1)
  have Vc := hide Vc
  have Bc := hide ((unhide Bb).trans bz1)
  clear Qb Vb Yb Bb hHeld bz1 Zb
  dsimp only
  refine hK.out _ _ (unhide Qc).box (fun hHeld => ?_)
  clear hK K
  refine wpAnyH_take (i := 12) (v := .int .i64 (vret st X B)) rfl (by as_aux_lemma => kernel_rfl) (by as_aux_lemma => kernel_rfl) (by as_aux_lemma => kernel_rfl) (fun _ _ _ h => h) (Or.inl ⟨by rfl, ?_⟩) hHeld ?_
  · intro w' hSw; go_simp
  simp only [List.getElem_toArray, List.getElem_cons_succ, List.getElem_cons_zero, Act.put, List.setIfInBounds_toArray, List.set_cons_zero, List.set_cons_succ]
  refine wpAnyH_done (by as_aux_lemma => kernel_rfl) ?_ _
  clear hHeld
  exact NoPanic.normal (unhide HP _ _ _ (unhide Qc) (unhide Vc) (unhide Bc))

set_option linter.unusedSimpArgs false in
set_option maxRecDepth 100000 in
set_option maxHeartbeats 4000000 in
theorem reg16 (sl ix se te : Int) (hd sr tr : List Value) (hA : Arrs hd sr tr) (fb : Bool) (w x : World) (hb bm vm : Nat) (p0 p1 : Option Addr) (n0 d0 n1 d1 : Nat) (A B X : List Int) (st : Nat) (kl : Lit) (hkl : keyOf Try.prog 69 (.agg (keyL sl ix se te hd sr tr fb).toArray) = some kl)
    (hB : B8 w x bm hd sr tr p0 n0 d0 A p1 n1 d1 B) (hV : VState x hb bm vm kl X st) (hs1 : st ≤ 1) (hbv : bm < vm) (hbx : bm ≤ x.heap.size) (hinc : st = 1 → incB X = true ∧ X.length ≤ 1000000) (hn : n1 ≤ 4096) {Q : Exit → Act → World → Prop}
    (v0 v4 v6 v8 v10 v11 v12 v13 v15 v17 v19 v20 v21 v22 v23 v24 v26 v27 v28 v29 v30 v31 v32 v33 v34 v35 v36 v37 v38 v39 v40 v41 v42 v43 v44 v45 v46 v47 v48 v49 v50 v51 v52 v53 v54 v55 v56 v57 v58 v59 v60 v61 v62 v63 v64 v65 v66 v67 v68 v69 v70 v71 v72 v73 v74 v75 v76 v77 v78 v79 v80 v81 v82 v83 v84 v85 v86 v87 v88 v89 v90 v91 v92 v93 v94 v95 v96 v97 v98 v99 v100 v101 v102 v103 v104 v105 v106 v107 v108 v109 v110 v111 v112 v113 v114 v115 v116 v117 v118 v119 v120 v121 v122 v123 v124 v125 v126 v127 v128 v129 v130 v131 v132 v133 v134 v135 v136 v137 v138 v139 v140 v141 v142 v143 v144 v145 v146 v147 v148 v149 v150 v151 v152 v153 v154 v155 v156 v157 v158 v159 v160 v161 v162 v163 v164 v165 v166 v167 v168 v169 : Value)
    (post : ∀ z pa pc, B8 w z bm hd sr tr p0 n0 d0 A p1 n1 d1 B → VState z hb bm vm kl (vlist st X B) (vst st X B) → Below bm x z → Q .normal { tmps := List.toArray (v0 :: .slice p1 n1 d1 :: .int .u64 sl :: .int .u64 ix :: v4 :: .int .u64 se :: v6 :: .int .u64 te :: v8 :: .bool fb :: v10 :: v11 :: v12 :: v13 :: .pointer (some ⟨w.heap.size, 0, none⟩) :: v15 :: .pointer (some ⟨w.heap.size + 1, 0, none⟩) :: v17 :: .pointer (some ⟨w.heap.size + 1 + 1, 0, none⟩) :: v19 :: v20 :: v21 :: v22 :: v23 :: v24 :: .pointer (some ⟨hb, 0, none⟩) :: .int .i64 (vret st X B) :: v27 :: v28 :: v29 :: v30 :: v31 :: v32 :: v33 :: v34 :: v35 :: v36 :: v37 :: v38 :: v39 :: v40 :: v41 :: v42 :: v43 :: v44 :: v45 :: v46 :: v47 :: v48 :: v49 :: v50 :: v51 :: v52 :: v53 :: v54 :: v55 :: v56 :: v57 :: v58 :: v59 :: v60 :: v61 :: v62 :: v63 :: v64 :: v65 :: v66 :: v67 :: v68 :: v69 :: v70 :: v71 :: v72 :: v73 :: v74 :: v75 :: v76 :: v77 :: v78 :: v79 :: v80 :: v81 :: v82 :: v83 :: v84 :: v85 :: v86 :: v87 :: v88 :: v89 :: v90 :: v91 :: v92 :: v93 :: v94 :: v95 :: v96 :: v97 :: .pointer (some ⟨hb, 0, none⟩) :: .slice p1 n1 d1 :: .slice pa n1 pc :: .int .u64 sl :: .int .u64 ix :: .agg hd.toArray :: .int .u64 se :: .agg sr.toArray :: .int .u64 te :: .agg tr.toArray :: .bool fb :: .int .i64 (vret st X B) :: v110 :: v111 :: v112 :: v113 :: v114 :: v115 :: v116 :: v117 :: v118 :: v119 :: v120 :: v121 :: v122 :: v123 :: v124 :: v125 :: v126 :: v127 :: v128 :: v129 :: v130 :: v131 :: v132 :: v133 :: v134 :: v135 :: v136 :: v137 :: v138 :: v139 :: v140 :: v141 :: v142 :: v143 :: v144 :: v145 :: v146 :: v147 :: v148 :: v149 :: v150 :: v151 :: v152 :: v153 :: v154 :: v155 :: v156 :: v157 :: v158 :: v159 :: v160 :: v161 :: v162 :: v163 :: v164 :: v165 :: v166 :: v167 :: v168 :: v169 :: []), defers := [] } z) :
    (Code.region 16 #[{ dst := some 98, op := Op.move (Operand.tmp 25), type := 50, pos := "laws_root_b1.go:376", after := #[], guard := none }, { dst := some 99, op := Op.move (Operand.tmp 1), type := 23, pos := "laws_root_b1.go:376", after := #[], guard := none }, { dst := some 100, op := Op.call { callee := Callee.value (Operand.func 12), args := #[Operand.tmp 99], argTypes := #[23] }, type := 23, pos := "laws_root_b1.go:376", after := #[{ on := 1, ground := Ground.data }], guard := none }, { dst := some 101, op := Op.move (Operand.tmp 2), type := 39, pos := "laws_root_b1.go:376", after := #[], guard := none }, { dst := some 102, op := Op.move (Operand.tmp 3), type := 39, pos := "laws_root_b1.go:376", after := #[], guard := none }, { dst := some 103, op := Op.load 48 (Operand.tmp 14), type := 48, pos := "laws_root_b1.go:376", after := #[], guard := none }, { dst := some 104, op := Op.move (Operand.tmp 5), type := 39, pos := "laws_root_b1.go:376", after := #[], guard := none }, { dst := some 105, op := Op.load 48 (Operand.tmp 16), type := 48, pos := "laws_root_b1.go:376", after := #[], guard := none }, { dst := some 106, op := Op.move (Operand.tmp 7), type := 39, pos := "laws_root_b1.go:376", after := #[], guard := none }, { dst := some 107, op := Op.load 48 (Operand.tmp 18), type := 48, pos := "laws_root_b1.go:376", after := #[], guard := none }, { dst := some 108, op := Op.move (Operand.tmp 9), type := 4, pos := "laws_root_b1.go:376", after := #[], guard := none }, { dst := some 109, op := Op.call { callee := Callee.value (Operand.func 33), args := #[Operand.tmp 98, Operand.tmp 100, Operand.tmp 101, Operand.tmp 102, Operand.tmp 103, Operand.tmp 104, Operand.tmp 105, Operand.tmp 106, Operand.tmp 107, Operand.tmp 108], argTypes := #[50, 23, 39, 39, 48, 39, 48, 39, 48, 4] }, type := 3, pos := "laws_root_b1.go:376", after := #[{ on := 0, ground := Ground.data }, { on := 2, ground := Ground.data }, { on := 3, ground := Ground.data }, { on := 4, ground := Ground.data }, { on := 5, ground := Ground.data }, { on := 6, ground := Ground.data }, { on := 7, ground := Ground.data }, { on := 8, ground := Ground.data }, { on := 9, ground := Ground.data }, { on := 10, ground := Ground.data }, { on := 2, ground := Ground.chain }], guard := none }, { dst := some 26, op := Op.assign (Operand.tmp 109), type := 3, pos := "laws_root_b1.go:376", after := #[{ on := 11, ground := Ground.data }, { on := 11, ground := Ground.chain }, { on := 0, ground := Ground.phase }, { on := 1, ground := Ground.phase }, { on := 2, ground := Ground.phase }, { on := 3, ground := Ground.phase }, { on := 4, ground := Ground.phase }, { on := 5, ground := Ground.phase }, { on := 6, ground := Ground.phase }, { on := 7, ground := Ground.phase }, { on := 8, ground := Ground.phase }, { on := 9, ground := Ground.phase }, { on := 10, ground := Ground.phase }, { on := 11, ground := Ground.phase }], guard := none }] true).wp Try.prog Q { tmps := List.toArray (v0 :: .slice p1 n1 d1 :: .int .u64 sl :: .int .u64 ix :: v4 :: .int .u64 se :: v6 :: .int .u64 te :: v8 :: .bool fb :: v10 :: v11 :: v12 :: v13 :: .pointer (some ⟨w.heap.size, 0, none⟩) :: v15 :: .pointer (some ⟨w.heap.size + 1, 0, none⟩) :: v17 :: .pointer (some ⟨w.heap.size + 1 + 1, 0, none⟩) :: v19 :: v20 :: v21 :: v22 :: v23 :: v24 :: .pointer (some ⟨hb, 0, none⟩) :: v26 :: v27 :: v28 :: v29 :: v30 :: v31 :: v32 :: v33 :: v34 :: v35 :: v36 :: v37 :: v38 :: v39 :: v40 :: v41 :: v42 :: v43 :: v44 :: v45 :: v46 :: v47 :: v48 :: v49 :: v50 :: v51 :: v52 :: v53 :: v54 :: v55 :: v56 :: v57 :: v58 :: v59 :: v60 :: v61 :: v62 :: v63 :: v64 :: v65 :: v66 :: v67 :: v68 :: v69 :: v70 :: v71 :: v72 :: v73 :: v74 :: v75 :: v76 :: v77 :: v78 :: v79 :: v80 :: v81 :: v82 :: v83 :: v84 :: v85 :: v86 :: v87 :: v88 :: v89 :: v90 :: v91 :: v92 :: v93 :: v94 :: v95 :: v96 :: v97 :: v98 :: v99 :: v100 :: v101 :: v102 :: v103 :: v104 :: v105 :: v106 :: v107 :: v108 :: v109 :: v110 :: v111 :: v112 :: v113 :: v114 :: v115 :: v116 :: v117 :: v118 :: v119 :: v120 :: v121 :: v122 :: v123 :: v124 :: v125 :: v126 :: v127 :: v128 :: v129 :: v130 :: v131 :: v132 :: v133 :: v134 :: v135 :: v136 :: v137 :: v138 :: v139 :: v140 :: v141 :: v142 :: v143 :: v144 :: v145 :: v146 :: v147 :: v148 :: v149 :: v150 :: v151 :: v152 :: v153 :: v154 :: v155 :: v156 :: v157 :: v158 :: v159 :: v160 :: v161 :: v162 :: v163 :: v164 :: v165 :: v166 :: v167 :: v168 :: v169 :: []), defers := [] } x := by
  have hi1 : (Try.prog.info? 48).map (·.size) = some hd.length := by rw [i48, hA.l1]
  have hi2 : (Try.prog.info? 48).map (·.size) = some sr.length := by rw [i48, hA.l2]
  have hi3 : (Try.prog.info? 48).map (·.size) = some tr.length := by rw [i48, hA.l3]
  have H := hide hA
  have HK := hide hkl
  have HI := hide hinc
  have Qa := hide (hB.below (x' := x.drew) ((Below.refl _ _).drew))
  have Va := hide (hV.below (w' := x.drew) ((Below.refl _ _).drew))
  have Za : bm ≤ x.drew.heap.size := by simpa using hbx
  have HP := hide post
  clear hA hkl hinc hB hV post
  refine wp_region_noPanic ?_
  refine wp_region_held_drew (S := fun w' => Box w' w.heap.size hd sr tr) (by as_aux_lemma => kernel_rfl) (unhide Qa).box (fun hHeld => ?_)
  refine wpAnyH_take (i := 0) (v := .pointer (some ⟨hb, 0, none⟩)) rfl (by as_aux_lemma => kernel_rfl) (by as_aux_lemma => kernel_rfl) (by as_aux_lemma => kernel_rfl) (fun _ _ _ h => h) (Or.inl ⟨by rfl, ?_⟩) hHeld ?_
  · intro w' hSw; go_simp
  simp only [List.getElem_toArray, List.getElem_cons_succ, List.getElem_cons_zero, Act.put, List.setIfInBounds_toArray, List.set_cons_zero, List.set_cons_succ]
  refine wpAnyH_take (i := 1) (v := .slice p1 n1 d1) rfl (by as_aux_lemma => kernel_rfl) (by as_aux_lemma => kernel_rfl) (by as_aux_lemma => kernel_rfl) (fun _ _ _ h => h) (Or.inl ⟨by rfl, ?_⟩) hHeld ?_
  · intro w' hSw; go_simp
  simp only [List.getElem_toArray, List.getElem_cons_succ, List.getElem_cons_zero, Act.put, List.setIfInBounds_toArray, List.set_cons_zero, List.set_cons_succ]
  refine wpAnyH_take (i := 3) (v := .int .u64 sl) rfl (by as_aux_lemma => kernel_rfl) (by as_aux_lemma => kernel_rfl) (by as_aux_lemma => kernel_rfl) (fun _ _ _ h => h) (Or.inl ⟨by rfl, ?_⟩) hHeld ?_
  · intro w' hSw; go_simp
  simp only [List.getElem_toArray, List.getElem_cons_succ, List.getElem_cons_zero, Act.put, List.setIfInBounds_toArray, List.set_cons_zero, List.set_cons_succ]
  refine wpAnyH_take (i := 4) (v := .int .u64 ix) rfl (by as_aux_lemma => kernel_rfl) (by as_aux_lemma => kernel_rfl) (by as_aux_lemma => kernel_rfl) (fun _ _ _ h => h) (Or.inl ⟨by rfl, ?_⟩) hHeld ?_
  · intro w' hSw; go_simp
  simp only [List.getElem_toArray, List.getElem_cons_succ, List.getElem_cons_zero, Act.put, List.setIfInBounds_toArray, List.set_cons_zero, List.set_cons_succ]
  refine wpAnyH_take (i := 5) (v := .agg hd.toArray) rfl (by as_aux_lemma => kernel_rfl) (by as_aux_lemma => kernel_rfl) (by as_aux_lemma => kernel_rfl) (fun _ _ _ h => h) (yieldsIf_load_mid (by rfl) 48 _ rfl w.heap.size 0 rfl hd _ (fun _ h => h.1) Try.underlying48 rfl hi1) hHeld ?_
  simp only [List.getElem_toArray, List.getElem_cons_succ, List.getElem_cons_zero, Act.put, List.setIfInBounds_toArray, List.set_cons_zero, List.set_cons_succ]
  refine wpAnyH_take (i := 6) (v := .int .u64 se) rfl (by as_aux_lemma => kernel_rfl) (by as_aux_lemma => kernel_rfl) (by as_aux_lemma => kernel_rfl) (fun _ _ _ h => h) (Or.inl ⟨by rfl, ?_⟩) hHeld ?_
  · intro w' hSw; go_simp
  simp only [List.getElem_toArray, List.getElem_cons_succ, List.getElem_cons_zero, Act.put, List.setIfInBounds_toArray, List.set_cons_zero, List.set_cons_succ]
  refine wpAnyH_take (i := 7) (v := .agg sr.toArray) rfl (by as_aux_lemma => kernel_rfl) (by as_aux_lemma => kernel_rfl) (by as_aux_lemma => kernel_rfl) (fun _ _ _ h => h) (yieldsIf_load_mid (by rfl) 48 _ rfl (w.heap.size + 1) 0 rfl sr _ (fun _ h => h.2.1) Try.underlying48 rfl hi2) hHeld ?_
  simp only [List.getElem_toArray, List.getElem_cons_succ, List.getElem_cons_zero, Act.put, List.setIfInBounds_toArray, List.set_cons_zero, List.set_cons_succ]
  refine wpAnyH_take (i := 8) (v := .int .u64 te) rfl (by as_aux_lemma => kernel_rfl) (by as_aux_lemma => kernel_rfl) (by as_aux_lemma => kernel_rfl) (fun _ _ _ h => h) (Or.inl ⟨by rfl, ?_⟩) hHeld ?_
  · intro w' hSw; go_simp
  simp only [List.getElem_toArray, List.getElem_cons_succ, List.getElem_cons_zero, Act.put, List.setIfInBounds_toArray, List.set_cons_zero, List.set_cons_succ]
  refine wpAnyH_take (i := 9) (v := .agg tr.toArray) rfl (by as_aux_lemma => kernel_rfl) (by as_aux_lemma => kernel_rfl) (by as_aux_lemma => kernel_rfl) (fun _ _ _ h => h) (yieldsIf_load_mid (by rfl) 48 _ rfl (w.heap.size + 1 + 1) 0 rfl tr _ (fun _ h => h.2.2) Try.underlying48 rfl hi3) hHeld ?_
  simp only [List.getElem_toArray, List.getElem_cons_succ, List.getElem_cons_zero, Act.put, List.setIfInBounds_toArray, List.set_cons_zero, List.set_cons_succ]
  refine wpAnyH_take (i := 10) (v := .bool fb) rfl (by as_aux_lemma => kernel_rfl) (by as_aux_lemma => kernel_rfl) (by as_aux_lemma => kernel_rfl) (fun _ _ _ h => h) (Or.inl ⟨by rfl, ?_⟩) hHeld ?_
  · intro w' hSw; go_simp
  simp only [List.getElem_toArray, List.getElem_cons_succ, List.getElem_cons_zero, Act.put, List.setIfInBounds_toArray, List.set_cons_zero, List.set_cons_succ]
  refine wpAnyH_ready (rs := [2]) (by as_aux_lemma => kernel_rfl) (by simp) ?_
  refine AllReadyH.cons rfl (fun K hK => ?_) AllReadyH.nil
  go_simp
  refine (clone12 (unhide Qa).s1 Za (by omega)).mono ?_
  rintro e y ⟨pa, pc, rfl, _, oy, by1⟩
  have hu := (unhide Qa).s1.u64
  have Qb := hide ((unhide Qa).below (by1.mono Za))
  have Vb := hide ((unhide Va).below by1)
  have Zb : bm ≤ y.heap.size := Nat.le_trans Za by1.size
  have Yb := hide (Sl.of_owns oy hu)
  have Bb := hide (((Below.refl bm x).drew).trans (by1.mono Za))
  clear Qa Va oy hHeld by1 Za hu
  dsimp only
  refine hK.out _ _ (unhide Qb).box (fun hHeld => ?_)
  clear hK K
  refine wpAnyH_ready (rs := [11]) (by as_aux_lemma => kernel_rfl) (by simp) ?_
  refine AllReadyH.cons rfl (fun K hK => ?_) AllReadyH.nil
  go_simp
  refine (vote33 sl ix se te hd sr tr fb (unhide H) (unhide HK) (unhide Vb) hs1 hbv Zb (unhide HI) (unhide Yb) (Nat.le_refl _) (by omega)).mono ?_
  rintro e z ⟨rfl, Vc, bz1⟩
  have Qc := hide ((unhide Qb).below bz1)
  have Vc := hide Vc
  have Bc := hide ((unhide Bb).trans bz1)
  clear Qb Vb Yb Bb hHeld bz1 Zb
  dsimp only
  refine hK.out _ _ (unhide Qc).box (fun hHeld => ?_)
  clear hK K
  refine wpAnyH_take (i := 12) (v := .int .i64 (vret st X B)) rfl (by as_aux_lemma => kernel_rfl) (by as_aux_lemma => kernel_rfl) (by as_aux_lemma => kernel_rfl) (fun _ _ _ h => h) (Or.inl ⟨by rfl, ?_⟩) hHeld ?_
  · intro w' hSw; go_simp
  simp only [List.getElem_toArray, List.getElem_cons_succ, List.getElem_cons_zero, Act.put, List.setIfInBounds_toArray, List.set_cons_zero, List.set_cons_succ]
  refine wpAnyH_done (by as_aux_lemma => kernel_rfl) ?_ _
  clear hHeld
  exact NoPanic.normal (unhide HP _ _ _ (unhide Qc) (unhide Vc) (unhide Bc))

set_option linter.unusedSimpArgs false in
set_option maxRecDepth 100000 in
set_option maxHeartbeats 4000000 in
theorem reg17 (sl ix se te : Int) (hd sr tr : List Value) (hA : Arrs hd sr tr) (fb : Bool) (w x : World) (hb bm vm : Nat) (p0 p1 : Option Addr) (n0 d0 n1 d1 : Nat) (A B X : List Int) (st : Nat) (kl : Lit) (hkl : keyOf Try.prog 69 (.agg (keyL sl ix se te hd sr tr fb).toArray) = some kl)
    (hB : B8 w x bm hd sr tr p0 n0 d0 A p1 n1 d1 B) (hV : VState x hb bm vm kl X st) (hs1 : st ≤ 1) (hbv : bm < vm) (hbx : bm ≤ x.heap.size) (hinc : st = 1 → incB X = true ∧ X.length ≤ 1000000) (hn : n0 ≤ 4096) {Q : Exit → Act → World → Prop}
    (v1 v4 v6 v8 v10 v11 v12 v13 v15 v17 v19 v20 v21 v22 v23 v24 v26 v27 v28 v29 v30 v31 v32 v33 v34 v35 v36 v37 v38 v39 v40 v41 v42 v43 v44 v45 v46 v47 v48 v49 v50 v51 v52 v53 v54 v55 v56 v57 v58 v59 v60 v61 v62 v63 v64 v65 v66 v67 v68 v69 v70 v71 v72 v73 v74 v75 v76 v77 v78 v79 v80 v81 v82 v83 v84 v85 v86 v87 v88 v89 v90 v91 v92 v93 v94 v95 v96 v97 v98 v99 v100 v101 v102 v103 v104 v105 v106 v107 v108 v109 v110 v111 v112 v113 v114 v115 v116 v117 v118 v119 v120 v121 v122 v123 v124 v125 v126 v127 v128 v129 v130 v131 v132 v133 v134 v135 v136 v137 v138 v139 v140 v141 v142 v143 v144 v145 v146 v147 v148 v149 v150 v151 v152 v153 v154 v155 v156 v157 v158 v159 v160 v161 v162 v163 v164 v165 v166 v167 v168 v169 : Value)
    (post : ∀ z pa pc, B8 w z bm hd sr tr p0 n0 d0 A p1 n1 d1 B → VState z hb bm vm kl (vlist st X A) (vst st X A) → Below bm x z → Q .normal { tmps := List.toArray (.slice p0 n0 d0 :: v1 :: .int .u64 sl :: .int .u64 ix :: v4 :: .int .u64 se :: v6 :: .int .u64 te :: v8 :: .bool fb :: v10 :: v11 :: v12 :: v13 :: .pointer (some ⟨w.heap.size, 0, none⟩) :: v15 :: .pointer (some ⟨w.heap.size + 1, 0, none⟩) :: v17 :: .pointer (some ⟨w.heap.size + 1 + 1, 0, none⟩) :: v19 :: v20 :: v21 :: v22 :: v23 :: v24 :: .pointer (some ⟨hb, 0, none⟩) :: v26 :: .int .i64 (vret st X A) :: v28 :: v29 :: v30 :: v31 :: v32 :: v33 :: v34 :: v35 :: v36 :: v37 :: v38 :: v39 :: v40 :: v41 :: v42 :: v43 :: v44 :: v45 :: v46 :: v47 :: v48 :: v49 :: v50 :: v51 :: v52 :: v53 :: v54 :: v55 :: v56 :: v57 :: v58 :: v59 :: v60 :: v61 :: v62 :: v63 :: v64 :: v65 :: v66 :: v67 :: v68 :: v69 :: v70 :: v71 :: v72 :: v73 :: v74 :: v75 :: v76 :: v77 :: v78 :: v79 :: v80 :: v81 :: v82 :: v83 :: v84 :: v85 :: v86 :: v87 :: v88 :: v89 :: v90 :: v91 :: v92 :: v93 :: v94 :: v95 :: v96 :: v97 :: v98 :: v99 :: v100 :: v101 :: v102 :: v103 :: v104 :: v105 :: v106 :: v107 :: v108 :: v109 :: .pointer (some ⟨hb, 0, none⟩) :: .slice p0 n0 d0 :: .slice pa n0 pc :: .int .u64 sl :: .int .u64 ix :: .agg hd.toArray :: .int .u64 se :: .agg sr.toArray :: .int .u64 te :: .agg tr.toArray :: .bool fb :: .int .i64 (vret st X A) :: v122 :: v123 :: v124 :: v125 :: v126 :: v127 :: v128 :: v129 :: v130 :: v131 :: v132 :: v133 :: v134 :: v135 :: v136 :: v137 :: v138 :: v139 :: v140 :: v141 :: v142 :: v143 :: v144 :: v145 :: v146 :: v147 :: v148 :: v149 :: v150 :: v151 :: v152 :: v153 :: v154 :: v155 :: v156 :: v157 :: v158 :: v159 :: v160 :: v161 :: v162 :: v163 :: v164 :: v165 :: v166 :: v167 :: v168 :: v169 :: []), defers := [] } z) :
    (Code.region 17 #[{ dst := some 110, op := Op.move (Operand.tmp 25), type := 50, pos := "laws_root_b1.go:377", after := #[], guard := none }, { dst := some 111, op := Op.move (Operand.tmp 0), type := 23, pos := "laws_root_b1.go:377", after := #[], guard := none }, { dst := some 112, op := Op.call { callee := Callee.value (Operand.func 12), args := #[Operand.tmp 111], argTypes := #[23] }, type := 23, pos := "laws_root_b1.go:377", after := #[{ on := 1, ground := Ground.data }], guard := none }, { dst := some 113, op := Op.move (Operand.tmp 2), type := 39, pos := "laws_root_b1.go:377", after := #[], guard := none }, { dst := some 114, op := Op.move (Operand.tmp 3), type := 39, pos := "laws_root_b1.go:377", after := #[], guard := none }, { dst := some 115, op := Op.load 48 (Operand.tmp 14), type := 48, pos := "laws_root_b1.go:377", after := #[], guard := none }, { dst := some 116, op := Op.move (Operand.tmp 5), type := 39, pos := "laws_root_b1.go:377", after := #[], guard := none }, { dst := some 117, op := Op.load 48 (Operand.tmp 16), type := 48, pos := "laws_root_b1.go:377", after := #[], guard := none }, { dst := some 118, op := Op.move (Operand.tmp 7), type := 39, pos := "laws_root_b1.go:377", after := #[], guard := none }, { dst := some 119, op := Op.load 48 (Operand.tmp 18), type := 48, pos := "laws_root_b1.go:377", after := #[], guard := none }, { dst := some 120, op := Op.move (Operand.tmp 9), type := 4, pos := "laws_root_b1.go:377", after := #[], guard := none }, { dst := some 121, op := Op.call { callee := Callee.value (Operand.func 33), args := #[Operand.tmp 110, Operand.tmp 112, Operand.tmp 113, Operand.tmp 114, Operand.tmp 115, Operand.tmp 116, Operand.tmp 117, Operand.tmp 118, Operand.tmp 119, Operand.tmp 120], argTypes := #[50, 23, 39, 39, 48, 39, 48, 39, 48, 4] }, type := 3, pos := "laws_root_b1.go:377", after := #[{ on := 0, ground := Ground.data }, { on := 2, ground := Ground.data }, { on := 3, ground := Ground.data }, { on := 4, ground := Ground.data }, { on := 5, ground := Ground.data }, { on := 6, ground := Ground.data }, { on := 7, ground := Ground.data }, { on := 8, ground := Ground.data }, { on := 9, ground := Ground.data }, { on := 10, ground := Ground.data }, { on := 2, ground := Ground.chain }], guard := none }, { dst := some 27, op := Op.assign (Operand.tmp 121), type := 3, pos := "laws_root_b1.go:377", after := #[{ on := 11, ground := Ground.data }, { on := 11, ground := Ground.chain }, { on := 0, ground := Ground.phase }, { on := 1, ground := Ground.phase }, { on := 2, ground := Ground.phase }, { on := 3, ground := Ground.phase }, { on := 4, ground := Ground.phase }, { on := 5, ground := Ground.phase }, { on := 6, ground := Ground.phase }, { on := 7, ground := Ground.phase }, { on := 8, ground := Ground.phase }, { on := 9, ground := Ground.phase }, { on := 10, ground := Ground.phase }, { on := 11, ground := Ground.phase }], guard := none }] true).wp Try.prog Q { tmps := List.toArray (.slice p0 n0 d0 :: v1 :: .int .u64 sl :: .int .u64 ix :: v4 :: .int .u64 se :: v6 :: .int .u64 te :: v8 :: .bool fb :: v10 :: v11 :: v12 :: v13 :: .pointer (some ⟨w.heap.size, 0, none⟩) :: v15 :: .pointer (some ⟨w.heap.size + 1, 0, none⟩) :: v17 :: .pointer (some ⟨w.heap.size + 1 + 1, 0, none⟩) :: v19 :: v20 :: v21 :: v22 :: v23 :: v24 :: .pointer (some ⟨hb, 0, none⟩) :: v26 :: v27 :: v28 :: v29 :: v30 :: v31 :: v32 :: v33 :: v34 :: v35 :: v36 :: v37 :: v38 :: v39 :: v40 :: v41 :: v42 :: v43 :: v44 :: v45 :: v46 :: v47 :: v48 :: v49 :: v50 :: v51 :: v52 :: v53 :: v54 :: v55 :: v56 :: v57 :: v58 :: v59 :: v60 :: v61 :: v62 :: v63 :: v64 :: v65 :: v66 :: v67 :: v68 :: v69 :: v70 :: v71 :: v72 :: v73 :: v74 :: v75 :: v76 :: v77 :: v78 :: v79 :: v80 :: v81 :: v82 :: v83 :: v84 :: v85 :: v86 :: v87 :: v88 :: v89 :: v90 :: v91 :: v92 :: v93 :: v94 :: v95 :: v96 :: v97 :: v98 :: v99 :: v100 :: v101 :: v102 :: v103 :: v104 :: v105 :: v106 :: v107 :: v108 :: v109 :: v110 :: v111 :: v112 :: v113 :: v114 :: v115 :: v116 :: v117 :: v118 :: v119 :: v120 :: v121 :: v122 :: v123 :: v124 :: v125 :: v126 :: v127 :: v128 :: v129 :: v130 :: v131 :: v132 :: v133 :: v134 :: v135 :: v136 :: v137 :: v138 :: v139 :: v140 :: v141 :: v142 :: v143 :: v144 :: v145 :: v146 :: v147 :: v148 :: v149 :: v150 :: v151 :: v152 :: v153 :: v154 :: v155 :: v156 :: v157 :: v158 :: v159 :: v160 :: v161 :: v162 :: v163 :: v164 :: v165 :: v166 :: v167 :: v168 :: v169 :: []), defers := [] } x := by
  have hi1 : (Try.prog.info? 48).map (·.size) = some hd.length := by rw [i48, hA.l1]
  have hi2 : (Try.prog.info? 48).map (·.size) = some sr.length := by rw [i48, hA.l2]
  have hi3 : (Try.prog.info? 48).map (·.size) = some tr.length := by rw [i48, hA.l3]
  have H := hide hA
  have HK := hide hkl
  have HI := hide hinc
  have Qa := hide (hB.below (x' := x.drew) ((Below.refl _ _).drew))
  have Va := hide (hV.below (w' := x.drew) ((Below.refl _ _).drew))
  have Za : bm ≤ x.drew.heap.size := by simpa using hbx
  have HP := hide post
  clear hA hkl hinc hB hV post
  refine wp_region_noPanic ?_
  refine wp_region_held_drew (S := fun w' => Box w' w.heap.size hd sr tr) (by as_aux_lemma => kernel_rfl) (unhide Qa).box (fun hHeld => ?_)
  refine wpAnyH_take (i := 0) (v := .pointer (some ⟨hb, 0, none⟩)) rfl (by as_aux_lemma => kernel_rfl) (by as_aux_lemma => kernel_rfl) (by as_aux_lemma => kernel_rfl) (fun _ _ _ h => h) (Or.inl ⟨by rfl, ?_⟩) hHeld ?_
  · intro w' hSw; go_simp
  simp only [List.getElem_toArray, List.getElem_cons_succ, List.getElem_cons_zero, Act.put, List.setIfInBounds_toArray, List.set_cons_zero, List.set_cons_succ]
  refine wpAnyH_take (i := 1) (v := .slice p0 n0 d0) rfl (by as_aux_lemma => kernel_rfl) (by as_aux_lemma => kernel_rfl) (by as_aux_lemma => kernel_rfl) (fun _ _ _ h => h) (Or.inl ⟨by rfl, ?_⟩) hHeld ?_
  · intro w' hSw; go_simp
  simp only [List.getElem_toArray, List.getElem_cons_succ, List.getElem_cons_zero, Act.put, List.setIfInBounds_toArray, List.set_cons_zero, List.set_cons_succ]
  refine wpAnyH_take (i := 3) (v := .int .u64 sl) rfl (by as_aux_lemma => kernel_rfl) (by as_aux_lemma => kernel_rfl) (by as_aux_lemma => kernel_rfl) (fun _ _ _ h => h) (Or.inl ⟨by rfl, ?_⟩) hHeld ?_
  · intro w' hSw; go_simp
  simp only [List.getElem_toArray, List.getElem_cons_succ, List.getElem_cons_zero, Act.put, List.setIfInBounds_toArray, List.set_cons_zero, List.set_cons_succ]
  refine wpAnyH_take (i := 4) (v := .int .u64 ix) rfl (by as_aux_lemma => kernel_rfl) (by as_aux_lemma => kernel_rfl) (by as_aux_lemma => kernel_rfl) (fun _ _ _ h => h) (Or.inl ⟨by rfl, ?_⟩) hHeld ?_
  · intro w' hSw; go_simp
  simp only [List.getElem_toArray, List.getElem_cons_succ, List.getElem_cons_zero, Act.put, List.setIfInBounds_toArray, List.set_cons_zero, List.set_cons_succ]
  refine wpAnyH_take (i := 5) (v := .agg hd.toArray) rfl (by as_aux_lemma => kernel_rfl) (by as_aux_lemma => kernel_rfl) (by as_aux_lemma => kernel_rfl) (fun _ _ _ h => h) (yieldsIf_load_mid (by rfl) 48 _ rfl w.heap.size 0 rfl hd _ (fun _ h => h.1) Try.underlying48 rfl hi1) hHeld ?_
  simp only [List.getElem_toArray, List.getElem_cons_succ, List.getElem_cons_zero, Act.put, List.setIfInBounds_toArray, List.set_cons_zero, List.set_cons_succ]
  refine wpAnyH_take (i := 6) (v := .int .u64 se) rfl (by as_aux_lemma => kernel_rfl) (by as_aux_lemma => kernel_rfl) (by as_aux_lemma => kernel_rfl) (fun _ _ _ h => h) (Or.inl ⟨by rfl, ?_⟩) hHeld ?_
  · intro w' hSw; go_simp
  simp only [List.getElem_toArray, List.getElem_cons_succ, List.getElem_cons_zero, Act.put, List.setIfInBounds_toArray, List.set_cons_zero, List.set_cons_succ]
  refine wpAnyH_take (i := 7) (v := .agg sr.toArray) rfl (by as_aux_lemma => kernel_rfl) (by as_aux_lemma => kernel_rfl) (by as_aux_lemma => kernel_rfl) (fun _ _ _ h => h) (yieldsIf_load_mid (by rfl) 48 _ rfl (w.heap.size + 1) 0 rfl sr _ (fun _ h => h.2.1) Try.underlying48 rfl hi2) hHeld ?_
  simp only [List.getElem_toArray, List.getElem_cons_succ, List.getElem_cons_zero, Act.put, List.setIfInBounds_toArray, List.set_cons_zero, List.set_cons_succ]
  refine wpAnyH_take (i := 8) (v := .int .u64 te) rfl (by as_aux_lemma => kernel_rfl) (by as_aux_lemma => kernel_rfl) (by as_aux_lemma => kernel_rfl) (fun _ _ _ h => h) (Or.inl ⟨by rfl, ?_⟩) hHeld ?_
  · intro w' hSw; go_simp
  simp only [List.getElem_toArray, List.getElem_cons_succ, List.getElem_cons_zero, Act.put, List.setIfInBounds_toArray, List.set_cons_zero, List.set_cons_succ]
  refine wpAnyH_take (i := 9) (v := .agg tr.toArray) rfl (by as_aux_lemma => kernel_rfl) (by as_aux_lemma => kernel_rfl) (by as_aux_lemma => kernel_rfl) (fun _ _ _ h => h) (yieldsIf_load_mid (by rfl) 48 _ rfl (w.heap.size + 1 + 1) 0 rfl tr _ (fun _ h => h.2.2) Try.underlying48 rfl hi3) hHeld ?_
  simp only [List.getElem_toArray, List.getElem_cons_succ, List.getElem_cons_zero, Act.put, List.setIfInBounds_toArray, List.set_cons_zero, List.set_cons_succ]
  refine wpAnyH_take (i := 10) (v := .bool fb) rfl (by as_aux_lemma => kernel_rfl) (by as_aux_lemma => kernel_rfl) (by as_aux_lemma => kernel_rfl) (fun _ _ _ h => h) (Or.inl ⟨by rfl, ?_⟩) hHeld ?_
  · intro w' hSw; go_simp
  simp only [List.getElem_toArray, List.getElem_cons_succ, List.getElem_cons_zero, Act.put, List.setIfInBounds_toArray, List.set_cons_zero, List.set_cons_succ]
  refine wpAnyH_ready (rs := [2]) (by as_aux_lemma => kernel_rfl) (by simp) ?_
  refine AllReadyH.cons rfl (fun K hK => ?_) AllReadyH.nil
  go_simp
  refine (clone12 (unhide Qa).s0 Za (by omega)).mono ?_
  rintro e y ⟨pa, pc, rfl, _, oy, by1⟩
  have hu := (unhide Qa).s0.u64
  have Qb := hide ((unhide Qa).below (by1.mono Za))
  have Vb := hide ((unhide Va).below by1)
  have Zb : bm ≤ y.heap.size := Nat.le_trans Za by1.size
  have Yb := hide (Sl.of_owns oy hu)
  have Bb := hide (((Below.refl bm x).drew).trans (by1.mono Za))
  clear Qa Va oy hHeld by1 Za hu
  dsimp only
  refine hK.out _ _ (unhide Qb).box (fun hHeld => ?_)
  clear hK K
  refine wpAnyH_ready (rs := [11]) (by as_aux_lemma => kernel_rfl) (by simp) ?_
  refine AllReadyH.cons rfl (fun K hK => ?_) AllReadyH.nil
  go_simp
  refine (vote33 sl ix se te hd sr tr fb (unhide H) (unhide HK) (unhide Vb) hs1 hbv Zb (unhide HI) (unhide Yb) (Nat.le_refl _) (by omega)).mono ?_
  rintro e z ⟨rfl, Vc, bz1⟩
  have Qc := hide ((unhide Qb).below bz1)
  have Vc := hide Vc
  have Bc := hide ((unhide Bb).trans bz1)
  clear Qb Vb Yb Bb hHeld bz1 Zb
  dsimp only
  refine hK.out _ _ (unhide Qc).box (fun hHeld => ?_)
  clear hK K
  refine wpAnyH_take (i := 12) (v := .int .i64 (vret st X A)) rfl (by as_aux_lemma => kernel_rfl) (by as_aux_lemma => kernel_rfl) (by as_aux_lemma => kernel_rfl) (fun _ _ _ h => h) (Or.inl ⟨by rfl, ?_⟩) hHeld ?_
  · intro w' hSw; go_simp
  simp only [List.getElem_toArray, List.getElem_cons_succ, List.getElem_cons_zero, Act.put, List.setIfInBounds_toArray, List.set_cons_zero, List.set_cons_succ]
  refine wpAnyH_done (by as_aux_lemma => kernel_rfl) ?_ _
  clear hHeld
  exact NoPanic.normal (unhide HP _ _ _ (unhide Qc) (unhide Vc) (unhide Bc))

end Go.Proofs.Qxb6603397a
