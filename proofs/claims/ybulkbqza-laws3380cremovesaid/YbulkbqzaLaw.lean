/-
  Seat b3380a. The walk of the law.
-/
import Derived.Test.YbulkbqzaLwa
import Derived.Test.YbulkbqzaCw
namespace Go.Proofs.Ybulkbqza
open Go.RowKit
set_option linter.unusedVariables false
set_option maxRecDepth 100000
set_option linter.unusedSimpArgs false

set_option maxHeartbeats 4000000 in
theorem law_calls (a0 : Option Addr) (cap0 : Nat) (z0 : List Nat) (a1 : Nat) (a2 : Option Addr) (cap2 : Nat) (z2 : List Nat) (w : World) (n0 n2 : Nat) (hn0 : Hid (z0.length = n0)) (hn2 : Hid (z2.length = n2)) (R0 : Row16 w a0 z0) (h1 : a1 < 65536) (R2 : Row16 w a2 z2) :
    Calls Yba.prog 3 #[.slice a0 n0 cap0, .int .u16 (a1 : Int), .slice a2 n2 cap2] w fun e w' => e = .returned (.bool true) ∧ Below w.heap.size w w' := by
  go_enter Yba.func3, Yba.ntmps3
  by_cases c0 : (2048 : Int) < n0
  · go_wp2_with fail
    go_ret
    exact ⟨rfl, Below.refl _ _⟩
  by_cases c2 : (2048 : Int) < n2
  · go_wp2_with fail
    go_ret
    exact ⟨rfl, Below.refl _ _⟩
  have eb := run_build24
  obtain ⟨C, hC⟩ : ∃ C, Hid (C = n0 + 1024) := ⟨_, rfl⟩
  have hCb : C < 4000 := by have := hC.out; omega
  obtain ⟨vb, hvb⟩ : ∃ vb, w.heap.size = vb := ⟨_, rfl⟩
  go_wp2_with (refine mk24 rfl (.const (.int .i64 0)) (.tmp 34) rfl .i64 .i64 0 ((n0 : Int) + 1024) 0 C ?_ ?_ rfl (by have := hC.out; omega) (by omega) (by omega) ?_; rfl; rfl; intro w1 B1 b1 s1)
  rw [hvb] at B1 b1
  go_loopg [38, 7] n0 (fun k s38 s7 wr => ∃ (i : Nat) (vs : List Nat), s38 = .int .i64 i ∧ s7 = .slice (some ⟨vb, 0, none⟩) i C ∧ i + k = n0 ∧ Hid (vs.length = i) ∧ (∀ v ∈ vs, v < 4294967296) ∧ Vals wr vb C vs ∧ Below vb w wr)
  case atStart => exact ⟨0, [], rfl, rfl, by omega, rfl, by simp, Vals.zero B1, b1⟩
  case round =>
    clear B1 b1 s1
    obtain ⟨i, vs, rfl, rfl, hik, hvs, hsm, V, hb⟩ := hrel
    cases gk with
    | succ k =>
      obtain ⟨z, hz⟩ : ∃ z, z0[i]? = some z := ⟨_, List.getElem?_eq_getElem (by have := hn0.out; omega)⟩
      have hzs := R0.1 z (List.mem_of_getElem? hz)
      obtain ⟨b, o, rfl, hbw, hcell⟩ := R0.2 i z hz
      have hcr : wr.cell? ⟨b, o + i, none⟩ = some (.int .u16 (z : Int)) := (hb.cell (p := ⟨b, o + i, none⟩) (by rw [← hvb]; exact hbw)).trans hcell
      have hlt : (i : Int) < n0 := by omega
      have hil : vs.length < C := by have := hvs.out; have := hC.out; omega
      have VA := V.below (w' := wr.alloc (.cells #[.int .u32 (z : Int)] 25)) ((Below.refl _ wr).alloc (Nat.le_refl _) _)
      have T := VA.room hil
      have BX := Blk.new wr [.int .u32 (z : Int)] 25
      have hc : ∀ j u, [Value.int .u32 (z : Int)][j]? = some u → (wr.alloc (.cells #[.int .u32 (z : Int)] 25)).cell? ((⟨wr.heap.size, 0, none⟩ : Addr).add j) = some u := fun j u hu => by
        rw [Addr.add_mid, BX.cell, Nat.zero_add]
        exact hu
      have VP := VA.push hil z
      have bP : Below vb w ((wr.alloc (.cells #[.int .u32 (z : Int)] 25)).setCells vb (0 + vs.length * 1) [.int .u32 (z : Int)]) := Below.setCells (hb.alloc (by have := hb.size; omega) _) (Nat.le_refl _) _ _
      rw [hvs.out] at T VP bP
      simp only [Nat.zero_add, Nat.mul_one] at VP bP
      have hroom : i + 1 ≤ C := by have := hvs.out; omega
      go_wp2_with (at_builtin; refine app_room rfl (.tmp 42) (.tmp 45) 24 rfl 25 1 Yba.underlying24 info25_q vb 0 i C ?_ ⟨wr.heap.size, 0, none⟩ 1 1 [.int .u32 (z : Int)] ?_ rfl hc (by intro u hu; rw [List.mem_singleton.1 hu]; rfl) hroom T ?_; rfl; rfl)
      go_roundg k
      case measure => omega
      case rel =>
        refine ⟨i + 1, vs ++ [z], by simp, by simp, by omega, by show _ = _; rw [List.length_append, hvs.out]; rfl, ?_, VP, bP⟩
        intro v hv
        rcases List.mem_append.1 hv with hv | hv
        · exact hsm v hv
        · rw [List.mem_singleton.1 hv]; omega
    | zero =>
      obtain rfl : i = n0 := by omega
      clear R0 hik
      obtain ⟨m, hm⟩ : ∃ m, a1 % 1024 = m := ⟨_, rfl⟩
      have hm1 : m < 1024 := by omega
      have hma : (a1 : Int) % 1024 = (m : Int) := by omega
      have hmt : Int.tmod (a1 : Int) 1024 = (m : Int) := by rw [Int.tmod_eq_emod_of_nonneg (by omega)]; exact hma
      go_wp2_with fail
      clear hma hmt hm h1
      obtain ⟨wA, rfl⟩ : ∃ x, x = wr := ⟨_, rfl⟩
      go_loopg [11, 7] m (fun k s11 s7 wr => ∃ (j : Nat) (us : List Nat), s11 = .int .i64 j ∧ s7 = .slice (some ⟨vb, 0, none⟩) (i + j) C ∧ j + k = m ∧ Hid (us.length = i + j) ∧ (∀ v ∈ us, v < 4294967296) ∧ Vals wr vb C us ∧ Below vb w wr)
      case atStart => exact ⟨0, vs, rfl, rfl, by omega, hvs, hsm, V, hb⟩
      case round =>
        clear V hb hsm hvs
        obtain ⟨j, vs, rfl, rfl, hjk, hvs, hsm, V, hb⟩ := hrel
        cases gk with
        | succ k =>
          have hlt : (j : Int) < m := by omega
          have hil : vs.length < C := by have := hvs.out; have := hC.out; omega
          obtain ⟨v, hv⟩ : ∃ v : Nat, 65536 + (j : Int) * 2 = (v : Int) := ⟨65536 + j * 2, by omega⟩
          have hv9 : v < 4294967296 := by omega
          have VA := V.below (w' := wr.alloc (.cells #[.int .u32 (v : Int)] 25)) ((Below.refl _ wr).alloc (Nat.le_refl _) _)
          have T := VA.room hil
          have BX := Blk.new wr [.int .u32 (v : Int)] 25
          have hc : ∀ j u, [Value.int .u32 (v : Int)][j]? = some u → (wr.alloc (.cells #[.int .u32 (v : Int)] 25)).cell? ((⟨wr.heap.size, 0, none⟩ : Addr).add j) = some u := fun j u hu => by
            rw [Addr.add_mid, BX.cell, Nat.zero_add]
            exact hu
          have VP := VA.push hil v
          have bP : Below vb w ((wr.alloc (.cells #[.int .u32 (v : Int)] 25)).setCells vb (0 + vs.length * 1) [.int .u32 (v : Int)]) := Below.setCells (hb.alloc (by have := hb.size; omega) _) (Nat.le_refl _) _ _
          rw [hvs.out] at T VP bP
          simp only [Nat.zero_add, Nat.mul_one] at VP bP
          have hroom : i + j + 1 ≤ C := by have := hvs.out; omega
          go_wp2_with (at_builtin; refine app_room rfl (.tmp 56) (.tmp 61) 24 rfl 25 1 Yba.underlying24 info25_q vb 0 (i + j) C ?_ ⟨wr.heap.size, 0, none⟩ 1 1 [.int .u32 (v : Int)] ?_ rfl hc (by intro u hu; rw [List.mem_singleton.1 hu]; rfl) hroom T ?_; rfl; rfl)
          go_roundg k
          case measure => omega
          case rel =>
            refine ⟨j + 1, vs ++ [v], by simp, by simp [Nat.add_assoc], by omega, by show _ = _; rw [List.length_append, hvs.out]; rfl, ?_, VP, bP⟩
            intro v hv
            rcases List.mem_append.1 hv with hv | hv
            · exact hsm v hv
            · rw [List.mem_singleton.1 hv]; omega
        | zero =>
          obtain rfl : j = m := by omega
          clear hjk
          obtain ⟨K, hK⟩ : ∃ K, i + j = K := ⟨_, rfl⟩
          have hKC : K < 4000 := by have := V.1; have := hvs.out; omega
          have hKC2 : K ≤ C := by have := V.1; have := hvs.out; omega
          rw [hK] at hvs ⊢
          have hjj : ¬ (j : Int) < j := by omega
          have hdK : (vs.map fun (v : Nat) => (v : Int)).toArray.size = K := by simpa using hvs.out
          have VR := V.row
          have hVl := V.lt
          have hdall : ∀ x ∈ (vs.map fun (v : Nat) => (v : Int)).toArray.toList, 0 ≤ x ∧ x < 4294967296 := by
            intro x hx
            simp at hx
            obtain ⟨v, hv, rfl⟩ := hx
            have := hsm v hv
            omega
          generalize (vs.map fun (v : Nat) => (v : Int)).toArray = d at *
          replace hK := Hid.mk' hK
          replace hdK := Hid.mk' hdK
          clear V hsm hvs
          go_wp2_with (first
            | (go_at_call 5; refine (sort_calls vb 0 K C d hdK.out _ VR (by omega)).mono ?_; rintro e w2 ⟨rfl, d', hp, hs, hS⟩
               have hC6 := compact_calls vb C d' w2 hS.row (fun i j h1 h2 => by have h3 := hs i j (Nat.zero_le _) h1 (by rw [← hS.size]; exact h2); simpa [Go.Sort.ltInt] using h3) (by rw [hS.size]; exact hKC2) (by rw [hS.size]; omega)
               have hsz6 := hS.size
               rw [hsz6] at hC6))
          refine hC6.mono ?_
          rintro e w3 ⟨ys, rfl, hys, hym, hyl, hyc, hyk⟩
          clear hC6
          obtain ⟨xs, rfl, hxs⟩ := nat_list ys (fun y hy => by obtain ⟨j, hj, rfl⟩ := hym y hy; exact perm_all hdK.out hp _ hdall j (by rw [hS.size]; exact hj))
          replace hys := nat_sorted hys
          rw [List.length_map] at hyl
          have hk23 : Kept (· = vb) wr w3 := hS.kept.trans hyk
          have hb3 : Below vb w w3 := hb.trans (hk23.below (Nat.le_of_lt hVl) (fun b hb e => by omega))
          have hcx : ∀ (j x : Nat), xs[j]? = some x → w3.cell? ⟨vb, j, none⟩ = some (.int .u32 (x : Int)) := fun j x hx => hyc j _ (by rw [List.getElem?_map, hx]; rfl)
          have hvl3 : vb < w3.heap.size := Nat.lt_of_lt_of_le hVl hk23.size
          obtain ⟨n, hn⟩ : ∃ n, xs.length = n := ⟨_, rfl⟩
          have hnC : n < 4000 := by omega
          obtain ⟨mb, hmb⟩ : ∃ mb, w3.heap.size = mb := ⟨_, rfl⟩
          rw [List.length_map, hn]
          replace hn := Hid.mk' hn
          clear hym hyc hyk hS hs hp hyl
          go_wp2_with (refine mk30 rfl (.tmp 68) (.tmp 68) rfl .i64 .i64 (n : Int) (n : Int) n n ?_ ?_ rfl rfl (Nat.le_refl _) (by omega) ?_; rfl; rfl; intro w4 BM b4 s4)
          rw [hmb] at BM b4 s4
          have hvm : vb < mb := by omega
          clear hvl3 hsz6 hdK hdall VR hVl hb hk23 hjj
          obtain ⟨wB, rfl⟩ : ∃ x, x = wr := ⟨_, rfl⟩
          go_loopg [72] n (fun k s72 wr => ∃ (p : Nat), s72 = .int .i64 p ∧ p + k = n ∧ Blk wr mb (ids (xs.take p ++ List.replicate k 0)) 30 ∧ Below mb w3 wr)
          case atStart => exact ⟨0, rfl, by omega, by simpa using BM, b4⟩
          case round =>
            clear BM b4 s4
            obtain ⟨p, rfl, hpk, BM, b4⟩ := hrel
            cases gk with
            | succ k =>
              have hlt : (p : Int) < n := by omega
              obtain ⟨x, hx⟩ : ∃ x, xs[p]? = some x := ⟨_, List.getElem?_eq_getElem (by have := hn.out; omega)⟩
              have hx9 := hxs x (List.mem_of_getElem? hx)
              have hcr : wr.cell? ⟨vb, p, none⟩ = some (.int .u32 (x : Int)) := (b4.cell (p := ⟨vb, p, none⟩) hvm).trans (hcx p x hx)
              go_wp2_with (first
                | (go_at_call 7; refine (id_calls x hx9 _).mono ?_; rintro e w5 ⟨rfl, b5⟩; obtain ⟨T5, B5⟩ := blk_fill (BM.below b5) hx)
                | (refine st30 rfl rfl (.tmp 81) (.tmp 80) rfl mb (p * 20) x ?_ ?_ ?_ ?_; rfl; rfl; exact T5))
              go_roundg k
              case measure => omega
              case rel =>
                exact ⟨p + 1, by simp, by omega, B5, Below.setCells (b4.trans (b5.mono (by have := BM.lt; omega))) (Nat.le_refl _) _ _⟩
            | zero =>
              obtain rfl : p = n := by omega
              clear hpk
              rw [List.take_of_length_le (by rw [hn.out]; exact Nat.le_refl _), List.replicate_zero, List.append_nil] at BM
              have hI : Ids wr mb 0 xs := by
                have h9 := BM.ids 0 (zs := xs) (by simp)
                simpa using h9
              have hlm := BM.lt
              have hC9 := clone_calls mb p p xs wr hlm hI hn.out (by omega)
              have hnle : p ≤ p := Nat.le_refl _
              go_wp2_with (first
                | (go_at_call 9; refine hC9.mono ?_; rintro e w6 ⟨g, cap', rfl, hg1, hg2, hg3, b6, hcp⟩
                   have hC8 := treeOf_calls g cap' xs w6 hg2 hg3 (by rw [hn.out]; exact hcp) hys hxs (by rw [hn.out]; exact hnC)
                   rw [hn.out] at hC8)
                | (go_at_call 8; refine hC8.mono ?_; intro e w7 hTO; obtain ⟨rp, own, rfl, b7, hnew, hKT⟩ := tree_any hTO; clear hTO hC8
                   have B7 := Blk.new w7 [.pointer none, .nilFunc] 36
                   have T7 := B7.there (o := 0) (n := 2) (by simp))
                | (refine st36 rfl rfl (.tmp 15) (.tmp 85) rfl w7.heap.size 0 (.pointer rp) (.func (.func 10) #[] #[]) ?_ ?_ T7 rfl rfl ?_; rfl; rfl))
              have b8 : Below w7.heap.size w7 ((w7.alloc (.cells #[.pointer none, .nilFunc] 36)).setCells w7.heap.size 0 [.pointer rp, .func (.func 10) #[] #[]]) := Below.setCells ((Below.refl _ w7).alloc (Nat.le_refl _) _) (Nat.le_refl _) _ _
              have B8 : Blk ((w7.alloc (.cells #[.pointer none, .nilFunc] 36)).setCells w7.heap.size 0 [.pointer rp, .func (.func 10) #[] #[]]) w7.heap.size [.pointer rp, .func (.func 10) #[] #[]] 36 := B7.over rfl
              generalize (w7.alloc (.cells #[.pointer none, .nilFunc] 36)).setCells w7.heap.size 0 [.pointer rp, .func (.func 10) #[] #[]] = w8 at *
              obtain ⟨tb, htb⟩ : ∃ tb, w7.heap.size = tb := ⟨_, rfl⟩
              have sz6 := b6.size
              have sz7 := b7.size
              have b68 : Below wr.heap.size wr w8 := (b6.trans (b7.mono sz6)).trans (b8.mono (by omega))
              have hR : Run w vb mb tb p xs own w8 :=
                { model := ⟨xs, BM.below b68, hn.out, List.take_length, by rw [hn.out]; exact Nat.le_refl _⟩
                  tree := hKT w8 tb (by rw [← htb]; exact B8) (by omega) b8
                  ne := by omega
                  mbo := fun h => by have := hnew _ h; omega
                  new := fun b h => by have := hnew _ h; omega
                  mbn := by omega
                  tbn := by omega
                  bel := (hb3.trans (b4.mono (by omega))).trans (b68.mono (by omega))
                  srt := hys
                  small := hxs
                  len := by rw [hn.out]; exact Nat.le_refl _ }
              rw [htb]
              clear hKT B8 b8 B7 T7 hnew b7 b6 hcp hg3 hg2 hg1 hC9 hI hlm BM b4 hcx hb3 hmb hvm
              obtain ⟨wC, rfl⟩ : ∃ x, x = wr := ⟨_, rfl⟩
              go_loopg [88, 12] n2 (fun k s88 s12 wr => ∃ (q : Nat) (ms own : List Nat), s88 = .int .i64 q ∧ s12 = .slice (some ⟨mb, 0, none⟩) ms.length p ∧ q + k = n2 ∧ Run w vb mb tb p ms own wr)
              case atStart => exact ⟨0, xs, own, rfl, by rw [hn.out], by omega, hR⟩
              case round =>
                clear hR hxs hys hn
                obtain ⟨q, ms, own, rfl, rfl, hqk, hR⟩ := hrel
                cases gk with
                | succ k =>
                  obtain ⟨z, hz⟩ : ∃ z, z2[q]? = some z := ⟨_, List.getElem?_eq_getElem (by have := hn2.out; omega)⟩
                  have hzs := R2.1 z (List.mem_of_getElem? hz)
                  obtain ⟨b, o, rfl, hbw, hcell⟩ := R2.2 q z hz
                  have hcr : wr.cell? ⟨b, o + q, none⟩ = some (.int .u16 (z : Int)) := (hR.bel.cell (p := ⟨b, o + q, none⟩) (by rw [← hvb]; exact hbw)).trans hcell
                  have hlt : (q : Int) < n2 := by omega
                  go_upto_region 27 with fail
                  rw [idc_zero_lit]
                  have BK := Blk.new wr (idc 0) 30
                  have bK : Below wr.heap.size wr (wr.alloc (.cells (idc 0).toArray 30)) := (Below.refl _ wr).alloc (Nat.le_refl _) _
                  have hR1 := hR.below bK
                  obtain ⟨kb, hkb⟩ : ∃ kb, wr.heap.size = kb := ⟨_, rfl⟩
                  rw [hkb] at BK bK ⊢
                  generalize wr.alloc (.cells (idc 0).toArray 30) = W1 at *
                  have TK := BK.idT
                  clear hcr hcell
                  by_cases he : z % 2 = 0
                  · have he1 : (z : Int) % 2 = 0 := by omega
                    have he2 : Int.tmod (z : Int) 2 = 0 := by rw [Int.tmod_eq_emod_of_nonneg (by omega)]; exact he1
                    by_cases hl : 0 < ms.length
                    · have hl1 : (0 : Int) < ms.length := by omega
                      have hl2 : ¬ (ms.length : Int) = 0 := by omega
                      obtain ⟨h, hh⟩ : ∃ h, z / 2 = h := ⟨_, rfl⟩
                      have hd1 : (z : Int) / 2 = h := by omega
                      have hd2 : Int.tdiv (z : Int) 2 = h := by rw [Int.tdiv_eq_ediv_of_nonneg (by omega)]; exact hd1
                      obtain ⟨t, ht⟩ : ∃ t, h % ms.length = t := ⟨_, rfl⟩
                      have ht1 : t < ms.length := ht ▸ Nat.mod_lt _ hl
                      have ht2 : (h : Int) % (ms.length : Int) = t := by rw [← ht]; exact (Int.natCast_emod _ _).symm
                      have ht3 : Int.tmod (h : Int) (ms.length : Int) = t := by rw [Int.tmod_eq_emod_of_nonneg (by omega)]; exact ht2
                      have ht4 : (t : Int) < ms.length := by omega
                      obtain ⟨v, hv⟩ : ∃ v, ms[t]? = some v := ⟨_, List.getElem?_eq_getElem ht1⟩
                      have hv9 : v < 4294967296 := hR1.small v (List.mem_of_getElem? hv)
                      have RX := hR1.model.ids t v hv
                      rw [Nat.zero_add] at RX
                      replace hh := Hid.mk' hh
                      replace ht := Hid.mk' ht
                      go_upto_region 30 with (first
                        | (refine ld30 rfl (.tmp 107) rfl mb (t * 20) ?_ v ?_ ?_; rfl; exact RX)
                        | (refine st30 rfl rfl (.tmp 18) (.tmp 108) rfl kb 0 v ?_ ?_ ?_ ?_; rfl; rfl; exact TK))
                      have BK2 : Blk (W1.setCells kb 0 (idc v)) kb (idc v) 30 := BK.idS
                      have b2 : Below kb wr (W1.setCells kb 0 (idc v)) := Below.setCells bK (Nat.le_refl _) _ _
                      generalize W1.setCells kb 0 (idc v) = W2 at *
                      clear RX hl1 hl2 hd1 hd2 ht1 ht2 ht3 ht4 hv he1 he2
                      have hR2 : Run w vb mb tb p ms own W2 := hR.below (by rw [hkb]; exact b2)
                      clear TK BK bK hR1
                      have RK := BK2.id
                      have hlenp := hR2.len
                      have hsum := hR2.sum (by omega)
                      have hC11 := bsf_calls (some ⟨mb, 0, none⟩) ms p v W2 hR2.model.sl hR2.small hv9 (by omega) hR2.srt
                      by_cases hm : v ∈ ms
                      · have hdt : decide (v ∈ ms) = true := decide_eq_true hm
                        have hlo : (lo ms v : Int) < ms.length := by have := (erase_facts hR2.srt hm).2.2.2; omega
                        rw [hdt] at hC11
                        go_wp2_with (first
                          | (refine ld30 rfl (.tmp 18) rfl kb 0 ?_ v ?_ ?_; rfl; first | exact RK | exact RK3)
                          | (go_at_call 11; refine hC11.mono ?_; rintro e W3 ⟨rfl, b3⟩; have RK3 := (BK2.below b3).id; have hR3 := hR2.below b3; have hC13 := kremove_any W3 tb v ms own hR3.tree hv9 hsum (by omega); rw [hdt] at hC13; clear RK)
                          | (go_at_call 13; refine hC13.mono ?_; rintro e W4 ⟨rfl, own', hT4, hn4, k4⟩; have hC14 := (hR3.model1 k4).delete hR3.srt hm (by omega))
                          | (go_at_call 14; refine hC14.mono ?_; rintro e W5 ⟨rfl, hM5, k5⟩))
                        go_roundg k
                        case measure => omega
                        case rel => exact ⟨q + 1, ms.erase v, own', by simp, by rw [List.length_erase_of_mem hm], by omega, hR3.del hT4 hn4 k4 hM5 k5⟩
                      · have hdf : decide (v ∈ ms) = false := decide_eq_false hm
                        rw [hdf] at hC11
                        go_wp2_with (first
                          | (refine ld30 rfl (.tmp 18) rfl kb 0 ?_ v ?_ ?_; rfl; first | exact RK | exact RK3)
                          | (go_at_call 11; refine hC11.mono ?_; rintro e W3 ⟨rfl, b3⟩; have RK3 := (BK2.below b3).id; have hR3 := hR2.below b3; have hC13 := kremove_any W3 tb v ms own hR3.tree hv9 hsum (by omega); rw [hdf] at hC13; clear RK)
                          | (go_at_call 13; refine hC13.mono ?_; rintro e W4 ⟨rfl, own', hT4, hn4, k4⟩))
                        go_roundg k
                        case measure => omega
                        case rel => exact ⟨q + 1, ms, own', by simp, rfl, by omega, hR3.keep hm hT4 hn4 k4⟩
                    · have hl1 : ¬ (0 : Int) < ms.length := by omega
                      have hv9 : z < 4294967296 := by omega
                      go_upto_region 30 with (first
                        | (go_at_call 7; refine (id_calls z hv9 _).mono ?_; rintro e WI ⟨rfl, bI⟩; have TI := (BK.below bI).idT)
                        | (refine st30 rfl rfl (.tmp 18) (.tmp 111) rfl kb 0 z ?_ ?_ ?_ ?_; rfl; rfl; exact TI))
                      have BK2 : Blk (WI.setCells kb 0 (idc z)) kb (idc z) 30 := (BK.below bI).idS
                      have b2 : Below kb wr (WI.setCells kb 0 (idc z)) := Below.setCells (bK.trans (bI.mono (Nat.le_of_lt BK.lt))) (Nat.le_refl _) _ _
                      generalize WI.setCells kb 0 (idc z) = W2 at *
                      clear TI bI he1 he2
                      have hR2 : Run w vb mb tb p ms own W2 := hR.below (by rw [hkb]; exact b2)
                      clear TK BK bK hR1
                      have RK := BK2.id
                      have hlenp := hR2.len
                      have hsum := hR2.sum (by omega)
                      have hC11 := bsf_calls (some ⟨mb, 0, none⟩) ms p z W2 hR2.model.sl hR2.small hv9 (by omega) hR2.srt
                      by_cases hm : z ∈ ms
                      · have hdt : decide (z ∈ ms) = true := decide_eq_true hm
                        have hlo : (lo ms z : Int) < ms.length := by have := (erase_facts hR2.srt hm).2.2.2; omega
                        rw [hdt] at hC11
                        go_wp2_with (first
                          | (refine ld30 rfl (.tmp 18) rfl kb 0 ?_ z ?_ ?_; rfl; first | exact RK | exact RK3)
                          | (go_at_call 11; refine hC11.mono ?_; rintro e W3 ⟨rfl, b3⟩; have RK3 := (BK2.below b3).id; have hR3 := hR2.below b3; have hC13 := kremove_any W3 tb z ms own hR3.tree hv9 hsum (by omega); rw [hdt] at hC13; clear RK)
                          | (go_at_call 13; refine hC13.mono ?_; rintro e W4 ⟨rfl, own', hT4, hn4, k4⟩; have hC14 := (hR3.model1 k4).delete hR3.srt hm (by omega))
                          | (go_at_call 14; refine hC14.mono ?_; rintro e W5 ⟨rfl, hM5, k5⟩))
                        go_roundg k
                        case measure => omega
                        case rel => exact ⟨q + 1, ms.erase z, own', by simp, by rw [List.length_erase_of_mem hm], by omega, hR3.del hT4 hn4 k4 hM5 k5⟩
                      · have hdf : decide (z ∈ ms) = false := decide_eq_false hm
                        rw [hdf] at hC11
                        go_wp2_with (first
                          | (refine ld30 rfl (.tmp 18) rfl kb 0 ?_ z ?_ ?_; rfl; first | exact RK | exact RK3)
                          | (go_at_call 11; refine hC11.mono ?_; rintro e W3 ⟨rfl, b3⟩; have RK3 := (BK2.below b3).id; have hR3 := hR2.below b3; have hC13 := kremove_any W3 tb z ms own hR3.tree hv9 hsum (by omega); rw [hdf] at hC13; clear RK)
                          | (go_at_call 13; refine hC13.mono ?_; rintro e W4 ⟨rfl, own', hT4, hn4, k4⟩))
                        go_roundg k
                        case measure => omega
                        case rel => exact ⟨q + 1, ms, own', by simp, rfl, by omega, hR3.keep hm hT4 hn4 k4⟩
                  · have he1 : (z : Int) % 2 = 1 := by omega
                    have he2 : Int.tmod (z : Int) 2 = 1 := by rw [Int.tmod_eq_emod_of_nonneg (by omega)]; exact he1
                    have hv9 : z < 4294967296 := by omega
                    go_upto_region 30 with (first
                      | (go_at_call 7; refine (id_calls z hv9 _).mono ?_; rintro e WI ⟨rfl, bI⟩; have TI := (BK.below bI).idT)
                      | (refine st30 rfl rfl (.tmp 18) (.tmp 111) rfl kb 0 z ?_ ?_ ?_ ?_; rfl; rfl; exact TI))
                    have BK2 : Blk (WI.setCells kb 0 (idc z)) kb (idc z) 30 := (BK.below bI).idS
                    have b2 : Below kb wr (WI.setCells kb 0 (idc z)) := Below.setCells (bK.trans (bI.mono (Nat.le_of_lt BK.lt))) (Nat.le_refl _) _ _
                    generalize WI.setCells kb 0 (idc z) = W2 at *
                    clear TI bI he1 he2
                    have hR2 : Run w vb mb tb p ms own W2 := hR.below (by rw [hkb]; exact b2)
                    clear TK BK bK hR1
                    have RK := BK2.id
                    have hlenp := hR2.len
                    have hsum := hR2.sum (by omega)
                    have hC11 := bsf_calls (some ⟨mb, 0, none⟩) ms p z W2 hR2.model.sl hR2.small hv9 (by omega) hR2.srt
                    by_cases hm : z ∈ ms
                    · have hdt : decide (z ∈ ms) = true := decide_eq_true hm
                      have hlo : (lo ms z : Int) < ms.length := by have := (erase_facts hR2.srt hm).2.2.2; omega
                      rw [hdt] at hC11
                      go_wp2_with (first
                        | (refine ld30 rfl (.tmp 18) rfl kb 0 ?_ z ?_ ?_; rfl; first | exact RK | exact RK3)
                        | (go_at_call 11; refine hC11.mono ?_; rintro e W3 ⟨rfl, b3⟩; have RK3 := (BK2.below b3).id; have hR3 := hR2.below b3; have hC13 := kremove_any W3 tb z ms own hR3.tree hv9 hsum (by omega); rw [hdt] at hC13; clear RK)
                        | (go_at_call 13; refine hC13.mono ?_; rintro e W4 ⟨rfl, own', hT4, hn4, k4⟩; have hC14 := (hR3.model1 k4).delete hR3.srt hm (by omega))
                        | (go_at_call 14; refine hC14.mono ?_; rintro e W5 ⟨rfl, hM5, k5⟩))
                      go_roundg k
                      case measure => omega
                      case rel => exact ⟨q + 1, ms.erase z, own', by simp, by rw [List.length_erase_of_mem hm], by omega, hR3.del hT4 hn4 k4 hM5 k5⟩
                    · have hdf : decide (z ∈ ms) = false := decide_eq_false hm
                      rw [hdf] at hC11
                      go_wp2_with (first
                        | (refine ld30 rfl (.tmp 18) rfl kb 0 ?_ z ?_ ?_; rfl; first | exact RK | exact RK3)
                        | (go_at_call 11; refine hC11.mono ?_; rintro e W3 ⟨rfl, b3⟩; have RK3 := (BK2.below b3).id; have hR3 := hR2.below b3; have hC13 := kremove_any W3 tb z ms own hR3.tree hv9 hsum (by omega); rw [hdf] at hC13; clear RK)
                        | (go_at_call 13; refine hC13.mono ?_; rintro e W4 ⟨rfl, own', hT4, hn4, k4⟩))
                      go_roundg k
                      case measure => omega
                      case rel => exact ⟨q + 1, ms, own', by simp, rfl, by omega, hR3.keep hm hT4 hn4 k4⟩
                | zero =>
                  obtain rfl : q = n2 := by omega
                  clear hqk
                  have hlenp := hR.len
                  have hsum := hR.sum (by omega)
                  have hqq : ¬ (q : Int) < q := by omega
                  have en := neq47
                  have hC15 : Calls Yba.prog 15 #[.pointer (some ⟨tb, 0, none⟩)] wr fun e w' => e = .returned (.int .i64 (ms.length : Nat)) ∧ wr = w' := (klen wr tb ms own hR.tree).mono fun e w' h => ⟨h.1, h.2.symm⟩
                  go_upto_region 38 with (first
                    | (go_at_call 15; refine hC15.mono ?_; rintro e _ ⟨rfl, rfl⟩)
                    | (go_at_call 16; refine (kdigest wr tb ms own hR.tree).mono ?_; rintro e W3 ⟨rfl, b3⟩; have hR3 := hR.below b3; have hC10 := csum_calls (some ⟨mb, 0, none⟩) ms p W3 hR3.model.sl hR3.small hsum (by omega))
                    | (go_at_call 10; refine hC10.mono ?_; rintro e W4 ⟨rfl, b4⟩; have hR4 := hR3.below b4))
                  clear hC10 hC15 hR hR3 b3 b4
                  have hbel := hR4.bel
                  obtain ⟨q1, q2, ⟨rfl, rfl, B⟩ | ⟨dd, nb, n, hd, B, T, h2⟩⟩ := hR4.tree
                  · have c1 : W4.cell? ⟨tb, 0, none⟩ = some (.pointer none) := B.cell 0
                    go_wp2_with fail
                    go_ret
                    exact ⟨rfl, by rw [hvb]; exact hbel⟩
                  · have c1 : W4.cell? ⟨tb, 0, none⟩ = some (.pointer (some ⟨nb, 0, none⟩)) := B.cell 0
                    have c2 : (W4.alloc (.cells #[.slice none 0 0] 28)).cell? ⟨tb, 0, none⟩ = some (.pointer (some ⟨nb, 0, none⟩)) := (B.alloc _).cell 0
                    have b5 : Below W4.heap.size W4 (W4.alloc (.cells #[.slice none 0 0] 28)) := (Below.refl _ W4).alloc (Nat.le_refl _) _
                    have BO := Blk.new W4 [.slice none 0 0] 28
                    have hR5 := hR4.below b5
                    have hTl := T.lt
                    have hml := hR4.model.lt
                    have hmn := hR4.mbn
                    have hC17 := cwalk_calls dd hd (W4.alloc (.cells #[.slice none 0 0] 28)) nb ms n own W4.heap.size W4.heap.size [] true (T.below b5) (.inl rfl) (fun _ => h2) (.inl ⟨rfl, BO⟩)
                      (fun b hb => ⟨hTl b hb, by have := hTl b hb; omega⟩) (by simp) (by simp) hsum (by simp; omega) (fun _ => rfl)
                    have hnA : ∀ b, ¬ Arr (W4.alloc (.cells #[.slice none 0 0] 28)) W4.heap.size b := fun b ⟨n9, c9, hB9⟩ => by
                      have h9 := (hB9.inj BO).1
                      simp at h9
                    go_wp2_with (first
                      | (go_at_call 17; refine hC17.mono ?_; rintro e W6 ⟨rfl, hO, kW, _⟩
                         rw [List.nil_append] at hO
                         obtain ⟨a9, cap9, B9, hS9, _⟩ := hO.value
                         have cO : W6.cell? ⟨W4.heap.size, 0, none⟩ = some (.slice a9 ms.length cap9) := B9.cell 0
                         have hM6 : Model W6 mb p ms := hR5.model.kept kW (by rintro (e | e); · omega
                                                                              · exact hnA _ e)
                         have hb6 : Below vb w W6 := hR5.bel.trans (kW.below (by simp; omega) (by rintro b hb (e | e); · omega
                                                                                                  · exact hnA _ e))
                         have hC18 := equal_calls a9 (some ⟨mb, 0, none⟩) ms cap9 p W6 hS9 hM6.sl (by omega))
                      | (go_at_call 18; refine hC18.mono ?_; rintro e W7 ⟨rfl, b7⟩))
                    go_ret
                    exact ⟨rfl, by rw [hvb]; exact hb6.trans (b7.mono (by have := hb6.size; omega))⟩
end Go.Proofs.Ybulkbqza
