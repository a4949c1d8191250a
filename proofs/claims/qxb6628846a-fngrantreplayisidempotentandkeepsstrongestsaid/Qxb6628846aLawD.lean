import Derived.Test.Qxb6628846aScript
import Derived.Test.Qxb6628846aArgsD
import Derived.Test.Qxb6628846aSnap
import Derived.Test.Qxb6628846aEq
import Derived.Deep.QuietTactic
import Derived.BigQuiet
namespace Go.Proofs.Qxb6628846a
open Go.RowKit

theorem Try.info22 : (Try.prog.info? 22).map (fun i => (i.zero, i.size, i.bytes)) = some (some (.slice none 0 0), 1, 24) := by kernel_rfl
theorem Try.info23 : (Try.prog.info? 23).map (fun i => (i.zero, i.size, i.bytes)) = some (some (.slice none 0 0), 1, 24) := by kernel_rfl
theorem Try.info4 : (Try.prog.info? 4).map (fun i => (i.zero, i.size, i.bytes)) = some (some (.bool false), 1, 1) := by kernel_rfl

theorem five_made {W0 w1 w2 w3 w4 w5 : World} {n : Nat} {x1 x2 x3 x4 x5 : List Value} (o1 : w1.ownsRow W0.heap.size 22 1 (.slice (some ⟨W0.heap.size, 0, none⟩) n n) n x1) (o2 : w2.ownsRow W0.heap.size 22 1 (.slice (some ⟨w1.heap.size, 0, none⟩) n n) n x2)
    (o3 : w3.ownsRow W0.heap.size 23 1 (.slice (some ⟨w2.heap.size, 0, none⟩) n n) n x3) (o4 : w4.ownsRow W0.heap.size 4 1 (.slice (some ⟨w3.heap.size, 0, none⟩) n n) n x4) (o5 : w5.ownsRow W0.heap.size 4 1 (.slice (some ⟨w4.heap.size, 0, none⟩) n n) n x5)
    (g2 : w1.grownBy w2 none) (g3 : w2.grownBy w3 none) (g4 : w3.grownBy w4 none) (g5 : w4.grownBy w5 none) : Five W0.heap.size W0.heap.size w1.heap.size w2.heap.size w3.heap.size w4.heap.size n w5 := by
  have nn : ∀ (v : Value), v.ownBlock = none ∨ v.ownBlock ≠ none := fun v => by cases v.ownBlock <;> simp
  exact ⟨⟨_, (((o1.kept g2 (nn _)).kept g3 (nn _)).kept g4 (nn _)).kept g5 (nn _)⟩, ⟨_, ((o2.kept g3 (nn _)).kept g4 (nn _)).kept g5 (nn _)⟩, ⟨_, (o3.kept g4 (nn _)).kept g5 (nn _)⟩, ⟨_, o4.kept g5 (nn _)⟩, ⟨_, o5⟩⟩

set_option maxRecDepth 100000 in
set_option maxHeartbeats 6400000 in
theorem lawD_walk (to oo mo : Option Addr) (tc oc mc b0 o0 b1 o1 b2 o2 : Nat) (ts : List Int) (os : List ByteArray) (ms : List Int) (w : World) (ht : IntsAt w to b0 o0 ts) (ho : StrsAt w oo b1 o1 os) (hm : IntsAt w mo b2 o2 ms)
    (wt : ∀ x ∈ ts, (Lit.int .i64 x).wf = true) (wo : ∀ x ∈ os, x.size ≤ maxLen) :
    Calls Try.prog 4 #[.slice to ts.length tc, .slice oo os.length oc, .slice mo ms.length mc] w fun e w' => e = .returned (.bool true) ∧ Below w.heap.size w w' := by
  go_enter Try.func4, Try.ntmps4
  go_wp2_with fail
  refine (bytes11_any to oo mo ts.length tc b1 o1 oc ms.length mc os _ ho).mono ?_
  rintro e w0 ⟨⟨b, rfl, hshort⟩, hw0⟩
  have hw0 := hw0.symm
  subst hw0
  cases b
  · go_wp2
    go_ret
    exact ⟨rfl, Below.refl _ _⟩
  replace hshort := hshort rfl
  by_cases k1 : ts.length ≤ 4096
  rotate_left
  · go_wp2
    go_ret
    exact ⟨rfl, Below.refl _ _⟩
  by_cases k2 : os.length ≤ 4096
  rotate_left
  · go_wp2
    go_ret
    exact ⟨rfl, Below.refl _ _⟩
  by_cases k3 : ms.length ≤ 4096
  rotate_left
  · go_wp2
    go_ret
    exact ⟨rfl, Below.refl _ _⟩
  go_wp2
  go_loop [7, 8] (fun z i => ∃ k t : Nat, k ≤ os.length ∧ i = .int .i64 k ∧ t ≤ 1048576 ∧ z = .int .i64 t) (fun _ i => os.length - (intOf i).toNat)
  case atStart => exact ⟨0, 8 * ts.length + 8 * ms.length, Nat.zero_le _, rfl, by omega, by go_num⟩
  case round =>
    obtain ⟨k, t, hk, rfl, hk2, rfl⟩ := hrel
    by_cases hlt : k < os.length
    · obtain rfl := ho.1 (ne_of_lt hlt)
      have c0 := ho.2 k hlt
      have hsz := hshort os[k] (List.getElem_mem hlt)
      by_cases hbig : t + os[k].size ≤ 1048576
      · go_wp2
        go_round
        case rel => exact ⟨k + 1, t + os[k].size, by omega, by go_num, by omega, by go_num⟩
        case measure => simp [intOf]; omega
      · go_wp2
        go_ret
        exact ⟨rfl, Below.refl _ _⟩
    · clear hk hshort
      obtain ⟨sc, hn, hsc, wf⟩ := script ht ho hm wt wo
      have HT : Hid (sc ≠ [] → to = some ⟨b0, o0, none⟩) := fun h => ht.1 (by intro e; subst e; simp at hn; exact h hn)
      have HO : Hid (sc ≠ [] → oo = some ⟨b1, o1, none⟩) := fun h => ho.1 (by intro e; subst e; simp at hn; exact h hn)
      have HM : Hid (sc ≠ [] → mo = some ⟨b2, o2, none⟩) := fun h => hm.1 (by intro e; subst e; simp at hn; exact h hn)
      have n1 : sc.length ≤ ts.length := by omega
      have n2 : sc.length ≤ os.length := by omega
      have n3 : sc.length ≤ ms.length := by omega
      have HN : Hid (sc.length = min ts.length (min os.length ms.length)) := hn
      clear hn
      go_wp2_with fail
      refine (min3_any _ _ _ _).mono ?_
      rintro e w1 ⟨rfl, hw1⟩
      have hw1 := hw1.symm
      subst hw1
      rw [← HN.out]
      clear HN ht ho hm wt wo hw1
      go_wp2_with fail
      refine (newTable_any _).mono ?_
      rintro e w1 ⟨rfl, hT, hB1⟩
      go_wp2
      go_loopw [11] (fun i wr => ∃ k : Nat, k ≤ sc.length ∧ i = .int .i64 k ∧ (∃ F fH fG, TabIs wr w.heap.size (w.heap.size + 2) w.heap.size (w.heap.size + 1) (2 * k) F (St.empty.run (sc.take k)) fH fG) ∧ Below w.heap.size w wr) (fun i _ => sc.length - (intOf i).toNat)
      case atStart => exact ⟨0, Nat.zero_le _, rfl, ⟨_, _, _, hT⟩, hB1⟩
      case round =>
        clear hT hB1
        obtain ⟨k, hk, rfl, ⟨F, fH, fG, hT⟩, hB⟩ := hrel
        by_cases hlt : k < sc.length
        · obtain rfl := HT.out (ne_of_lt hlt)
          obtain rfl := HO.out (ne_of_lt hlt)
          obtain rfl := HM.out (ne_of_lt hlt)
          have d0 := (hsc.below hB).t k hlt
          have d1 := (hsc.below hB).o k hlt
          have d2 := (hsc.below hB).m k hlt
          have b0l := World.block_lt_of_cell? w _ (hsc.t k hlt)
          have b1l := World.block_lt_of_cell? w _ (hsc.o k hlt)
          have b2l := World.block_lt_of_cell? w _ (hsc.m k hlt)
          have hi0 : (0 : Int) ≤ (k : Int) := Int.natCast_nonneg _
          have hi1 : (k : Int) < (ts.length : Int) := by omega
          have hi2 : (k : Int) < (os.length : Int) := by omega
          have hi3 : (k : Int) < (ms.length : Int) := by omega
          have hlo := fun q hq => (hT.lo q hq).1
          have HTd : Hid (TabIs wr.drew w.heap.size (w.heap.size + 2) w.heap.size (w.heap.size + 1) (2 * k) F (St.empty.run (sc.take k)) fH fG) := hT.below (Below.refl _ _).drew
          have HLO : Hid (∀ q, F q → w.heap.size ≤ q) := hlo
          have hwf := wf sc[k] (List.getElem_mem hlt)
          have HBs := hB.size
          clear hT hlo
          go_wp2_with fail
          go_region_held3 (fun w' => w'.cell? ⟨b0, o0 + k, none⟩ = some (.int .i64 sc[k].t) ∧ w'.cell? ⟨b1, o1 + k, none⟩ = some (.string sc[k].o) ∧ w'.cell? ⟨b2, o2 + k, none⟩ = some (.int .i64 sc[k].m))
            (first
              | go_keep
              | (have hb' := hTu.below (B := w.heap.size) HBs HLO.out
                 go_split_ands
                 refine ⟨?_, ?_, ?_⟩
                 · (rw [hb'.cell b0l]; assumption)
                 · (rw [hb'.cell b1l]; assumption)
                 · (rw [hb'.cell b2l]; assumption)))
            ((first | (go_at_call 8; refine (grant_any HTd.out _ hwf.1 _ hwf.2 _ (by omega)).mono ?_; rintro e w' ⟨rfl, F', fH', fG', hT', hTu, hFF⟩)))
          rw [← run_take _ _ _ hlt] at hT'
          have hB' : Below w.heap.size w w' := hB.drew.trans (hTu.below HBs HLO.out)
          clear hTu hFF HTd HLO hB d0 d1 d2
          go_wp2
          go_roundw
          case rel => exact ⟨k + 1, by omega, by go_num, ⟨_, _, _, hT'⟩, hB'⟩
          case measure => simp [intOf]; omega
        · obtain rfl : k = sc.length := by omega
          rw [List.take_length] at hT
          obtain ⟨W0, rfl⟩ : ∃ W0 : World, W0 = wr := ⟨_, rfl⟩
          have hsc0 := hsc.below hB
          have HB0 : Hid (Below w.heap.size w W0) := hB
          have HT0 : Hid (TabIs W0 w.heap.size (w.heap.size + 2) w.heap.size (w.heap.size + 1) (2 * sc.length) F (St.empty.run sc) fH fG) := hT
          have HSCw : Hid (ScAt w b0 o0 b1 o1 b2 o2 sc) := hsc
          clear hB hT hk hlt hsc
          obtain ⟨i2, hi2, hz20, hz21, hz22⟩ := info_parts Try.info22
          obtain ⟨i3, hi3, hz30, hz31, hz32⟩ := info_parts Try.info23
          obtain ⟨i4, hi4, hz40, hz41, hz42⟩ := info_parts Try.info4
          have tok1 : True := trivial
          have tok2 : True := trivial
          have tok3 : True := trivial
          have tok4 : True := trivial
          go_wp2_with (first
            | (at_make; have _t := tok1; refine wpList_make_full _ rfl _ _ 33 rfl W0.heap.size 22 i2 _ 1 Try.underlying33 hi2 hz20 hz21 .i64 .i64 _ _ sc.length rfl rfl rfl rfl (by rw [hz22]; omega) (by unfold maxLen; omega) (Nat.le_refl _) ?_; intro w1 own1 gr1; clear tok1)
            | (at_make; have _t := tok2; refine wpList_make_full _ rfl _ _ 33 rfl W0.heap.size 22 i2 _ 1 Try.underlying33 hi2 hz20 hz21 .i64 .i64 _ _ sc.length rfl rfl rfl rfl (by rw [hz22]; omega) (by unfold maxLen; omega) gr1.size ?_; intro w2 own2 gr2; clear tok2)
            | (at_make; have _t := tok3; refine wpList_make_full _ rfl _ _ 34 rfl W0.heap.size 23 i3 _ 1 Try.underlying34 hi3 hz30 hz31 .i64 .i64 _ _ sc.length rfl rfl rfl rfl (by rw [hz32]; omega) (by unfold maxLen; omega) (Nat.le_trans gr1.size gr2.size) ?_; intro w3 own3 gr3; clear tok3)
            | (at_make; have _t := tok4; refine wpList_make_full _ rfl _ _ 35 rfl W0.heap.size 4 i4 _ 1 Try.underlying35 hi4 hz40 hz41 .i64 .i64 _ _ sc.length rfl rfl rfl rfl (by rw [hz42]; omega) (by unfold maxLen; omega) (Nat.le_trans gr1.size (Nat.le_trans gr2.size gr3.size)) ?_; intro w4 own4 gr4; clear tok4)
            | (at_make; refine wpList_make_full _ rfl _ _ 35 rfl W0.heap.size 4 i4 _ 1 Try.underlying35 hi4 hz40 hz41 .i64 .i64 _ _ sc.length rfl rfl rfl rfl (by rw [hz42]; omega) (by unfold maxLen; omega) (Nat.le_trans gr1.size (Nat.le_trans gr2.size (Nat.le_trans gr3.size gr4.size))) ?_; intro w5 own5 gr5))
          have hF0 := five_made own1 own2 own3 own4 own5 gr2 gr3 gr4 gr5
          have hB5 : Below W0.heap.size W0 w5 := (((((Below.refl _ _).grown gr1 (Nat.le_refl _) (by simp)).grown gr2 gr1.size (by simp)).grown gr3 (Nat.le_trans gr1.size gr2.size) (by simp)).grown gr4 (Nat.le_trans gr1.size (Nat.le_trans gr2.size gr3.size)) (by simp)).grown gr5 (Nat.le_trans gr1.size (Nat.le_trans gr2.size (Nat.le_trans gr3.size gr4.size))) (by simp)
          have l1 : W0.heap.size < w1.heap.size := (own1.lt _ rfl).2
          have l2 : w1.heap.size < w2.heap.size := (own2.lt _ rfl).2
          have l3 : w2.heap.size < w3.heap.size := (own3.lt _ rfl).2
          have l4 : w3.heap.size < w4.heap.size := (own4.lt _ rfl).2
          obtain ⟨gT, hgT⟩ : ∃ gT, gT = W0.heap.size := ⟨_, rfl⟩
          obtain ⟨gM, hgM⟩ : ∃ gM, gM = w1.heap.size := ⟨_, rfl⟩
          obtain ⟨gH, hgH⟩ : ∃ gH, gH = w2.heap.size := ⟨_, rfl⟩
          obtain ⟨gO, hgO⟩ : ∃ gO, gO = w3.heap.size := ⟨_, rfl⟩
          obtain ⟨gX, hgX⟩ : ∃ gX, gX = w4.heap.size := ⟨_, rfl⟩
          have hord : gT < gM ∧ gM < gH ∧ gH < gO ∧ gO < gX := by omega
          have hNT : W0.heap.size ≤ gT := by omega
          have hF0 : Five W0.heap.size gT gM gH gO gX sc.length w5 := by rw [hgT, hgM, hgH, hgO, hgX]; exact hF0
          rw [← hgT, ← hgM, ← hgH, ← hgO, ← hgX]
          clear hgT hgM hgH hgO hgX l1 l2 l3 l4 own1 own2 own3 own4 own5 gr1 gr2 gr3 gr4 gr5
          generalize hS1 : St.empty.run sc = S at HT0
          have HS : Hid (St.empty.run sc = S) := hS1
          clear hS1
          go_loopw [17] (fun i wr => ∃ k : Nat, k ≤ sc.length ∧ i = .int .i64 k ∧ Five W0.heap.size gT gM gH gO gX sc.length wr ∧ (∀ i (h : i < sc.length), i < k → Item W0.heap.size gT gM gH gO gX S wr sc[i] i) ∧ Below W0.heap.size W0 wr) (fun i _ => sc.length - (intOf i).toNat)
          case atStart => exact ⟨0, Nat.zero_le _, rfl, hF0, fun i _ h => absurd h (by omega), hB5⟩
          case round =>
            clear hF0 hB5
            obtain ⟨k, hk, rfl, hF, hI, hB⟩ := hrel
            by_cases hlt : k < sc.length
            · obtain rfl := HT.out (ne_of_lt hlt)
              obtain rfl := HO.out (ne_of_lt hlt)
              obtain rfl := HM.out (ne_of_lt hlt)
              have d1 := (hsc0.below hB).o k hlt
              have d0 := (hsc0.below hB).t k hlt
              have HF : Hid (Five W0.heap.size gT gM gH gO gX sc.length wr) := hF
              have HI : Hid (∀ i (h : i < sc.length), i < k → Item W0.heap.size gT gM gH gO gX S wr sc[i] i) := hI
              have HB : Hid (Below W0.heap.size W0 wr) := hB
              clear hF hI hB
              obtain ⟨wo, rfl⟩ : ∃ wo : World, wo = wr := ⟨_, rfl⟩
              go_wp2
              go_loopw [18, 19, 20] (fun v1 v2 jv wi => ∃ (c1 c2 : Bool) (j q : Nat), v1 = .bool c1 ∧ v2 = .bool c2 ∧ j ≤ k ∧ jv = .int .i64 j ∧ wi = wo.drewN q) (fun _ _ jv _ => k - (intOf jv).toNat)
              case atStart => exact ⟨true, true, 0, 0, rfl, rfl, Nat.zero_le _, rfl, rfl⟩
              case round =>
                obtain ⟨c1, c2, j, q, rfl, rfl, hjk, rfl, rfl⟩ := hrel
                by_cases hj : j < k
                · have x1 := (hsc0.below HB.out).o j (by omega)
                  have x0 := (hsc0.below HB.out).t j (by omega)
                  have i0 : (0 : Int) ≤ (j : Int) := Int.natCast_nonneg _
                  have i1 : (j : Int) < (os.length : Int) := by omega
                  have i2 : (j : Int) < (ts.length : Int) := by omega
                  have i3 : (0 : Int) ≤ (k : Int) := Int.natCast_nonneg _
                  have i4 : (k : Int) < (os.length : Int) := by omega
                  have i5 : (k : Int) < (ts.length : Int) := by omega
                  by_cases hoo : (sc[j]'(by omega)).o = sc[k].o
                  · have n1 := tl_eq hoo
                    clear hoo
                    by_cases htt : (sc[j]'(by omega)).t = sc[k].t
                    · have n2 : ((sc[j]'(by omega)).t == sc[k].t) = true := by simp [htt]
                      clear htt
                      go_wp2
                      go_quiet (fail)
                      go_wp2
                      go_quiet (fail)
                      go_wp2
                      go_roundw
                      case rel => exact ⟨_, _, j + 1, _, rfl, rfl, by omega, by go_num, rfl⟩
                      case measure => simp [intOf]; omega
                    · have n2 : ((sc[j]'(by omega)).t == sc[k].t) = false := by simp [htt]
                      clear htt
                      go_wp2
                      go_quiet (fail)
                      go_wp2
                      go_quiet (fail)
                      go_wp2
                      go_roundw
                      case rel => exact ⟨_, _, j + 1, _, rfl, rfl, by omega, by go_num, rfl⟩
                      case measure => simp [intOf]; omega
                  · have n1 := tl_ne hoo
                    clear hoo
                    by_cases htt : (sc[j]'(by omega)).t = sc[k].t
                    · have n2 : ((sc[j]'(by omega)).t == sc[k].t) = true := by simp [htt]
                      clear htt
                      go_wp2
                      go_quiet (fail)
                      go_wp2
                      go_quiet (fail)
                      go_wp2
                      go_roundw
                      case rel => exact ⟨_, _, j + 1, _, rfl, rfl, by omega, by go_num, rfl⟩
                      case measure => simp [intOf]; omega
                    · have n2 : ((sc[j]'(by omega)).t == sc[k].t) = false := by simp [htt]
                      clear htt
                      go_wp2
                      go_quiet (fail)
                      go_wp2
                      go_quiet (fail)
                      go_wp2
                      go_roundw
                      case rel => exact ⟨_, _, j + 1, _, rfl, rfl, by omega, by go_num, rfl⟩
                      case measure => simp [intOf]; omega
                · obtain rfl : j = k := by omega
                  have hFi := HF.out.below (below_drewN wo.heap.size wo q)
                  have hIi := fun i (h : i < sc.length) (hik : i < j) => Item.below HF.out (HI.out i h hik) (below_drewN wo.heap.size wo q)
                  have hBi := HB.out.trans (below_drewN W0.heap.size wo q)
                  generalize wo.drewN q = wi at hFi hIi hBi ⊢
                  clear HF HI HB
                  have hBis := hBi.size
                  obtain ⟨y1, z1⟩ := hFi.O.there hlt
                  obtain ⟨y2, z2⟩ := hFi.X.there hlt
                  have f1 := hFi.O.frozen j
                  have f2 := hFi.X.frozen j
                  have e0 := (hsc0.below hBi).t j hlt
                  have e1 := (hsc0.below hBi).o j hlt
                  have lb0 : b0 < W0.heap.size := World.block_lt_of_cell? W0 _ (hsc0.t j hlt)
                  have lb1 : b1 < W0.heap.size := World.block_lt_of_cell? W0 _ (hsc0.o j hlt)
                  have ne1 : ¬ gX = gO := by omega
                  have ne2 : ¬ b0 = gO := by omega
                  have ne3 : ¬ b0 = gX := by omega
                  have ne4 : ¬ b1 = gO := by omega
                  have ne5 : ¬ b1 = gX := by omega
                  have hlh := HT0.out.lH sc[j].o
                  have hlg := HT0.out.lG sc[j].t
                  have hwf := wf sc[j] (List.getElem_mem hlt)
                  obtain ⟨wF, hwF, stF, BF⟩ : ∃ wF, (wi.setCell ⟨gO, j, none⟩ (.bool c1)).setCell ⟨gX, j, none⟩ (.bool c2) = wF ∧ Stg W0.heap.size gT gM gH gO gX sc.length S sc wF j c1 c2 ∧ Below W0.heap.size W0 wF :=
                    ⟨_, rfl, stg_flags hord hFi hlt hIi c1 c2, (hBi.setCell (by show _ ≤ gO; omega) _).setCell (by show _ ≤ gX; omega) _⟩
                  have hBFs := BF.size
                  have eF0 := (hsc0.below BF).t j hlt
                  have eF1 := (hsc0.below BF).o j hlt
                  cases c1
                  · cases c2
                    · go_wp2
                      go_roundw
                      case rel => exact ⟨j + 1, by omega, by go_num, stF.five, stF.done hlt (fun h => by cases h) (fun h => by cases h), BF⟩
                      case measure => simp [intOf]; omega
                    · go_wp2_with fail
                      have stG := stF
                      have BG := BF
                      have x2 := (hsc0.below BG).t j hlt
                      have TG := HT0.out.below BG
                      refine (held_any TG sc[j].t hwf.1 (by omega)).mono ?_
                      rintro e w5 ⟨⟨ah, ch, rfl, rh⟩, B5⟩
                      have st5 := stG.below B5
                      have rh5 := own_base rh BG.size
                      have BB5 := BG.trans (B5.mono BG.size)
                      have BB5s := BB5.size
                      obtain ⟨y5, z5⟩ := st5.five.Y.there hlt
                      have f5 := st5.five.Y.frozen j
                      obtain ⟨s6, h6, k6⟩ := stg_HH (vH := .slice ah (S.G sc[j].t).length ch) hord hlt st5 rfl rh5
                      have BB6 : Below W0.heap.size W0 (w5.setCell ⟨gH, j, none⟩ (.slice ah (S.G sc[j].t).length ch)) := BB5.setCell (by show _ ≤ gH; omega) _
                      have TMF : false = true → TM W0.heap.size gT gM S (w5.setCell ⟨gH, j, none⟩ (.slice ah (S.G sc[j].t).length ch)) sc[j].o j := fun h => by cases h
                      have K6 : Hid (_ ∧ _ ∧ _) := ⟨s6.five, s6.done hlt TMF (fun _ => h6), BB6⟩
                      clear s6 h6 k6 st5 rh5 rh B5 BB5 TG stG BG x2
                      go_wp2
                      go_roundw
                      case rel => exact ⟨j + 1, by omega, by go_num, K6.out.1, K6.out.2.1, K6.out.2.2⟩
                      case measure => simp [intOf]; omega
                  · go_wp2_with fail
                    have TF := HT0.out.below BF
                    refine (holders_any TF sc[j].o hwf.2 (by omega)).mono ?_
                    rintro e w3 ⟨⟨ga, gb, rfl, ra, rb⟩, B3⟩
                    have st3 := stF.below B3
                    have ra3 := own_base ra BF.size
                    have rb3 := own_base rb BF.size
                    have BB3 := BF.trans (B3.mono BF.size)
                    have BB3s := BB3.size
                    obtain ⟨y3, z3⟩ := st3.five.T.there hlt
                    obtain ⟨y4, z4⟩ := st3.five.M.there hlt
                    have f3 := st3.five.T.frozen j
                    have f4 := st3.five.M.frozen j
                    have ne6 : ¬ gM = gT := by omega
                    have ne7 : ¬ b0 = gT := by omega
                    have ne8 : ¬ b0 = gM := by omega
                    have e3 := (hsc0.below BB3).t j hlt
                    obtain ⟨s4, t4⟩ := stg_TM (vT := .slice (some ⟨ga, 0, none⟩) (S.H sc[j].o).length (S.H sc[j].o).length) (vM := .slice (some ⟨gb, 0, none⟩) (S.H sc[j].o).length (S.H sc[j].o).length) hord hlt st3 rfl rfl ra3 rb3
                    obtain ⟨wG, hwG, stG, tmG, BG⟩ : ∃ wG, (w3.setCell ⟨gT, j, none⟩ (.slice (some ⟨ga, 0, none⟩) (S.H sc[j].o).length (S.H sc[j].o).length)).setCell ⟨gM, j, none⟩ (.slice (some ⟨gb, 0, none⟩) (S.H sc[j].o).length (S.H sc[j].o).length) = wG ∧ Stg W0.heap.size gT gM gH gO gX sc.length S sc wG j true c2 ∧ TM W0.heap.size gT gM S wG sc[j].o j ∧ Below W0.heap.size W0 wG :=
                      ⟨_, rfl, s4, t4, (BB3.setCell (by show _ ≤ gT; omega) _).setCell (by show _ ≤ gM; omega) _⟩
                    have hBGs := BG.size
                    have eG0 := (hsc0.below BG).t j hlt
                    clear s4 t4 st3 ra rb ra3 rb3 B3 TF stF BF hwF BB3
                    cases c2
                    · go_wp2
                      go_roundw
                      case rel => exact ⟨j + 1, by omega, by go_num, stG.five, stG.done hlt (fun _ => tmG) (fun h => by cases h), BG⟩
                      case measure => simp [intOf]; omega
                    · go_wp2_with fail
                      have x2 := (hsc0.below BG).t j hlt
                      have TG := HT0.out.below BG
                      refine (held_any TG sc[j].t hwf.1 (by omega)).mono ?_
                      rintro e w5 ⟨⟨ah, ch, rfl, rh⟩, B5⟩
                      have st5 := stG.below B5
                      have rh5 := own_base rh BG.size
                      have st5K := fun (_ : Unit) => stG.five.cell_below B5 j gT (by simp)
                      have st5M := fun (_ : Unit) => stG.five.cell_below B5 j gM (by simp)
                      have BB5 := BG.trans (B5.mono BG.size)
                      have BB5s := BB5.size
                      obtain ⟨y5, z5⟩ := st5.five.Y.there hlt
                      have f5 := st5.five.Y.frozen j
                      obtain ⟨s6, h6, k6⟩ := stg_HH (vH := .slice ah (S.G sc[j].t).length ch) hord hlt st5 rfl rh5
                      have BB6 : Below W0.heap.size W0 (w5.setCell ⟨gH, j, none⟩ (.slice ah (S.G sc[j].t).length ch)) := BB5.setCell (by show _ ≤ gH; omega) _
                      have TMF : true = true → TM W0.heap.size gT gM S (w5.setCell ⟨gH, j, none⟩ (.slice ah (S.G sc[j].t).length ch)) sc[j].o j := fun _ => k6 _ (tmG.keep (st5K ()) (st5M ()) (rowsKept_below B5))
                      have K6 : Hid (_ ∧ _ ∧ _) := ⟨s6.five, s6.done hlt TMF (fun _ => h6), BB6⟩
                      clear st5K st5M tmG s6 h6 k6 st5 rh5 rh B5 BB5 TG stG BG x2
                      go_wp2
                      go_roundw
                      case rel => exact ⟨j + 1, by omega, by go_num, K6.out.1, K6.out.2.1, K6.out.2.2⟩
                      case measure => simp [intOf]; omega
            · obtain rfl : k = sc.length := by omega
              obtain ⟨W1, rfl⟩ : ∃ W1 : World, W1 = wr := ⟨_, rfl⟩
              have HF1 : Hid (Five W0.heap.size gT gM gH gO gX sc.length W1) := hF
              have HI1 : Hid (∀ i (h : i < sc.length), Item W0.heap.size gT gM gH gO gX S W1 sc[i] i) := fun i h => hI i h h
              have HBw : Hid (Below w.heap.size w W1) := HB0.out.trans (hB.mono HB0.out.size)
              have HT1 : Hid (TabIs W1 w.heap.size (w.heap.size + 2) w.heap.size (w.heap.size + 1) (2 * sc.length) F S fH fG) := HT0.out.below hB
              have HF0 : Hid (∀ z, F z → z < W0.heap.size ∨ W1.heap.size ≤ z) := fun z hz => .inl (HT0.out.lo z hz).2
              have l01 := hB.size
              clear hF hI hB hk hlt hsc0
              go_wp2
              go_loopw [23] (fun i wr => ∃ k : Nat, k ≤ sc.length ∧ i = .int .i64 k ∧ (∃ F' fH' fG', TabIs wr w.heap.size (w.heap.size + 2) w.heap.size (w.heap.size + 1) (2 * sc.length + 2 * k) F' (S.run (sc.take k)) fH' fG' ∧ (∀ z, F' z → z < W0.heap.size ∨ W1.heap.size ≤ z)) ∧
                (∀ z, W0.heap.size ≤ z → z < W1.heap.size → wr.heap[z]? = W1.heap[z]?) ∧ Below w.heap.size w wr ∧ W1.heap.size ≤ wr.heap.size) (fun i _ => sc.length - (intOf i).toNat)
              case atStart => exact ⟨0, Nat.zero_le _, rfl, ⟨F, fH, fG, HT1.out, HF0.out⟩, fun _ _ _ => rfl, HBw.out, Nat.le_refl _⟩
              case round =>
                obtain ⟨k, hk, rfl, ⟨F', fH', fG', hT, hFz⟩, hbl, hB, hsz⟩ := hrel
                have HFz : Hid (∀ z, F' z → z < W0.heap.size ∨ W1.heap.size ≤ z) := hFz
                have Hbl : Hid (∀ z, W0.heap.size ≤ z → z < W1.heap.size → wr.heap[z]? = W1.heap[z]?) := hbl
                clear hFz hbl
                by_cases hlt : k < sc.length
                · obtain rfl := HT.out (ne_of_lt hlt)
                  obtain rfl := HO.out (ne_of_lt hlt)
                  obtain rfl := HM.out (ne_of_lt hlt)
                  have d0 := (HSCw.out.below hB).t k hlt
                  have d1 := (HSCw.out.below hB).o k hlt
                  have d2 := (HSCw.out.below hB).m k hlt
                  have b0l := World.block_lt_of_cell? w _ (HSCw.out.t k hlt)
                  have b1l := World.block_lt_of_cell? w _ (HSCw.out.o k hlt)
                  have b2l := World.block_lt_of_cell? w _ (HSCw.out.m k hlt)
                  have hi0 : (0 : Int) ≤ (k : Int) := Int.natCast_nonneg _
                  have hi1 : (k : Int) < (ts.length : Int) := by omega
                  have hi2 : (k : Int) < (os.length : Int) := by omega
                  have hi3 : (k : Int) < (ms.length : Int) := by omega
                  have hlo := fun q hq => (hT.lo q hq).1
                  have HTd : Hid (TabIs wr.drew w.heap.size (w.heap.size + 2) w.heap.size (w.heap.size + 1) (2 * sc.length + 2 * k) F' (S.run (sc.take k)) fH' fG') := hT.below (Below.refl _ _).drew
                  have HLO : Hid (∀ q, F' q → w.heap.size ≤ q) := hlo
                  have hwf := wf sc[k] (List.getElem_mem hlt)
                  have HBs := hB.size
                  clear hT hlo
                  go_wp2_with fail
                  go_region_held3 (fun w' => w'.cell? ⟨b0, o0 + k, none⟩ = some (.int .i64 sc[k].t) ∧ w'.cell? ⟨b1, o1 + k, none⟩ = some (.string sc[k].o) ∧ w'.cell? ⟨b2, o2 + k, none⟩ = some (.int .i64 sc[k].m))
                    (first
                      | go_keep
                      | (have hb' := hTu.below (B := w.heap.size) HBs HLO.out
                         go_split_ands
                         refine ⟨?_, ?_, ?_⟩
                         · (rw [hb'.cell b0l]; assumption)
                         · (rw [hb'.cell b1l]; assumption)
                         · (rw [hb'.cell b2l]; assumption)))
                    ((first | (go_at_call 8; refine (grant_any HTd.out _ hwf.1 _ hwf.2 _ (by omega)).mono ?_; rintro e w' ⟨rfl, F2, fH2, fG2, hT', hTu, hFF⟩)))
                  rw [← run_take _ _ _ hlt] at hT'
                  have hB' : Below w.heap.size w w' := hB.drew.trans (hTu.below HBs HLO.out)
                  have hsz' : wr.heap.size ≤ w'.heap.size := hTu.size
                  have K1 : Hid (∀ z, F2 z → z < W0.heap.size ∨ W1.heap.size ≤ z) := fun z hz => by
                    by_cases h : z < wr.heap.size
                    · exact HFz.out z (hFF z h hz)
                    · right; omega
                  have K2 : Hid (∀ z, W0.heap.size ≤ z → z < W1.heap.size → w'.heap[z]? = W1.heap[z]?) := fun z h1 h2 =>
                    (hTu.block z (Nat.lt_of_lt_of_le h2 hsz) (fun f => by have := HFz.out z f; omega)).trans (Hbl.out z h1 h2)
                  have hT'' : TabIs w' w.heap.size (w.heap.size + 2) w.heap.size (w.heap.size + 1) (2 * sc.length + 2 * (k + 1)) F2 (S.run (sc.take (k + 1))) fH2 fG2 := hT'
                  clear hTu hFF HTd HLO hB d0 d1 d2 HFz Hbl hT'
                  go_wp2
                  go_roundw
                  case rel => exact ⟨k + 1, by omega, by go_num, ⟨_, _, _, hT'', K1.out⟩, K2.out, hB', by omega⟩
                  case measure => simp [intOf]; omega
                · obtain rfl : k = sc.length := by omega
                  rw [← HS.out, replay, HS.out] at hT
                  obtain ⟨W2, rfl⟩ : ∃ W2 : World, W2 = wr := ⟨_, rfl⟩
                  have HF2 : Hid (Five W0.heap.size gT gM gH gO gX sc.length W2) := five_range HF1.out (Nat.le_refl _) ⟨hNT, hord⟩ Hbl.out
                  have HI2 : Hid (∀ i (h : i < sc.length), Item W0.heap.size gT gM gH gO gX S W2 sc[i] i) := fun i h => item_range HF1.out (HI1.out i h) (Nat.le_refl _) ⟨hNT, hord⟩ Hbl.out
                  have HT2 : Hid (TabIs W2 w.heap.size (w.heap.size + 2) w.heap.size (w.heap.size + 1) (2 * sc.length + 2 * sc.length) F' S fH' fG') := hT
                  have HB2 : Hid (Below w.heap.size w W2) := hB
                  have HSC : Hid (ScAt W2 b0 o0 b1 o1 b2 o2 sc) := HSCw.out.below hB
                  clear hB hT hk hlt Hbl HFz HF1 HI1 HT1 HBw HT0 HB0 HSCw HF0
                  go_wp2
                  go_loopw [24] (fun i wr => ∃ k : Nat, k ≤ sc.length ∧ i = .int .i64 k ∧ Below W2.heap.size W2 wr) (fun i _ => sc.length - (intOf i).toNat)
                  case atStart => exact ⟨0, Nat.zero_le _, rfl, Below.refl _ _⟩
                  case round =>
                    obtain ⟨k, hk, rfl, hB⟩ := hrel
                    by_cases hlt : k < sc.length
                    · obtain rfl := HT.out (ne_of_lt hlt)
                      obtain rfl := HO.out (ne_of_lt hlt)
                      obtain rfl := HM.out (ne_of_lt hlt)
                      have hwf := wf sc[k] (List.getElem_mem hlt)
                      have d1 := (HSC.out.below hB).o k hlt
                      have hFr : Hid (Five W0.heap.size gT gM gH gO gX sc.length wr) := HF2.out.below hB
                      obtain ⟨⟨c1, fb, hTM⟩, ⟨c2, fb', hHH⟩⟩ := Item.below HF2.out (HI2.out k hlt) hB
                      have hHH : Hid (c2 = true → HH W0.heap.size gH S wr sc[k].t k) := hHH
                      have i0 : (0 : Int) ≤ (k : Int) := Int.natCast_nonneg _
                      have i1 : (k : Int) < (sc.length : Int) := by omega
                      have i2 : (k : Int) < (ts.length : Int) := by omega
                      have i3 : (k : Int) < (os.length : Int) := by omega
                      have hBrs := hB.size
                      cases c1
                      · clear hTM
                        cases c2
                        · go_wp2
                          go_roundw
                          case rel => exact ⟨k + 1, by omega, by go_num, hB⟩
                          case measure => simp [intOf]; omega
                        · obtain ⟨X, rfl⟩ : ∃ X : World, X = wr := ⟨_, rfl⟩
                          have hBX := hB
                          have BX : Hid (Below X.heap.size X X) := Below.refl _ _
                          clear hB
                          have TX : TabIs X.drew w.heap.size (w.heap.size + 2) w.heap.size (w.heap.size + 1) (2 * sc.length + 2 * sc.length) F' S fH' fG' := (HT2.out.below hBX).below (Below.refl _ _).drew
                          have TX : Hid _ := TX
                          have x0 := (HSC.out.below hBX).t k hlt
                          obtain ⟨ao, cap, p1, p2⟩ := (hHH.out rfl).keep (hFr.out.cell_below BX.out k gH (by simp)) (rowsKept_below BX.out)
                          have lX0 : b0 < X.heap.size := World.block_lt_of_cell? X _ x0
                          have lXH : gH < X.heap.size := World.block_lt_of_cell? X _ p1
                          have hlg := HT2.out.lG sc[k].t
                          have P2 : Hid _ := p2
                          have hBXs := hBX.size
                          clear p2
                          go_wp2_with fail
                          go_region_held3 (fun w' => w'.cell? ⟨b0, o0 + k, none⟩ = some (.int .i64 sc[k].t) ∧ w'.cell? ⟨gH, k, none⟩ = some (.slice ao (S.G sc[k].t).length cap))
                            (first
                              | go_keep
                              | (go_split_ands
                                 refine ⟨?_, ?_⟩
                                 · (rw [B5.cell (by exact lX0)]; assumption)
                                 · (rw [B5.cell (by exact lXH)]; assumption)))
                            ((first
                              | (go_at_call 10; refine (held_any TX.out sc[k].t hwf.1 (by omega)).mono ?_; rintro e w5 ⟨⟨ah, ch, rfl, rh⟩, B5⟩; have p5 := own_below (w := X.drew) P2.out B5; obtain ⟨z1, a1, a2⟩ := strs_of_own rh; obtain ⟨z2, a3, a4⟩ := strs_of_own p5; have A1 : Hid _ := a1; have A2 : Hid _ := a2; have A3 : Hid _ := a3; have A4 : Hid _ := a4; have RH : Hid _ := rh; have P5 : Hid _ := p5; clear a1 a2 a3 a4 rh p5)
                              | (go_at_call 13; refine (eqStrs_any ah ao z1 z2 ch cap (S.G sc[k].t) _ (by omega) A1.out A3.out A2.out A4.out).mono ?_; rintro e w6 ⟨rfl, q6, rfl⟩)))
                          have K6 : Hid (Below W2.heap.size W2 (w5.drewN q6)) := (hBX.drew.trans (B5.mono hBX.size)).trans (below_drewN _ _ _)
                          clear B5 A1 A2 A3 A4 RH P5 P2 TX
                          go_wp2
                          go_roundw
                          case rel => exact ⟨k + 1, by omega, by go_num, K6.out⟩
                          case measure => simp [intOf]; omega
                      · obtain ⟨g, g', q1, q2, r1, r2⟩ := hTM rfl
                        have R1 : Hid _ := r1
                        have R2 : Hid _ := r2
                        have TB := HT2.out.below hB
                        have hlh := HT2.out.lH sc[k].o
                        have TB : Hid _ := TB
                        clear hTM r1 r2
                        go_wp2_with fail
                        refine (holders_any TB.out sc[k].o hwf.2 (by omega)).mono ?_
                        rintro e w3 ⟨⟨ga, gb, rfl, ra, rb⟩, B3⟩
                        have q1' := (hFr.out.cell_below B3 k gT (by simp)).trans q1
                        have q2' := (hFr.out.cell_below B3 k gM (by simp)).trans q2
                        have q3' := (hFr.out.cell_below B3 k gX (by simp)).trans fb'
                        have I1 := ints_of_own (f := fun p => p.1) rfl ra
                        have I2 := ints_of_own (f := fun p => p.2) rfl rb
                        have I3 := ints_of_own (f := fun p => p.1) rfl (own_below R1.out B3)
                        have I4 := ints_of_own (f := fun p => p.2) rfl (own_below R2.out B3)
                        have I1 : Hid _ := I1
                        have I2 : Hid _ := I2
                        have I3 : Hid _ := I3
                        have I4 : Hid _ := I4
                        have B3' : Hid (Below wr.heap.size wr w3) := B3
                        clear ra rb B3 R1 R2 TB q1 q2 fb' fb d1
                        go_wp2_with fail
                        refine (eqInts_n (List.length_map _) (by omega) I1.out I3.out).mono ?_
                        rintro e w4 ⟨rfl, s1, rfl⟩
                        go_wp2_with fail
                        refine (eqInts_n (w := w3.drewN s1) (List.length_map _) (by omega) (fun i h => I2.out i h) (fun i h => I4.out i h)).mono ?_
                        rintro e w4 ⟨rfl, s2, rfl⟩
                        have BX : Hid (Below wr.heap.size wr ((w3.drewN s1).drewN s2)) := (B3'.out.trans (below_drewN _ _ _)).trans (below_drewN _ _ _)
                        have q4' : ((w3.drewN s1).drewN s2).cell? ⟨gX, k, none⟩ = some (.bool c2) := q3'
                        generalize (w3.drewN s1).drewN s2 = X at BX q4' ⊢
                        have hBX := hB.trans (BX.out.mono hB.size)
                        clear I1 I2 I3 I4 B3' q1' q2' q3' hB
                        cases c2
                        · go_wp2
                          go_roundw
                          case rel => exact ⟨k + 1, by omega, by go_num, hBX⟩
                          case measure => simp [intOf]; omega
                        · have TX : TabIs X.drew w.heap.size (w.heap.size + 2) w.heap.size (w.heap.size + 1) (2 * sc.length + 2 * sc.length) F' S fH' fG' := (HT2.out.below hBX).below (Below.refl _ _).drew
                          have TX : Hid _ := TX
                          have x0 := (HSC.out.below hBX).t k hlt
                          obtain ⟨ao, cap, p1, p2⟩ := (hHH.out rfl).keep (hFr.out.cell_below BX.out k gH (by simp)) (rowsKept_below BX.out)
                          have lX0 : b0 < X.heap.size := World.block_lt_of_cell? X _ x0
                          have lXH : gH < X.heap.size := World.block_lt_of_cell? X _ p1
                          have hlg := HT2.out.lG sc[k].t
                          have P2 : Hid _ := p2
                          have hBXs := hBX.size
                          clear p2
                          go_wp2_with fail
                          go_region_held3 (fun w' => w'.cell? ⟨b0, o0 + k, none⟩ = some (.int .i64 sc[k].t) ∧ w'.cell? ⟨gH, k, none⟩ = some (.slice ao (S.G sc[k].t).length cap))
                            (first
                              | go_keep
                              | (go_split_ands
                                 refine ⟨?_, ?_⟩
                                 · (rw [B5.cell (by exact lX0)]; assumption)
                                 · (rw [B5.cell (by exact lXH)]; assumption)))
                            ((first
                              | (go_at_call 10; refine (held_any TX.out sc[k].t hwf.1 (by omega)).mono ?_; rintro e w5 ⟨⟨ah, ch, rfl, rh⟩, B5⟩; have p5 := own_below (w := X.drew) P2.out B5; obtain ⟨z1, a1, a2⟩ := strs_of_own rh; obtain ⟨z2, a3, a4⟩ := strs_of_own p5; have A1 : Hid _ := a1; have A2 : Hid _ := a2; have A3 : Hid _ := a3; have A4 : Hid _ := a4; have RH : Hid _ := rh; have P5 : Hid _ := p5; clear a1 a2 a3 a4 rh p5)
                              | (go_at_call 13; refine (eqStrs_any ah ao z1 z2 ch cap (S.G sc[k].t) _ (by omega) A1.out A3.out A2.out A4.out).mono ?_; rintro e w6 ⟨rfl, q6, rfl⟩)))
                          have K6 : Hid (Below W2.heap.size W2 (w5.drewN q6)) := (hBX.drew.trans (B5.mono hBX.size)).trans (below_drewN _ _ _)
                          clear B5 A1 A2 A3 A4 RH P5 P2 TX
                          go_wp2
                          go_roundw
                          case rel => exact ⟨k + 1, by omega, by go_num, K6.out⟩
                          case measure => simp [intOf]; omega
                    · go_wp2
                      go_loopw [27] (fun i wr => ∃ k : Nat, k ≤ sc.length ∧ i = .int .i64 k ∧ Below W2.heap.size W2 wr) (fun i _ => sc.length - (intOf i).toNat)
                      case atStart => exact ⟨0, Nat.zero_le _, rfl, hB⟩
                      case round =>
                        clear hB hk hlt
                        obtain ⟨k, hk, rfl, hB⟩ := hrel
                        by_cases hlt : k < sc.length
                        · obtain rfl := HT.out (ne_of_lt hlt)
                          obtain rfl := HO.out (ne_of_lt hlt)
                          obtain rfl := HM.out (ne_of_lt hlt)
                          have hwf := wf sc[k] (List.getElem_mem hlt)
                          have d0 := (HSC.out.below hB).t k hlt
                          have d1 := (HSC.out.below hB).o k hlt
                          have d2 := (HSC.out.below hB).m k hlt
                          have i0 : (0 : Int) ≤ (k : Int) := Int.natCast_nonneg _
                          have i2 : (k : Int) < (ts.length : Int) := by omega
                          have i3 : (k : Int) < (os.length : Int) := by omega
                          have i4 : (k : Int) < (ms.length : Int) := by omega
                          have HB : Hid (Below W2.heap.size W2 wr) := hB
                          clear hB
                          obtain ⟨wo, rfl⟩ : ∃ wo : World, wo = wr := ⟨_, rfl⟩
                          go_wp2
                          go_loopw [28, 29] (fun bv jv wi => ∃ j q : Nat, j ≤ sc.length ∧ jv = .int .i64 j ∧ bv = .int .i64 (seek sc[k].m (sc.take j) sc[k].t sc[k].o) ∧ wi = wo.drewN q) (fun _ jv _ => sc.length - (intOf jv).toNat)
                          case atStart => exact ⟨0, 0, Nat.zero_le _, rfl, rfl, rfl⟩
                          case round =>
                            obtain ⟨j, q, hjl, rfl, rfl, rfl⟩ := hrel
                            by_cases hj : j < sc.length
                            · have x0 := (HSC.out.below HB.out).t j hj
                              have x1 := (HSC.out.below HB.out).o j hj
                              have x2 := (HSC.out.below HB.out).m j hj
                              have j0 : (0 : Int) ≤ (j : Int) := Int.natCast_nonneg _
                              have j1 : (j : Int) < (ts.length : Int) := by omega
                              have j2 : (j : Int) < (os.length : Int) := by omega
                              have j3 : (j : Int) < (ms.length : Int) := by omega
                              by_cases htt : sc[j].t = sc[k].t
                              · have n1 : (sc[j].t == sc[k].t) = true := by simp [htt]
                                by_cases hoo : sc[j].o = sc[k].o
                                · have n2 := tl_eq hoo
                                  by_cases hmm : seek sc[k].m (sc.take j) sc[k].t sc[k].o < sc[j].m
                                  · have HK : Hid (seek sc[k].m (sc.take (j + 1)) sc[k].t sc[k].o = sc[j].m) := seek_hit hj htt hoo hmm
                                    clear htt hoo
                                    generalize seek sc[k].m (sc.take j) sc[k].t sc[k].o = bb at hmm ⊢
                                    go_wp2
                                    go_quiet (fail)
                                    go_wp2
                                    go_roundw
                                    case rel => exact ⟨j + 1, _, by omega, by go_num, by rw [HK.out], rfl⟩
                                    case measure => simp [intOf]; omega
                                  · have HK : Hid (seek sc[k].m (sc.take (j + 1)) sc[k].t sc[k].o = seek sc[k].m (sc.take j) sc[k].t sc[k].o) := seek_miss hj (fun h => hmm h.2.2)
                                    clear htt hoo
                                    generalize seek sc[k].m (sc.take j) sc[k].t sc[k].o = bb at hmm HK ⊢
                                    go_wp2
                                    go_quiet (fail)
                                    go_wp2
                                    go_roundw
                                    case rel => exact ⟨j + 1, _, by omega, by go_num, by rw [HK.out], rfl⟩
                                    case measure => simp [intOf]; omega
                                · have n2 := tl_ne hoo
                                  have HK : Hid (seek sc[k].m (sc.take (j + 1)) sc[k].t sc[k].o = seek sc[k].m (sc.take j) sc[k].t sc[k].o) := seek_miss hj (fun h => hoo h.2.1)
                                  clear htt hoo
                                  generalize seek sc[k].m (sc.take j) sc[k].t sc[k].o = bb at HK ⊢
                                  go_wp2
                                  go_quiet (fail)
                                  go_wp2
                                  go_roundw
                                  case rel => exact ⟨j + 1, _, by omega, by go_num, by rw [HK.out], rfl⟩
                                  case measure => simp [intOf]; omega
                              · have n1 : (sc[j].t == sc[k].t) = false := by simp [htt]
                                have HK : Hid (seek sc[k].m (sc.take (j + 1)) sc[k].t sc[k].o = seek sc[k].m (sc.take j) sc[k].t sc[k].o) := seek_miss hj (fun h => htt h.1)
                                clear htt
                                generalize seek sc[k].m (sc.take j) sc[k].t sc[k].o = bb at HK ⊢
                                go_wp2
                                go_quiet (fail)
                                go_wp2
                                go_roundw
                                case rel => exact ⟨j + 1, _, by omega, by go_num, by rw [HK.out], rfl⟩
                                case measure => simp [intOf]; omega
                            · obtain rfl : j = sc.length := by omega
                              obtain ⟨x, hx1, hx2, hx3⟩ := own_best sc k hlt
                              obtain ⟨on1, on2⟩ := own_once sc k hlt hx1
                              rw [HS.out] at on1 on2
                              rw [List.take_length, seek_end sc k hlt hx2 hx3]
                              have ON1 : Hid ((S.H sc[k].o).countP (isT sc[k].t) = 1) := on1
                              have ON2 : Hid (∀ p ∈ S.H sc[k].o, p.1 = sc[k].t → p.2 = x) := on2
                              clear hx1 hx2 hx3 on1 on2
                              have hBi := HB.out.trans (below_drewN W2.heap.size wo q)
                              generalize wo.drewN q = wi at hBi ⊢
                              have y1 := (HSC.out.below hBi).o k hlt
                              have TI := HT2.out.below hBi
                              have hlh := HT2.out.lH sc[k].o
                              have TI : Hid _ := TI
                              clear HB
                              go_wp2_with fail
                              refine (holders_any TI.out sc[k].o hwf.2 (by omega)).mono ?_
                              rintro e w5 ⟨⟨ga, gb, rfl, ra, rb⟩, B5⟩
                              have HB5 : Hid (Below W2.heap.size W2 w5) := hBi.trans (B5.mono hBi.size)
                              have I1 := ints_of_own (f := fun p => p.1) rfl ra
                              have I2 := ints_of_own (f := fun p => p.2) rfl rb
                              have I1 : Hid _ := I1
                              have I2 : Hid _ := I2
                              clear ra rb B5 TI hBi y1
                              generalize S.H sc[k].o = l at I1 I2 ON1 ON2 hlh ⊢
                              go_wp2
                              go_loopw [32, 33] (fun cv jv wi => ∃ j q : Nat, j ≤ l.length ∧ jv = .int .i64 j ∧ cv = .int .i64 ((l.take j).countP (isT sc[k].t) : Nat) ∧ wi = w5.drewN q) (fun _ jv _ => l.length - (intOf jv).toNat)
                              case atStart => exact ⟨0, 0, Nat.zero_le _, rfl, rfl, rfl⟩
                              case round =>
                                obtain ⟨j, q, hjl, rfl, rfl, rfl⟩ := hrel
                                have hcl : (l.take j).countP (isT sc[k].t) ≤ l.length := Nat.le_trans List.countP_le_length (by simp; omega)
                                by_cases hj : j < l.length
                                · have z1 := I1.out j (by simpa using hj)
                                  have z2 := I2.out j (by simpa using hj)
                                  rw [List.getElem_map] at z1 z2
                                  have x0 := (HSC.out.below HB5.out).t k hlt
                                  have j0 : (0 : Int) ≤ (j : Int) := Int.natCast_nonneg _
                                  have j1 : (j : Int) < (l.length : Int) := by omega
                                  by_cases htt : l[j].1 = sc[k].t
                                  · have n1 : (l[j].1 == sc[k].t) = true := by simp [htt]
                                    have hx := ON2.out l[j] (List.getElem_mem hj) htt
                                    rw [hx] at z2
                                    have HK : Hid ((l.take (j + 1)).countP (isT sc[k].t) = (l.take j).countP (isT sc[k].t) + 1) := cnt_hit hj htt
                                    clear htt hx
                                    generalize (l.take j).countP (isT sc[k].t) = cc at HK hcl ⊢
                                    go_wp2
                                    go_quiet (fail)
                                    go_wp2
                                    go_roundw
                                    case rel => exact ⟨j + 1, _, by omega, by go_num, by rw [HK.out]; go_num, rfl⟩
                                    case measure => simp [intOf]; omega
                                  · have n1 : (l[j].1 == sc[k].t) = false := by simp [htt]
                                    have HK : Hid ((l.take (j + 1)).countP (isT sc[k].t) = (l.take j).countP (isT sc[k].t)) := cnt_miss hj htt
                                    clear htt
                                    generalize (l.take j).countP (isT sc[k].t) = cc at HK hcl ⊢
                                    go_wp2
                                    go_quiet (fail)
                                    go_wp2
                                    go_roundw
                                    case rel => exact ⟨j + 1, _, by omega, by go_num, by rw [HK.out], rfl⟩
                                    case measure => simp [intOf]; omega
                                · obtain rfl : j = l.length := by omega
                                  rw [List.take_length, ON1.out]
                                  go_wp2
                                  go_roundw
                                  case rel => exact ⟨k + 1, by omega, by go_num, HB5.out.trans (below_drewN _ _ _)⟩
                                  case measure => simp [intOf]; omega
                        · go_wp2
                          go_ret
                          exact ⟨rfl, HB2.out.trans (hB.mono HB2.out.size)⟩

end Go.Proofs.Qxb6628846a
