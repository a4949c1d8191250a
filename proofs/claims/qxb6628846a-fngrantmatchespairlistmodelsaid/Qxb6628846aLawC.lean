import Derived.Test.Qxb6628846aArgs
import Derived.Test.Qxb6628846aHeld
import Derived.Test.Qxb6628846aPairs
import Derived.Deep.QuietTactic
import Derived.BigQuiet
namespace Go.Proofs.Qxb6628846a
open Go.RowKit

/-- The script in memory: the first of each of the three slices. -/
structure ScAt (w : World) (b0 o0 b1 o1 b2 o2 : Nat) (sc : List Gr) : Prop where
  t : ∀ i (h : i < sc.length), w.cell? ⟨b0, o0 + i, none⟩ = some (.int .i64 sc[i].t)
  o : ∀ i (h : i < sc.length), w.cell? ⟨b1, o1 + i, none⟩ = some (.string sc[i].o)
  m : ∀ i (h : i < sc.length), w.cell? ⟨b2, o2 + i, none⟩ = some (.int .i64 sc[i].m)

theorem ScAt.below {w w' : World} {b0 o0 b1 o1 b2 o2 : Nat} {sc : List Gr} (h : ScAt w b0 o0 b1 o1 b2 o2 sc) (hb : Below w.heap.size w w') : ScAt w' b0 o0 b1 o1 b2 o2 sc :=
  ⟨fun i hi => (hb.cell (World.block_lt_of_cell? w _ (h.t i hi))).trans (h.t i hi), fun i hi => (hb.cell (World.block_lt_of_cell? w _ (h.o i hi))).trans (h.o i hi), fun i hi => (hb.cell (World.block_lt_of_cell? w _ (h.m i hi))).trans (h.m i hi)⟩

theorem list_of {α : Type} {p : Nat → α → Prop} : ∀ n, (∀ i, i < n → ∃ x, p i x) → ∃ l : List α, l.length = n ∧ ∀ i (h : i < l.length), p i l[i]
  | 0, _ => ⟨[], rfl, fun i h => by simp at h⟩
  | n + 1, h => by
    obtain ⟨l, hl, hp⟩ := list_of n fun i hi => h i (by omega)
    obtain ⟨x, hx⟩ := h n (by omega)
    refine ⟨l ++ [x], by simp [hl], fun i hi => ?_⟩
    by_cases hin : i < l.length
    · rw [List.getElem_append_left hin]; exact hp i hin
    · have : i = l.length := by simp at hi; omega
      subst this
      rw [List.getElem_append_right (Nat.le_refl _)]
      simpa [hl] using hx

theorem script {w : World} {to oo mo : Option Addr} {b0 o0 b1 o1 b2 o2 : Nat} {ts : List Int} {os : List ByteArray} {ms : List Int} (ht : IntsAt w to b0 o0 ts) (ho : StrsAt w oo b1 o1 os) (hm : IntsAt w mo b2 o2 ms)
    (wt : ∀ x ∈ ts, (Lit.int .i64 x).wf = true) (wo : ∀ x ∈ os, x.size ≤ maxLen) :
    ∃ sc : List Gr, sc.length = min ts.length (min os.length ms.length) ∧ ScAt w b0 o0 b1 o1 b2 o2 sc ∧ (∀ e ∈ sc, (Lit.int .i64 e.t).wf = true ∧ e.o.size ≤ maxLen) := by
  obtain ⟨sc, hl, hp⟩ := list_of (p := fun i (e : Gr) => w.cell? ⟨b0, o0 + i, none⟩ = some (.int .i64 e.t) ∧ w.cell? ⟨b1, o1 + i, none⟩ = some (.string e.o) ∧ w.cell? ⟨b2, o2 + i, none⟩ = some (.int .i64 e.m) ∧ (Lit.int .i64 e.t).wf = true ∧ e.o.size ≤ maxLen)
    (min ts.length (min os.length ms.length)) (fun i hi => ⟨⟨ts[i]'(by omega), os[i]'(by omega), ms[i]'(by omega)⟩, ht.2 i (by omega), ho.2 i (by omega), hm.2 i (by omega), wt _ (List.getElem_mem _), wo _ (List.getElem_mem _)⟩)
  refine ⟨sc, hl, ⟨fun i hi => (hp i hi).1, fun i hi => (hp i hi).2.1, fun i hi => (hp i hi).2.2.1⟩, fun e he => ?_⟩
  obtain ⟨i, hi, rfl⟩ := List.getElem_of_mem he
  exact (hp i hi).2.2.2

theorem below_drewN (B : Nat) (w : World) (q : Nat) : Below B w (w.drewN q) := ⟨rfl, rfl, rfl, Nat.le_refl _, fun _ _ => rfl⟩

set_option maxRecDepth 100000 in
set_option maxHeartbeats 6400000 in
theorem lawC_walk (to oo mo : Option Addr) (tc oc mc b0 o0 b1 o1 b2 o2 : Nat) (ts : List Int) (os : List ByteArray) (ms : List Int) (w : World) (ht : IntsAt w to b0 o0 ts) (ho : StrsAt w oo b1 o1 os) (hm : IntsAt w mo b2 o2 ms)
    (wt : ∀ x ∈ ts, (Lit.int .i64 x).wf = true) (wo : ∀ x ∈ os, x.size ≤ maxLen) :
    Calls Try.prog 3 #[.slice to ts.length tc, .slice oo os.length oc, .slice mo ms.length mc] w fun e w' => e = .returned (.bool true) ∧ Below w.heap.size w w' := by
  go_enter Try.func3, Try.ntmps3
  go_wp2_with fail
  refine (bytes5_any to oo mo ts.length tc b1 o1 oc ms.length mc os _ ho).mono ?_
  rintro e w0 ⟨⟨b, rfl, hshort⟩, hw0⟩
  have hw0 := hw0.symm
  subst hw0
  cases b
  · go_wp2
    go_ret
    exact ⟨rfl, Below.refl _ _⟩
  replace hshort := hshort rfl
  by_cases k1 : ts.length ≤ 4096
  rotate_left
  · go_wp2
    go_ret
    exact ⟨rfl, Below.refl _ _⟩
  by_cases k2 : os.length ≤ 4096
  rotate_left
  · go_wp2
    go_ret
    exact ⟨rfl, Below.refl _ _⟩
  by_cases k3 : ms.length ≤ 4096
  rotate_left
  · go_wp2
    go_ret
    exact ⟨rfl, Below.refl _ _⟩
  go_wp2
  go_loop [7, 8] (fun z i => ∃ k t : Nat, k ≤ os.length ∧ i = .int .i64 k ∧ t ≤ 1048576 ∧ z = .int .i64 t) (fun _ i => os.length - (intOf i).toNat)
  case atStart => exact ⟨0, 8 * ts.length + 8 * ms.length, Nat.zero_le _, rfl, by omega, by go_num⟩
  case round =>
    obtain ⟨k, t, hk, rfl, hk2, rfl⟩ := hrel
    by_cases hlt : k < os.length
    · obtain rfl := ho.1 (ne_of_lt hlt)
      have c0 := ho.2 k hlt
      have hsz := hshort os[k] (List.getElem_mem hlt)
      by_cases hbig : t + os[k].size ≤ 1048576
      · go_wp2
        go_round
        case rel => exact ⟨k + 1, t + os[k].size, by omega, by go_num, by omega, by go_num⟩
        case measure => simp [intOf]; omega
      · go_wp2
        go_ret
        exact ⟨rfl, Below.refl _ _⟩
    · clear hk hshort
      obtain ⟨sc, hn, hsc, wf⟩ := script ht ho hm wt wo
      have HT : Hid (sc ≠ [] → to = some ⟨b0, o0, none⟩) := fun h => ht.1 (by intro e; subst e; simp at hn; exact h hn)
      have HO : Hid (sc ≠ [] → oo = some ⟨b1, o1, none⟩) := fun h => ho.1 (by intro e; subst e; simp at hn; exact h hn)
      have HM : Hid (sc ≠ [] → mo = some ⟨b2, o2, none⟩) := fun h => hm.1 (by intro e; subst e; simp at hn; exact h hn)
      have n1 : sc.length ≤ ts.length := by omega
      have n2 : sc.length ≤ os.length := by omega
      have n3 : sc.length ≤ ms.length := by omega
      have HN : Hid (sc.length = min ts.length (min os.length ms.length)) := hn
      clear hn
      go_wp2_with fail
      refine (min3_any _ _ _ _).mono ?_
      rintro e w1 ⟨rfl, hw1⟩
      have hw1 := hw1.symm
      subst hw1
      rw [← HN.out]
      clear HN ht ho hm wt wo hw1
      go_wp2_with fail
      refine (newTable_any _).mono ?_
      rintro e w1 ⟨rfl, hT, hB1⟩
      go_wp2
      go_loopw [11] (fun i wr => ∃ k : Nat, k ≤ sc.length ∧ i = .int .i64 k ∧ (∃ F fH fG, TabIs wr w.heap.size (w.heap.size + 2) w.heap.size (w.heap.size + 1) (2 * k) F (St.empty.run (sc.take k)) fH fG) ∧ Below w.heap.size w wr) (fun i _ => sc.length - (intOf i).toNat)
      case atStart => exact ⟨0, Nat.zero_le _, rfl, ⟨_, _, _, hT⟩, hB1⟩
      case round =>
        clear hT hB1
        obtain ⟨k, hk, rfl, ⟨F, fH, fG, hT⟩, hB⟩ := hrel
        by_cases hlt : k < sc.length
        · obtain rfl := HT.out (ne_of_lt hlt)
          obtain rfl := HO.out (ne_of_lt hlt)
          obtain rfl := HM.out (ne_of_lt hlt)
          have d0 := (hsc.below hB).t k hlt
          have d1 := (hsc.below hB).o k hlt
          have d2 := (hsc.below hB).m k hlt
          have b0l := World.block_lt_of_cell? w _ (hsc.t k hlt)
          have b1l := World.block_lt_of_cell? w _ (hsc.o k hlt)
          have b2l := World.block_lt_of_cell? w _ (hsc.m k hlt)
          have hi0 : (0 : Int) ≤ (k : Int) := Int.natCast_nonneg _
          have hi1 : (k : Int) < (ts.length : Int) := by omega
          have hi2 : (k : Int) < (os.length : Int) := by omega
          have hi3 : (k : Int) < (ms.length : Int) := by omega
          have hlo := fun q hq => (hT.lo q hq).1
          have HTd : Hid (TabIs wr.drew w.heap.size (w.heap.size + 2) w.heap.size (w.heap.size + 1) (2 * k) F (St.empty.run (sc.take k)) fH fG) := hT.below (Below.refl _ _).drew
          have HLO : Hid (∀ q, F q → w.heap.size ≤ q) := hlo
          have hwf := wf sc[k] (List.getElem_mem hlt)
          have HBs := hB.size
          clear hT hlo
          go_wp2_with fail
          go_region_held3 (fun w' => w'.cell? ⟨b0, o0 + k, none⟩ = some (.int .i64 sc[k].t) ∧ w'.cell? ⟨b1, o1 + k, none⟩ = some (.string sc[k].o) ∧ w'.cell? ⟨b2, o2 + k, none⟩ = some (.int .i64 sc[k].m))
            (first
              | go_keep
              | (have hb' := hTu.below (B := w.heap.size) HBs HLO.out
                 go_split_ands
                 refine ⟨?_, ?_, ?_⟩
                 · (rw [hb'.cell b0l]; assumption)
                 · (rw [hb'.cell b1l]; assumption)
                 · (rw [hb'.cell b2l]; assumption)))
            ((first | (go_at_call 8; refine (grant_any HTd.out _ hwf.1 _ hwf.2 _ (by omega)).mono ?_; rintro e w' ⟨rfl, F', fH', fG', hT', hTu, hFF⟩)))
          rw [← run_take _ _ _ hlt] at hT'
          have hB' : Below w.heap.size w w' := hB.drew.trans (hTu.below HBs HLO.out)
          clear hTu hFF HTd HLO hB d0 d1 d2
          go_wp2
          go_roundw
          case rel => exact ⟨k + 1, by omega, by go_num, ⟨_, _, _, hT'⟩, hB'⟩
          case measure => simp [intOf]; omega
        · obtain rfl : k = sc.length := by omega
          rw [List.take_length] at hT
          obtain ⟨W0, rfl⟩ : ∃ W0 : World, W0 = wr := ⟨_, rfl⟩
          have hsc0 := hsc.below hB
          have HB0 : Hid (Below w.heap.size w W0) := hB
          have HT0 : Hid (TabIs W0 w.heap.size (w.heap.size + 2) w.heap.size (w.heap.size + 1) (2 * sc.length) F (St.empty.run sc) fH fG) := hT
          clear hB hT hk hlt hsc
          obtain ⟨i3, hi3, hz30, hz31, hz32⟩ := info_parts Try.info3
          obtain ⟨i9, hi9, hz90, hz91, hz92⟩ := info_parts Try.info9
          have tok1 : True := trivial
          have tok2 : True := trivial
          go_wp2_with (first
            | (at_make; have _t := tok1; refine wpList_make_own _ rfl _ _ 22 rfl W0.heap.size 3 i3 _ 1 Try.underlying22 hi3 hz30 hz31 .i64 .i64 _ sc.length rfl rfl rfl (by rw [hz32]; omega) (by unfold maxLen; omega) (Nat.le_refl _) ?_; intro w1 own1 gr1; clear tok1)
            | (at_make; have _t := tok2; refine wpList_make_own _ rfl _ _ 23 rfl W0.heap.size 9 i9 _ 1 Try.underlying23 hi9 hz90 hz91 .i64 .i64 _ sc.length rfl rfl rfl (by rw [hz92]; omega) (by unfold maxLen; omega) (by have := gr1.size; omega) ?_; intro w2 own2 gr2; clear tok2)
            | (at_make; refine wpList_make_own _ rfl _ _ 22 rfl W0.heap.size 3 i3 _ 1 Try.underlying22 hi3 hz30 hz31 .i64 .i64 _ sc.length rfl rfl rfl (by rw [hz32]; omega) (by unfold maxLen; omega) (by have := gr1.size; have := gr2.size; omega) ?_; intro w3 own3 gr3))
          have hP0 := pairAt_made own1 own2 own3 gr2 gr3
          have hB3 : Below W0.heap.size W0 w3 := (((Below.refl _ _).grown gr1 (Nat.le_refl _) (by simp)).grown gr2 gr1.size (by simp)).grown gr3 (Nat.le_trans gr1.size gr2.size) (by simp)
          have l1 : W0.heap.size < w1.heap.size := (own1.lt _ rfl).2
          have l2 : w1.heap.size < w2.heap.size := (own2.lt _ rfl).2
          obtain ⟨g1, hg1⟩ : ∃ g1, g1 = W0.heap.size := ⟨_, rfl⟩
          obtain ⟨g2, hg2⟩ : ∃ g2, g2 = w1.heap.size := ⟨_, rfl⟩
          obtain ⟨g3, hg3⟩ : ∃ g3, g3 = w2.heap.size := ⟨_, rfl⟩
          have h12 : g1 ≠ g2 := by omega
          have h13 : g1 ≠ g3 := by omega
          have h23 : g2 ≠ g3 := by omega
          have q1 : W0.heap.size ≤ g1 := by omega
          have q2 : W0.heap.size ≤ g2 := by omega
          have q3 : W0.heap.size ≤ g3 := by omega
          have hP0 : PairAt w3 W0.heap.size g1 g2 g3 sc.length [] := by rw [hg1, hg2, hg3]; exact hP0
          rw [← hg1, ← hg2, ← hg3]
          clear hg1 hg2 hg3 l1 l2 own1 own2 own3 gr1 gr2 gr3
          go_loopw [12, 13, 14, 15] (fun v1 v2 v3 i wr => ∃ k : Nat, k ≤ sc.length ∧ i = .int .i64 k ∧ v1 = .slice (some ⟨g1, 0, none⟩) (prun (sc.take k)).length sc.length ∧ v2 = .slice (some ⟨g2, 0, none⟩) (prun (sc.take k)).length sc.length ∧
            v3 = .slice (some ⟨g3, 0, none⟩) (prun (sc.take k)).length sc.length ∧ PairAt wr W0.heap.size g1 g2 g3 sc.length (prun (sc.take k)) ∧ Below W0.heap.size W0 wr) (fun _ _ _ i _ => sc.length - (intOf i).toNat)
          case atStart => exact ⟨0, Nat.zero_le _, rfl, rfl, rfl, rfl, hP0, hB3⟩
          case round =>
            clear hP0 hB3
            obtain ⟨k, hk, rfl, rfl, rfl, rfl, hP, hB⟩ := hrel
            by_cases hlt : k < sc.length
            · obtain rfl := HT.out (ne_of_lt hlt)
              obtain rfl := HO.out (ne_of_lt hlt)
              obtain rfl := HM.out (ne_of_lt hlt)
              have d0 := (hsc0.below hB).t k hlt
              have d1 := (hsc0.below hB).o k hlt
              have d2 := (hsc0.below hB).m k hlt
              have HPR := prun_take sc k hlt
              have hpl := (prun_length sc k).1
              generalize prun (sc.take k) = P at hP hpl HPR ⊢
              have HPR : Hid (prun (sc.take (k + 1)) = pgrant P sc[k].t sc[k].o sc[k].m) := HPR
              have HP : Hid (PairAt wr W0.heap.size g1 g2 g3 sc.length P) := hP
              have hBs := hB.size
              have HB : Hid (Below W0.heap.size W0 wr) := hB
              clear hP hB
              obtain ⟨wo, rfl⟩ : ∃ wo : World, wo = wr := ⟨_, rfl⟩
              go_wp2
              go_loopw [16, 17] (fun f j wi => ∃ c q : Nat, c ≤ P.length ∧ j = .int .i64 c ∧ f = .int .i64 (-1) ∧ (∀ i (hi : i < P.length), i < c → hit P[i] sc[k].t sc[k].o = false) ∧ wi = wo.drewN q) (fun _ j _ => P.length - (intOf j).toNat)
              case atStart => exact ⟨0, 0, Nat.zero_le _, rfl, rfl, fun i _ h => absurd h (by omega), rfl⟩
              case round =>
                obtain ⟨c, q, hcl, rfl, rfl, hno, rfl⟩ := hrel
                have HNO : Hid (∀ i (hi : i < P.length), i < c → hit P[i] sc[k].t sc[k].o = false) := hno
                clear hno
                by_cases hc : c < P.length
                · have p0 := HP.out.t c hc
                  have p1 := HP.out.o c hc
                  have p2 := HP.out.m c hc
                  have j0 : (0 : Int) ≤ (c : Int) := Int.natCast_nonneg _
                  have j1 : (c : Int) < (P.length : Int) := by omega
                  by_cases htt : P[c].t = sc[k].t
                  · have x1 : (P[c].t == sc[k].t) = true := by simp [htt]
                    by_cases hoo : P[c].o = sc[k].o
                    · have x2 := tl_eq hoo
                      have HX : Hid (hit P[c] sc[k].t sc[k].o = true) := by show _ = _; simp [hit, htt, hoo]
                      clear htt hoo
                      go_wp2
                      go_quiet (fail)
                      go_wp2
                      have HG := pgrant_hit (m := sc[k].m) hc HX.out HNO.out
                      rw [← HPR.out] at HG
                      by_cases hmm : P[c].m < sc[k].m
                      · rw [Int.max_eq_right (by omega)] at HG
                        have f3 := HP.out.c.frozenAt c
                        have HL : Hid ((prun (sc.take (k + 1))).length = P.length) := by show _ = _; rw [HG, List.length_set]
                        have HG : Hid (prun (sc.take (k + 1)) = P.set c ⟨P[c].t, P[c].o, sc[k].m⟩) := HG
                        go_quiet (fail)
                        go_wp2
                        go_roundw
                        case rel => exact ⟨k + 1, by omega, by go_num, by rw [HL.out], by rw [HL.out], by rw [HL.out], by rw [HG.out]; exact (HP.out.drewN _).setM h13 h23 hc _, (HB.out.trans (below_drewN _ _ _)).setCell q3 _⟩
                        case measure => simp [intOf]; omega
                      · rw [set_self_m hc (by omega)] at HG
                        have HL : Hid ((prun (sc.take (k + 1))).length = P.length) := by show _ = _; rw [HG]
                        have HG : Hid (prun (sc.take (k + 1)) = P) := HG
                        go_quiet (fail)
                        go_wp2
                        go_roundw
                        case rel => exact ⟨k + 1, by omega, by go_num, by rw [HL.out], by rw [HL.out], by rw [HL.out], by rw [HG.out]; exact HP.out.drewN _, HB.out.trans (below_drewN _ _ _)⟩
                        case measure => simp [intOf]; omega
                    · have x2 := tl_ne hoo
                      have HX : Hid (hit P[c] sc[k].t sc[k].o = false) := by show _ = _; simp [hit, hoo]
                      clear htt hoo
                      go_wp2
                      go_quiet (fail)
                      go_wp2
                      go_roundw
                      case rel => exact ⟨c + 1, _, by omega, by go_num, rfl, fun i hi hic => by
                          by_cases e : i = c
                          · subst e; exact HX.out
                          · exact HNO.out i hi (by omega), rfl⟩
                      case measure => simp [intOf]; omega
                  · have x1 : (P[c].t == sc[k].t) = false := by simp [htt]
                    have HX : Hid (hit P[c] sc[k].t sc[k].o = false) := by show _ = _; simp [hit, htt]
                    clear htt
                    go_wp2
                    go_quiet (fail)
                    go_wp2
                    go_roundw
                    case rel => exact ⟨c + 1, _, by omega, by go_num, rfl, fun i hi hic => by
                        by_cases e : i = c
                        · subst e; exact HX.out
                        · exact HNO.out i hi (by omega), rfl⟩
                    case measure => simp [intOf]; omega
                · obtain rfl : c = P.length := by omega
                  have HG := pgrant_miss (m := sc[k].m) (fun j hj => HNO.out j hj hj)
                  rw [← HPR.out] at HG
                  have HL : Hid ((prun (sc.take (k + 1))).length = P.length + 1) := by show _ = _; rw [HG, List.length_append]; rfl
                  have HG : Hid (prun (sc.take (k + 1)) = P ++ [⟨sc[k].t, sc[k].o, sc[k].m⟩]) := HG
                  have hPi := HP.out.drewN q
                  have hBi := HB.out.trans (below_drewN W0.heap.size wo q)
                  generalize wo.drewN q = wi at hPi hBi ⊢
                  have e0 := (hsc0.below hBi).t k hlt
                  have hBis := hBi.size
                  clear d0 d1 d2 HP HB hBs
                  have tok1 : True := trivial
                  have tok2 : True := trivial
                  go_wp2_with (first
                    | (at_builtin; have _t := tok1; refine wpList_append_fits _ rfl _ _ 22 rfl W0.heap.size 3 i3 1 Try.underlying22 hi3 hz31 g1 P.length sc.length _ rfl (hPi.a.alloc _) ⟨wi.heap.size, 0, none⟩ 1 1 [.int .i64 sc[k].t] rfl rfl (World.news_of_block (cs := #[.int .i64 sc[k].t]) (t := 3) (fr := (0, 0)) (heap_alloc_new wi _)) (by simp [Value.oneCell']) (by omega) ?_; intro wa oa ga; have ob0 := (hPi.b.alloc _).kept ga (.inr (by simpa [Value.ownBlock] using Ne.symm h12)); have oc0 := (hPi.c.alloc _).kept ga (.inr (by simpa [Value.ownBlock] using Ne.symm h13)); have hBa := (hBi.alloc hBis _).grown ga (by simp; omega) (by intro z hz; simp at hz; omega); have hBas := hBa.size; have e1 := (hsc0.below hBa).o k hlt; clear ga tok1)
                    | (at_builtin; have _t := tok2; refine wpList_append_fits _ rfl _ _ 23 rfl W0.heap.size 9 i9 1 Try.underlying23 hi9 hz91 g2 P.length sc.length _ rfl (ob0.alloc _) ⟨wa.heap.size, 0, none⟩ 1 1 [.string sc[k].o] rfl rfl (World.news_of_block (cs := #[.string sc[k].o]) (t := 9) (fr := (0, 0)) (heap_alloc_new wa _)) (by simp [Value.oneCell']) (by omega) ?_; intro wb ob gb; have oc1 := (oc0.alloc _).kept gb (.inr (by simpa [Value.ownBlock] using Ne.symm h23)); have hBb := (hBa.alloc hBas _).grown gb (by simp; omega) (by intro z hz; simp at hz; omega); have hBbs := hBb.size; have e2 := (hsc0.below hBb).m k hlt; clear tok2)
                    | (at_builtin; refine wpList_append_fits _ rfl _ _ 22 rfl W0.heap.size 3 i3 1 Try.underlying22 hi3 hz31 g3 P.length sc.length _ rfl (oc1.alloc _) ⟨wb.heap.size, 0, none⟩ 1 1 [.int .i64 sc[k].m] rfl rfl (World.news_of_block (cs := #[.int .i64 sc[k].m]) (t := 3) (fr := (0, 0)) (heap_alloc_new wb _)) (by simp [Value.oneCell']) (by omega) ?_; intro wc oc gc; have hBc := (hBb.alloc hBbs _).grown gc (by simp; omega) (by intro z hz; simp at hz; omega)))
                  have hPc := pairAt_push h12 h13 h23 (e := ⟨sc[k].t, sc[k].o, sc[k].m⟩) oa ob gb oc gc
                  clear oa ob gb oc gc ob0 oc0 oc1 hBa hBb hPi hBi
                  go_wp2
                  go_roundw
                  case rel => exact ⟨k + 1, by omega, by go_num, by rw [HL.out], by rw [HL.out], by rw [HL.out], by rw [HG.out]; exact hPc, hBc⟩
                  case measure => simp [intOf]; omega
            · obtain rfl : k = sc.length := by omega
              rw [List.take_length] at hP ⊢
              have hA := agree_run sc sc.length
              rw [List.take_length] at hA
              have hpl := (prun_length sc sc.length).2
              rw [List.take_length] at hpl
              generalize prun sc = P at hP hA hpl ⊢
              obtain ⟨W1, rfl⟩ : ∃ W1 : World, W1 = wr := ⟨_, rfl⟩
              have HB1 : Hid (Below w.heap.size w W1) := HB0.out.trans (hB.mono HB0.out.size)
              have HT1 : Hid (TabIs W1 w.heap.size (w.heap.size + 2) w.heap.size (w.heap.size + 1) (2 * sc.length) F (St.empty.run sc) fH fG) := HT0.out.below hB
              have HSC : Hid (ScAt W1 b0 o0 b1 o1 b2 o2 sc) := hsc0.below hB
              have HP1 : Hid (PairAt W1 W0.heap.size g1 g2 g3 sc.length P) := hP
              have HA : Hid (Agree (St.empty.run sc) P) := hA
              generalize St.empty.run sc = S at HT1 HA HT0
              clear hA hP hB HT0 HB0 hsc0 hk hlt
              go_wp2
              go_loopw [18] (fun i wr => ∃ k : Nat, k ≤ sc.length ∧ i = .int .i64 k ∧ Below W1.heap.size W1 wr) (fun i _ => sc.length - (intOf i).toNat)
              case atStart => exact ⟨0, Nat.zero_le _, rfl, Below.refl _ _⟩
              case round =>
                obtain ⟨k, hk, rfl, hB⟩ := hrel
                by_cases hlt : k < sc.length
                · obtain rfl := HT.out (ne_of_lt hlt)
                  obtain rfl := HO.out (ne_of_lt hlt)
                  obtain rfl := HM.out (ne_of_lt hlt)
                  have hT := HT1.out.below hB
                  have d1 := (HSC.out.below hB).o k hlt
                  have hwf := wf sc[k] (List.getElem_mem hlt)
                  go_wp2_with fail
                  refine (holders_any hT sc[k].o hwf.2 (by omega)).mono ?_
                  rintro e w5 ⟨⟨ga, gb, rfl, ra, rb⟩, B5⟩
                  have hB5 := hB.trans (B5.mono hB.size)
                  clear hT B5 hB d1
                  have RA : Hid (w5.ownsRow wr.heap.size 3 1 (.slice (some ⟨ga, 0, none⟩) (S.H sc[k].o).length (S.H sc[k].o).length) (S.H sc[k].o).length ((S.H sc[k].o).map fun p => .int .i64 p.1)) := ra
                  have RB : Hid (w5.ownsRow wr.heap.size 3 1 (.slice (some ⟨gb, 0, none⟩) (S.H sc[k].o).length (S.H sc[k].o).length) (S.H sc[k].o).length ((S.H sc[k].o).map fun p => .int .i64 p.2)) := rb
                  have HB5 : Hid (Below W1.heap.size W1 w5) := hB5
                  obtain ⟨N5, hN5⟩ : ∃ N5, N5 = wr.heap.size := ⟨_, rfl⟩
                  rw [← hN5] at RA RB
                  have hlh := HT1.out.lH sc[k].o
                  clear ra rb hB5 hN5
                  go_wp2
                  go_loopw [21, 22] (fun kv jv wi => ∃ j c q : Nat, j ≤ P.length ∧ jv = .int .i64 j ∧ kv = .int .i64 c ∧ c = ((P.take j).filter (atO sc[k].o)).length ∧ wi = w5.drewN q) (fun _ jv _ => P.length - (intOf jv).toNat)
                  case atStart => exact ⟨0, 0, 0, Nat.zero_le _, rfl, rfl, by simp, rfl⟩
                  case round =>
                    obtain ⟨j, c, q, hjl, rfl, rfl, hc, rfl⟩ := hrel
                    have HC : Hid (c = ((P.take j).filter (atO sc[k].o)).length) := hc
                    clear hc
                    by_cases hj : j < P.length
                    · have x0 := (HP1.out.below HB5.out).t j hj
                      have x1 := (HP1.out.below HB5.out).o j hj
                      have x2 := (HP1.out.below HB5.out).m j hj
                      have y1 := (HSC.out.below HB5.out).o k hlt
                      have j0 : (0 : Int) ≤ (j : Int) := Int.natCast_nonneg _
                      have j1 : (j : Int) < (P.length : Int) := by omega
                      have j2 : (0 : Int) ≤ (k : Int) := Int.natCast_nonneg _
                      have j3 : (k : Int) < (os.length : Int) := by omega
                      by_cases hoo : P[j].o = sc[k].o
                      · have nn := tl_eq hoo
                        have z1 := got_at HA.out rfl RA.out hj hoo
                        have z2 := gotM_at HA.out rfl RB.out hj hoo
                        rw [← HC.out] at z1 z2
                        obtain ⟨z1, z3⟩ := z1
                        have HK : Hid (c + 1 = ((P.take (j + 1)).filter (atO sc[k].o)).length) := by show _ = _; rw [count_hit _ _ _ hj (by simp [atO, hoo]), HC.out]
                        have j4 : (0 : Int) ≤ (c : Int) := Int.natCast_nonneg _
                        have j5 : (c : Int) < ((S.H sc[k].o).length : Int) := by omega
                        have j6 : decide (((S.H sc[k].o).length : Int) ≤ (c : Int)) = false := decide_eq_false (by omega)
                        clear hoo
                        go_wp2
                        go_quiet (fail)
                        go_wp2
                        go_quiet (fail)
                        go_wp2
                        go_roundw
                        case rel => exact ⟨j + 1, c + 1, _, by omega, by go_num, by go_num, HK.out, rfl⟩
                        case measure => simp [intOf]; omega
                      · have nn := tl_ne hoo
                        have HK : Hid (c = ((P.take (j + 1)).filter (atO sc[k].o)).length) := by show _ = _; rw [count_miss _ _ _ hj (by simp [atO, hoo]), HC.out]
                        clear hoo
                        go_wp2
                        go_quiet (fail)
                        go_wp2
                        go_roundw
                        case rel => exact ⟨j + 1, c, _, by omega, by go_num, rfl, HK.out, rfl⟩
                        case measure => simp [intOf]; omega
                    · obtain rfl : j = P.length := by omega
                      have hc2 : c = (S.H sc[k].o).length := by rw [HC.out, got_end HA.out]
                      subst hc2
                      have hB6 := HB5.out.trans (below_drewN W1.heap.size w5 q)
                      generalize w5.drewN q = w6 at hB6 ⊢
                      have y0 := (HSC.out.below hB6).t k hlt
                      have hT6 := HT1.out.below hB6
                      clear RA RB HB5 HC
                      go_wp2_with fail
                      refine (held_any hT6 sc[k].t hwf.1 (by omega)).mono ?_
                      rintro e w7 ⟨⟨ah, ch, rfl, rh⟩, B7⟩
                      have HB7 : Hid (Below W1.heap.size W1 w7) := hB6.trans (B7.mono hB6.size)
                      obtain ⟨N6, hN6⟩ : ∃ N6, N6 = w6.heap.size := ⟨_, rfl⟩
                      rw [← hN6] at rh
                      have RH : Hid (w7.ownsRow N6 9 1 (.slice ah (S.G sc[k].t).length ch) (S.G sc[k].t).length ((S.G sc[k].t).map Value.string)) := rh
                      have hlg := HT1.out.lG sc[k].t
                      clear rh hN6 hB6 B7 hT6 y0
                      go_wp2
                      go_loopw [21, 24] (fun kv jv wi => ∃ j c q : Nat, j ≤ P.length ∧ jv = .int .i64 j ∧ kv = .int .i64 c ∧ c = ((P.take j).filter (atT sc[k].t)).length ∧ wi = w7.drewN q) (fun _ jv _ => P.length - (intOf jv).toNat)
                      case atStart => exact ⟨0, 0, 0, Nat.zero_le _, rfl, rfl, by simp, rfl⟩
                      case round =>
                        obtain ⟨j, c, q, hjl, rfl, rfl, hc, rfl⟩ := hrel
                        have HC : Hid (c = ((P.take j).filter (atT sc[k].t)).length) := hc
                        clear hc
                        by_cases hj : j < P.length
                        · have x0 := (HP1.out.below HB7.out).t j hj
                          have x1 := (HP1.out.below HB7.out).o j hj
                          have y0 := (HSC.out.below HB7.out).t k hlt
                          have j0 : (0 : Int) ≤ (j : Int) := Int.natCast_nonneg _
                          have j1 : (j : Int) < (P.length : Int) := by omega
                          have j2 : (0 : Int) ≤ (k : Int) := Int.natCast_nonneg _
                          have j3 : (k : Int) < (ts.length : Int) := by omega
                          by_cases htt : P[j].t = sc[k].t
                          · have nn : (P[j].t == sc[k].t) = true := by simp [htt]
                            have z3 := held_lt HA.out hj htt
                            obtain ⟨gh, rfl⟩ := own_addr RH.out (by omega)
                            have z1 := held_at HA.out rfl RH.out hj htt
                            rw [← HC.out] at z1 z3
                            have HK : Hid (c + 1 = ((P.take (j + 1)).filter (atT sc[k].t)).length) := by show _ = _; rw [count_hit _ _ _ hj (by simp [atT, htt]), HC.out]
                            have j4 : (0 : Int) ≤ (c : Int) := Int.natCast_nonneg _
                            have j5 : (c : Int) < ((S.G sc[k].t).length : Int) := by omega
                            have j6 : decide (((S.G sc[k].t).length : Int) ≤ (c : Int)) = false := decide_eq_false (by omega)
                            clear htt
                            go_wp2
                            go_quiet (fail)
                            go_wp2
                            go_quiet (fail)
                            go_wp2
                            go_roundw
                            case rel => exact ⟨j + 1, c + 1, _, by omega, by go_num, by go_num, HK.out, rfl⟩
                            case measure => simp [intOf]; omega
                          · have nn : (P[j].t == sc[k].t) = false := by simp [htt]
                            have HK : Hid (c = ((P.take (j + 1)).filter (atT sc[k].t)).length) := by show _ = _; rw [count_miss _ _ _ hj (by simp [atT, htt]), HC.out]
                            clear htt
                            go_wp2
                            go_quiet (fail)
                            go_wp2
                            go_roundw
                            case rel => exact ⟨j + 1, c, _, by omega, by go_num, rfl, HK.out, rfl⟩
                            case measure => simp [intOf]; omega
                        · obtain rfl : j = P.length := by omega
                          have hc2 : c = (S.G sc[k].t).length := by rw [HC.out, held_end HA.out]
                          subst hc2
                          clear RH HC
                          go_wp2
                          go_roundw
                          case rel => exact ⟨k + 1, by omega, by go_num, HB7.out.trans (below_drewN _ _ _)⟩
                          case measure => simp [intOf]; omega
                · go_wp2
                  go_ret
                  exact ⟨rfl, HB1.out.trans (hB.mono HB1.out.size)⟩

end Go.Proofs.Qxb6628846a
