/-
  The walk of FnOneOfJoinedAtAnyCut.
-/
import Derived.Test.Qxb6628923aFmtAny
import Derived.Deep.Cut
import Derived.Deep.AppendLies
namespace Go.Proofs.Qxb6628923aFmt
open Go.RowKit Go.Extern.Stop Go.Stop Go.Extern

set_option maxRecDepth 100000 in
set_option maxHeartbeats 6400000 in
theorem lawF_walk (F : Interp) (kd ln : Int) (nl : Bool) (v p wh pl : ByteArray) (a a' : Option Addr) (bk o c bk' o' c' : Nat) (l m : List ByteArray) (w : World) (hF : F.answers w.tape) (hl : SSl w a bk o l) (hm : SSl w a' bk' o' m) (hcl : l.length ≤ c) (hcm : m.length ≤ c') :
    Calls Tryf.prog 4 #[.int .u8 kd, .bool nl, .int .i64 ln, .string v, .string p, .slice a l.length c, .slice a' m.length c', .string wh, .string pl] w fun e w' => e = .returned (.bool true) ∧ Below w.heap.size w w' := by
  go_enter Tryf.func4, Tryf.ntmps4
  go_wp2_with fail
  refine (bytes8_any kd ln nl v p wh pl a a' bk o c bk' o' c' l m _ hl hm).mono ?_
  rintro e w0 ⟨⟨b, rfl⟩, hw0⟩
  have hw0 := hw0.symm
  subst hw0
  cases b
  · go_wp2
    go_ret
    exact ⟨rfl, Below.refl _ _⟩
  by_cases k1 : v.size ≤ 1048576
  rotate_left
  · go_wp2
    go_ret
    exact ⟨rfl, Below.refl _ _⟩
  by_cases k2 : p.size ≤ 1048576
  rotate_left
  · go_wp2
    go_ret
    exact ⟨rfl, Below.refl _ _⟩
  by_cases k3 : wh.size ≤ 1048576
  rotate_left
  · go_wp2
    go_ret
    exact ⟨rfl, Below.refl _ _⟩
  by_cases k4 : pl.size ≤ 1048576
  rotate_left
  · go_wp2
    go_ret
    exact ⟨rfl, Below.refl _ _⟩
  by_cases k5 : l.length ≤ 65536
  rotate_left
  · go_wp2
    go_ret
    exact ⟨rfl, Below.refl _ _⟩
  by_cases k6 : m.length ≤ 65536
  rotate_left
  · go_wp2
    go_ret
    exact ⟨rfl, Below.refl _ _⟩
  obtain ⟨i0, hi, hz0, hz1, hz2⟩ := info_parts info9
  go_upto_if 74 with fail
  go_cut [5] from 34 (fun s5 wx => ∃ a1 c1 bk1 o1, s5 = .slice a1 l.length c1 ∧ SSl wx a1 bk1 o1 l ∧ l.length ≤ c1 ∧ Below w.heap.size w wx)
  case first =>
    cases a with
    | none =>
      go_wp2_with fail
      go_meet
      case rel => exact ⟨_, _, _, _, rfl, hl, hcl, Below.refl _ _⟩
    | some ad =>
      go_upto_region 7 with (first
        | (at_make; refine wpList_make_full _ rfl _ _ 22 rfl w.heap.size 9 i0 _ 1 Tryf.underlying22 hi hz0 hz1 .i64 .i64 _ _ l.length rfl rfl rfl rfl (by rw [hz2]; omega) (by unfold maxLen; omega) (Nat.le_refl _) ?_; intro wm own1 gr1))
      obtain ⟨Z, hZ1, HZ⟩ := own_rowH own1
      have HB1 : Hid (Below w.heap.size w wm) := (Below.refl _ _).grown gr1 (Nat.le_refl _) (by simp)
      clear own1 gr1
      go_wp2_with (first
        | (refine wpList_copy_splice rfl _ _ 22 22 rfl 9 Tryf.underlying22 size9 _ _ _ _ _ _ rfl rfl w.heap.size 0 Z 9 HZ.out (strs l) (by simp [strs]) (fun h => ⟨rfl, src_of hl HB1.out h⟩) (by rw [strs_length]; omega) (strs_one l) w.heap.size w HB1.out (Nat.le_refl _) ?_; intro wn HG2 hB2))
      have hl2 : SSl wn (some ⟨w.heap.size, 0, none⟩) w.heap.size 0 l := by
        have h := HG2.out
        rw [splice_all Z _ (by rw [strs_length]; exact hZ1)] at h
        exact ssl_heap h
      go_meet
      case rel => exact ⟨_, _, _, _, rfl, hl2, Nat.le_refl _, hB2⟩
  case rest =>
    obtain ⟨a1, c1, bk1, o1, rfl, hl1, hc1, hB1⟩ := hcut
    obtain ⟨w1, rfl⟩ : ∃ w1, w1 = wc := ⟨_, rfl⟩
    have hm1 := hm.below hB1 (Nat.le_refl _)
    clear hl hm hcl
    go_upto_if 83 with fail
    go_cut [6] from 34 (fun s6 wx => ∃ a2 c2 bk2 o2, s6 = .slice a2 m.length c2 ∧ SSl wx a2 bk2 o2 m ∧ m.length ≤ c2 ∧ Below w1.heap.size w1 wx)
    case first =>
      cases a' with
      | none =>
        go_wp2_with fail
        go_meet
        case rel => exact ⟨_, _, _, _, rfl, hm1, hcm, Below.refl _ _⟩
      | some ad =>
        go_upto_region 11 with (first
          | (at_make; refine wpList_make_full _ rfl _ _ 22 rfl w1.heap.size 9 i0 _ 1 Tryf.underlying22 hi hz0 hz1 .i64 .i64 _ _ m.length rfl rfl rfl rfl (by rw [hz2]; omega) (by unfold maxLen; omega) (Nat.le_refl _) ?_; intro wm own1 gr1))
        obtain ⟨Z, hZ1, HZ⟩ := own_rowH own1
        have HB1 : Hid (Below w1.heap.size w1 wm) := (Below.refl _ _).grown gr1 (Nat.le_refl _) (by simp)
        clear own1 gr1
        go_wp2_with (first
          | (refine wpList_copy_splice rfl _ _ 22 22 rfl 9 Tryf.underlying22 size9 _ _ _ _ _ _ rfl rfl w1.heap.size 0 Z 9 HZ.out (strs m) (by simp [strs]) (fun h => ⟨rfl, src_of hm1 HB1.out h⟩) (by rw [strs_length]; omega) (strs_one m) w1.heap.size w1 HB1.out (Nat.le_refl _) ?_; intro wn HG2 hB2))
        have hl2 : SSl wn (some ⟨w1.heap.size, 0, none⟩) w1.heap.size 0 m := by
          have h := HG2.out
          rw [splice_all Z _ (by rw [strs_length]; exact hZ1)] at h
          exact ssl_heap h
        go_meet
        case rel => exact ⟨_, _, _, _, rfl, hl2, Nat.le_refl _, hB2⟩
    case rest =>
      obtain ⟨a2, c2, bk2, o2, rfl, hm2, hc2, hB2⟩ := hcut
      obtain ⟨w2, rfl⟩ : ∃ w2, w2 = wc := ⟨_, rfl⟩
      have hl2 := hl1.below hB2 (Nat.le_refl _)
      have HB2 : Hid (Below w.heap.size w w2) := hB1.trans (hB2.mono hB1.size)
      have hF2 : F.answers w2.tape := by rw [HB2.out.tape]; exact hF
      clear hl1 hm1 hB1 hB2 hF hcm
      by_cases k7 : v.size + p.size + wh.size + pl.size ≤ 1048576
      rotate_left
      · go_wp2
        go_ret
        exact ⟨rfl, HB2.out⟩
      go_wp2_with fail
      go_loop [21, 22] (fun z i => ∃ k t : Nat, k ≤ l.length ∧ i = .int .i64 k ∧ z = .int .i64 t ∧ cnt (l.take k) ≤ t ∧ t ≤ 1048576) (fun _ i => l.length - (intOf i).toNat)
      case atStart => exact ⟨0, v.size + p.size + wh.size + pl.size, Nat.zero_le _, rfl, by go_num, Nat.zero_le _, k7⟩
      case round =>
        obtain ⟨k, t, hk, rfl, rfl, hc, ht⟩ := hrel
        by_cases hlt : k < l.length
        · have hcs := cnt_succ l k hlt
          obtain ⟨rfl, hbk⟩ := hl2.1 (by intro e; subst e; simp at hlt)
          have c0 := hl2.2 k hlt
          have HC : Hid (cnt (l.take (k + 1)) ≤ t + (16 + l[k].size)) := by rw [Hid, hcs]; omega
          clear hc hcs
          go_wp2
          all_goals first
            | (go_ret; exact ⟨rfl, HB2.out⟩)
            | (go_round
               case rel => exact ⟨k + 1, t + (16 + l[k].size), by omega, by go_num, by go_num, HC.out, by omega⟩
               case measure => simp [intOf]; omega)
        · rw [cnt_all l k hlt] at hc
          have HC : Hid (cnt l ≤ t) := hc
          clear hc
          go_wp2_with fail
          go_loop [21, 23] (fun z i => ∃ k t : Nat, k ≤ m.length ∧ i = .int .i64 k ∧ z = .int .i64 t ∧ cnt l + cnt (m.take k) ≤ t ∧ t ≤ 1048576) (fun _ i => m.length - (intOf i).toNat)
          case atStart => exact ⟨0, t, Nat.zero_le _, rfl, rfl, HC.out, ht⟩
          case round =>
            clear HC
            obtain ⟨j, t2, hj, rfl, rfl, hc, ht2⟩ := hrel
            by_cases hlt2 : j < m.length
            · have hcs := cnt_succ m j hlt2
              obtain ⟨rfl, hbk⟩ := hm2.1 (by intro e; subst e; simp at hlt2)
              have c0 := hm2.2 j hlt2
              have HC : Hid (cnt l + cnt (m.take (j + 1)) ≤ t2 + (16 + m[j].size)) := by rw [Hid, hcs]; omega
              clear hc hcs
              go_wp2
              all_goals first
                | (go_ret; exact ⟨rfl, HB2.out⟩)
                | (go_round
                   case rel => exact ⟨j + 1, t2 + (16 + m[j].size), by omega, by go_num, by go_num, HC.out, by omega⟩
                   case measure => simp [intOf]; omega)
            · rw [cnt_all m j hlt2] at hc
              have HC : Hid (cnt l + cnt m ≤ 1048576) := Nat.le_trans hc ht2
              clear hc
              go_wp2_with (first | (at_make; refine wpList_make_own _ rfl _ _ 22 rfl w2.heap.size 9 i0 _ 1 Tryf.underlying22 hi hz0 hz1 .i64 .i64 _ (l.length + m.length) rfl rfl (by omega) (by rw [hz2]; omega) (by unfold maxLen; omega) (Nat.le_refl _) ?_; intro w3 hown1 hgrow1))
              have hB3 : Below w2.heap.size w2 w3 := (Below.refl _ _).grown hgrow1 (Nat.le_refl _) (by simp)
              have hlt3 : w2.heap.size < w3.heap.size := (hown1.lt _ rfl).2
              clear hgrow1
              go_loopw [24, 25] (fun s i wr => ∃ q : Nat, q ≤ l.length ∧ i = .int .i64 q ∧ s = .slice (some ⟨w2.heap.size, 0, none⟩) q (l.length + m.length) ∧
                wr.ownsRow w2.heap.size 9 1 (.slice (some ⟨w2.heap.size, 0, none⟩) q (l.length + m.length)) q (strs (l.take q)) ∧ Below w2.heap.size w2 wr ∧ w2.heap.size < wr.heap.size) (fun _ i _ => l.length - (intOf i).toNat)
              case atStart => exact ⟨0, Nat.zero_le _, rfl, rfl, hown1, hB3, hlt3⟩
              case round =>
                clear hown1 hB3 hlt3
                obtain ⟨q, hq, rfl, rfl, hown, hB, hsz⟩ := hrel
                by_cases hq1 : q < l.length
                · obtain ⟨rfl, hbk⟩ := hl2.1 (by intro e; subst e; simp at hq1)
                  have d0 := (hB.cell (p := ⟨bk1, o1 + q, none⟩) hbk).trans (hl2.2 q hq1)
                  go_wp2_with (first | (at_builtin; refine wpList_append_fits _ rfl _ _ 22 rfl w2.heap.size 9 i0 1 Tryf.underlying22 hi hz1 w2.heap.size q (l.length + m.length) _ rfl (hown.alloc _) ⟨wr.heap.size, 0, none⟩ 1 1 [.string l[q]] rfl rfl (World.news_of_block (cs := #[.string l[q]]) (t := 9) (fr := (0, 0)) (heap_alloc_new wr _)) (by simp [Value.oneCell']) (by omega) ?_; intro w4 hown2 hgrow))
                  have hB4 : Below w2.heap.size w2 w4 := ((hB.alloc (by omega) _)).grown hgrow (by simp; omega) (by intro q hq; simp at hq; omega)
                  have hs2 := hgrow.size
                  simp at hs2
                  clear hgrow hown hB d0
                  go_wp2
                  go_roundw
                  case rel => exact ⟨q + 1, by omega, by go_num, rfl, by rw [strs_succ l q hq1]; exact hown2, hB4, by omega⟩
                  case measure => simp [intOf]; omega
                · obtain rfl : q = l.length := by omega
                  rw [List.take_length] at hown
                  go_wp2_with fail
                  go_loopw [24, 26] (fun s i wr => ∃ q : Nat, q ≤ m.length ∧ i = .int .i64 q ∧ s = .slice (some ⟨w2.heap.size, 0, none⟩) (l.length + q) (l.length + m.length) ∧
                    wr.ownsRow w2.heap.size 9 1 (.slice (some ⟨w2.heap.size, 0, none⟩) (l.length + q) (l.length + m.length)) (l.length + q) (strs l ++ strs (m.take q)) ∧ Below w2.heap.size w2 wr ∧ w2.heap.size < wr.heap.size) (fun _ i _ => m.length - (intOf i).toNat)
                  case atStart => exact ⟨0, Nat.zero_le _, rfl, rfl, by rw [List.take_zero, show strs [] = [] from rfl, List.append_nil]; exact hown, hB, hsz⟩
                  case round =>
                    clear hown hB hsz
                    obtain ⟨q, hq2, rfl, rfl, hown, hB, hsz⟩ := hrel
                    by_cases hq3 : q < m.length
                    · obtain ⟨rfl, hbk⟩ := hm2.1 (by intro e; subst e; simp at hq3)
                      have d0 := (hB.cell (p := ⟨bk2, o2 + q, none⟩) hbk).trans (hm2.2 q hq3)
                      go_wp2_with (first | (at_builtin; refine wpList_append_fits _ rfl _ _ 22 rfl w2.heap.size 9 i0 1 Tryf.underlying22 hi hz1 w2.heap.size (l.length + q) (l.length + m.length) _ rfl (hown.alloc _) ⟨wr.heap.size, 0, none⟩ 1 1 [.string m[q]] rfl rfl (World.news_of_block (cs := #[.string m[q]]) (t := 9) (fr := (0, 0)) (heap_alloc_new wr _)) (by simp [Value.oneCell']) (by omega) ?_; intro w4 hown2 hgrow))
                      have hB4 : Below w2.heap.size w2 w4 := ((hB.alloc (by omega) _)).grown hgrow (by simp; omega) (by intro q hq; simp at hq; omega)
                      have hs2 := hgrow.size
                      simp at hs2
                      clear hgrow hown hB d0
                      go_wp2
                      go_roundw
                      case rel => exact ⟨q + 1, by omega, by go_num, rfl, by rw [strs_succ m q hq3, ← List.append_assoc]; exact hown2, hB4, by omega⟩
                      case measure => simp [intOf]; omega
                    · obtain rfl : q = m.length := by omega
                      rw [List.take_length, ← strs_append] at hown
                      have hj3 : SSl wr (some ⟨w2.heap.size, 0, none⟩) w2.heap.size 0 (l ++ m) := ssl_heap (own_exact hown)
                      have hl3 := hl2.below hB (Nat.le_refl _)
                      have hm3 := hm2.below hB (Nat.le_refl _)
                      have HBr : Hid (Below w.heap.size w wr) := HB2.out.trans (hB.mono HB2.out.size)
                      have hFr : F.answers wr.tape := by rw [hB.tape]; exact hF2
                      clear hown hB hl2 hm2 HB2 hF2
                      go_wp2_with fail
                      obtain ⟨W3, hW3⟩ : ∃ W3, W3 = wr.alloc (.cells #[.int .u8 kd, .bool nl, .int .i64 ln, .string v, .slice none 0 0] 28) := ⟨_, rfl⟩
                      have hB3 : Below wr.heap.size wr W3 := by rw [hW3]; exact (Below.refl _ _).alloc (Nat.le_refl _) _
                      have HB3 : Hid (Below w.heap.size w W3) := HBr.out.trans (hB3.mono HBr.out.size)
                      have hn4 : NodeAt W3 wr.heap.size kd ln v := ⟨by rw [hW3]; go_simp, by rw [hW3]; go_simp, by rw [hW3]; go_simp, by rw [hW3]; go_simp⟩
                      have hl4 := hl3.below hB3 (Nat.le_refl _)
                      have hm4 := hm3.below hB3 (Nat.le_refl _)
                      have hj4 := hj3.below hB3 (Nat.le_refl _)
                      have hF4 : F.answers W3.tape := by rw [hB3.tape]; exact hFr
                      rw [← hW3]
                      clear hW3 hB3 hl3 hm3 hj3 hFr
                      obtain ⟨ra, hra⟩ : ∃ ra, ans kd l v = ra := ⟨_, rfl⟩
                      obtain ⟨rb, hrb⟩ : ∃ rb, ans kd m v = rb := ⟨_, rfl⟩
                      obtain ⟨rj, hrj⟩ : ∃ rj, ans kd (l ++ m) v = rj := ⟨_, rfl⟩
                      have hor := ans_append kd l m v
                      rw [hra, hrb, hrj] at hor
                      have HJ : Hid (∀ q, rj = some q → ∃ hq : q < (l ++ m).length, (l ++ m)[q] = v) := fun q h => ans_at (hrj.trans h)
                      have HC1 := HC.out
                      have hca := oneOf_any F wr.heap.size kd ln v p wh pl a1 bk1 o1 c1 l W3 hF4 hn4 hl4 (by omega) hc1 (by omega)
                      rw [hra] at hca
                      refine hca.mono ?_
                      rintro e w5 ⟨ea, rfl, hB5, hea⟩
                      have HEA : Hid ((ra ≠ none ∧ ea = .nilIface) ∨ (ra = none ∧ ∃ b, ea = .iface 40 (.pointer (some ⟨b, 0, none⟩)))) := hea
                      have HB5 : Hid (Below w.heap.size w w5) := HB3.out.trans (hB5.mono HB3.out.size)
                      have hcb := oneOf_any F wr.heap.size kd ln v p wh pl a2 bk2 o2 c2 m w5 (by rw [hB5.tape]; exact hF4) (hn4.below hB5 hn4.lt) (hm4.below hB5 (Nat.le_refl _)) (by omega) hc2 (by omega)
                      rw [hrb] at hcb
                      have hn5 := hn4.below hB5 hn4.lt
                      have hj5 := hj4.below hB5 (Nat.le_refl _)
                      have HF5 : Hid (F.answers w5.tape) := by rw [Hid, hB5.tape]; exact hF4
                      have HOR : Hid (rj = ra.or (rb.map (· + l.length))) := hor
                      clear hea hB5 hca hn4 hm4 hl4 hj4 hF4 HB3 HBr hor hra hrb
                      go_wp2_with fail
                      refine hcb.mono ?_
                      rintro e w6 ⟨eb, rfl, hB6, heb⟩
                      have HEB : Hid ((rb ≠ none ∧ eb = .nilIface) ∨ (rb = none ∧ ∃ b, eb = .iface 40 (.pointer (some ⟨b, 0, none⟩)))) := heb
                      have HB6 : Hid (Below w.heap.size w w6) := HB5.out.trans (hB6.mono HB5.out.size)
                      have hcj := oneOf_any F wr.heap.size kd ln v p wh pl (some ⟨w2.heap.size, 0, none⟩) w2.heap.size 0 (l.length + m.length) (l ++ m) w6 (by rw [hB6.tape]; exact HF5.out) (hn5.below hB6 hn5.lt) (hj5.below hB6 (Nat.le_refl _)) (by rw [List.length_append]; omega) (by rw [List.length_append]; exact Nat.le_refl _) (by rw [cnt_append]; exact HC1)
                      rw [hrj, List.length_append] at hcj
                      have hj6 := hj5.below hB6 (Nat.le_refl _)
                      clear heb hB6 hcb hn5 hj5 HF5 HB5 HC1 HC hrj
                      go_wp2_with fail
                      refine hcj.mono ?_
                      rintro e w7 ⟨ew, rfl, hB7, hew⟩
                      have HB7 : Hid (Below w.heap.size w w7) := HB6.out.trans (hB7.mono HB6.out.size)
                      have hj7 := hj6.below hB7 (Nat.le_refl _)
                      have HEW : Hid ((rj ≠ none ∧ ew = .nilIface) ∨ (rj = none ∧ ∃ b, ew = .iface 40 (.pointer (some ⟨b, 0, none⟩)))) := hew
                      clear hew hB7 hcj hj6 HB6
                      have hor := HOR.out
                      clear HOR
                      rcases ra with _ | i
                      · obtain ⟨ba, rfl⟩ := (HEA.out.resolve_left (by simp)).2
                        rcases rb with _ | i
                        · obtain rfl : rj = none := by simpa using hor
                          obtain ⟨bb, rfl⟩ := (HEB.out.resolve_left (by simp)).2
                          obtain ⟨bw, rfl⟩ := (HEW.out.resolve_left (by simp)).2
                          clear HEA HEB HEW HJ hj7 hor
                          go_wp2
                          go_ret
                          exact ⟨rfl, HB7.out⟩
                        · obtain ⟨q, hq0⟩ : ∃ q, q = i + l.length := ⟨_, rfl⟩
                          obtain rfl : rj = some q := by rw [hq0]; simpa using hor
                          obtain rfl := (HEB.out.resolve_right (by simp)).2
                          obtain rfl := (HEW.out.resolve_right (by simp)).2
                          obtain ⟨hql, hqv⟩ := HJ.out q rfl
                          have c0 := hj7.2 q hql
                          rw [Nat.zero_add] at c0
                          have t0 := tl_eq hqv
                          have hqm : q < l.length + m.length := by rw [List.length_append] at hql; exact hql
                          obtain ⟨X, hX⟩ : ∃ X, (l ++ m)[q] = X := ⟨_, rfl⟩
                          rw [hX] at c0 t0
                          have e2 : (l.length : Int) + (i : Int) = (q : Int) := by omega
                          clear HEA HEB HEW HJ hj7 hor hqv hX hq0 hql
                          go_wp2
                          go_ret
                          exact ⟨rfl, HB7.out⟩
                      · obtain rfl : rj = some i := by simpa using hor
                        obtain rfl := (HEA.out.resolve_right (by simp)).2
                        obtain rfl := (HEW.out.resolve_right (by simp)).2
                        obtain ⟨hql, hqv⟩ := HJ.out i rfl
                        have c0 := hj7.2 i hql
                        rw [Nat.zero_add] at c0
                        have t0 := tl_eq hqv
                        have hqm : i < l.length + m.length := by rw [List.length_append] at hql; exact hql
                        obtain ⟨X, hX⟩ : ∃ X, (l ++ m)[i] = X := ⟨_, rfl⟩
                        rw [hX] at c0 t0
                        clear HEA HEB HEW HJ hj7 hor hqv hX hql
                        go_wp2
                        go_ret
                        exact ⟨rfl, HB7.out⟩

end Go.Proofs.Qxb6628923aFmt
