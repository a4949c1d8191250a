/-
  The walk of FnOneOfIsFirstMatchOrFaultAtKey.
-/
import Derived.Test.Qxb6628923aFmtCopy
import Derived.Deep.Cut
namespace Go.Proofs.Qxb6628923aFmt
open Go.RowKit Go.Extern.Stop Go.Stop Go.Extern

set_option maxRecDepth 100000 in
set_option maxHeartbeats 3200000 in
theorem lawE_walk (F : Interp) (kd ln : Int) (nl : Bool) (v p wh pl : ByteArray) (a : Option Addr) (bk o c : Nat) (l : List ByteArray) (w : World) (hF : F.answers w.tape) (hl : SSl w a bk o l) (hcap : l.length ≤ c) (hs : l.length ≤ maxLen) :
    Calls Tryf.prog 3 #[.int .u8 kd, .bool nl, .int .i64 ln, .string v, .string p, .slice a l.length c, .string wh, .string pl] w fun e w' => e = .returned (.bool true) ∧ Below w.heap.size w w' := by
  go_enter Tryf.func3, Tryf.ntmps3
  go_wp2_with fail
  refine (bytes5_any kd ln nl v p wh pl a bk o c l _ hl).mono ?_
  rintro e w0 ⟨⟨b, rfl⟩, hw0⟩
  have hw0 := hw0.symm
  subst hw0
  cases b
  · go_wp2
    go_ret
    exact ⟨rfl, Below.refl _ _⟩
  by_cases k1 : v.size ≤ 1048576
  rotate_left
  · go_wp2
    go_ret
    exact ⟨rfl, Below.refl _ _⟩
  by_cases k2 : p.size ≤ 1048576
  rotate_left
  · go_wp2
    go_ret
    exact ⟨rfl, Below.refl _ _⟩
  by_cases k3 : wh.size ≤ 1048576
  rotate_left
  · go_wp2
    go_ret
    exact ⟨rfl, Below.refl _ _⟩
  by_cases k4 : pl.size ≤ 1048576
  rotate_left
  · go_wp2
    go_ret
    exact ⟨rfl, Below.refl _ _⟩
  by_cases k5 : l.length ≤ 65536
  rotate_left
  · go_wp2
    go_ret
    exact ⟨rfl, Below.refl _ _⟩
  by_cases k6 : v.size + p.size + wh.size + pl.size ≤ 1048576
  rotate_left
  · obtain ⟨i0, hi, hz0, hz1, hz2⟩ := info_parts info9
    cases a with
    | none =>
      go_wp2
      go_ret
      exact ⟨rfl, Below.refl _ _⟩
    | some ad =>
      go_upto_region 7 with (first
        | (at_make; refine wpList_make_full _ rfl _ _ 22 rfl w.heap.size 9 i0 _ 1 Tryf.underlying22 hi hz0 hz1 .i64 .i64 _ _ l.length rfl rfl rfl rfl (by rw [hz2]; omega) (by unfold maxLen; omega) (Nat.le_refl _) ?_; intro w1 own1 gr1))
      obtain ⟨Z, hZ1, HZ⟩ := own_rowH own1
      have HB1 : Hid (Below w.heap.size w w1) := (Below.refl _ _).grown gr1 (Nat.le_refl _) (by simp)
      clear own1 gr1
      go_wp2_with (first
        | (refine wpList_copy_splice rfl _ _ 22 22 rfl 9 Tryf.underlying22 size9 _ _ _ _ _ _ rfl rfl w.heap.size 0 Z 9 HZ.out (strs l) (by simp [strs]) (fun h => ⟨rfl, src_of hl HB1.out h⟩) (by rw [strs_length]; omega) (strs_one l) w.heap.size w HB1.out (Nat.le_refl _) ?_; intro w2 HG2 hB2))
      go_ret
      exact ⟨rfl, hB2⟩
  obtain ⟨i0, hi, hz0, hz1, hz2⟩ := info_parts info9
  cases a with
  | none =>
    have hB0 : Below w.heap.size w w := Below.refl _ _
    go_wp2_with fail
    go_loop [18, 19] (fun z i => ∃ k t : Nat, k ≤ l.length ∧ i = .int .i64 k ∧ z = .int .i64 t ∧ cnt (l.take k) ≤ t ∧ t ≤ 1048576) (fun _ i => l.length - (intOf i).toNat)
    case atStart => exact ⟨0, v.size + p.size + wh.size + pl.size, Nat.zero_le _, rfl, by go_num, Nat.zero_le _, k6⟩
    case round =>
      obtain ⟨k, t, hk, rfl, rfl, hc, ht⟩ := hrel
      by_cases hlt : k < l.length
      · exact absurd ((hl.1 (by intro e; subst e; simp at hlt)).1) (by simp)
      · rw [cnt_all l k hlt] at hc
        have hlen : (Lib.join (l.map (·.data.toList)) [44, 32]).length ≤ 140737488355328 := Nat.le_trans (join_len l) (by omega)
        clear hc
        go_wp2_with fail
        obtain ⟨W3, hW3⟩ : ∃ W3, W3 = w.alloc (.cells #[.int .u8 kd, .bool nl, .int .i64 ln, .string v, .slice none 0 0] 28) := ⟨_, rfl⟩
        have hB3 : Below w.heap.size w W3 := by rw [hW3]; exact (Below.refl _ _).alloc (Nat.le_refl _) _
        have HB3 : Hid (Below w.heap.size w W3) := hB0.trans (hB3.mono hB0.size)
        have hn3 : NodeAt W3 w.heap.size kd ln v := ⟨by rw [hW3]; go_simp, by rw [hW3]; go_simp, by rw [hW3]; go_simp, by rw [hW3]; go_simp⟩
        have hl3 : SSl W3 none bk o l := hl.below hB3 (Nat.le_refl _)
        have hF3 : F.answers W3.tape := by rw [HB3.out.tape]; exact hF
        rw [← hW3]
        clear hW3 hB3 hF
        by_cases hkd : kd = 1
        · subst hkd
          rcases first_or l v with ⟨i, hi1, hv1, hb1⟩ | hmiss
          · exact absurd (hl3.1 (by intro e; subst e; simp at hi1)).1 (by simp)
          · have hcall := oneOf_miss F w.heap.size ln v p wh pl none bk o c l W3 hF3 hn3 hl3 (by omega) hcap hlen hmiss
            clear hlen hn3
            refine hcall.mono ?_
            rintro e w4 ⟨er, rfl, b, rfl, hb1, hc0, hc1, hb2, hB4⟩
            clear hcall hF3 hb1 hb2
            have hl4 := hl3.below hB4 (Nat.le_refl _)
            have HB4 : Hid (Below w.heap.size w w4) := HB3.out.trans (hB4.mono HB3.out.size)
            clear hl3 hB4
            go_wp2_with fail
            go_loop [23, 24] (fun s k => ∃ j : Nat, j ≤ l.length ∧ k = .int .i64 j ∧ s = .bool false) (fun _ k => l.length - (intOf k).toNat)
            case atStart => exact ⟨0, Nat.zero_le _, rfl, rfl⟩
            case round =>
              obtain ⟨j, hj, rfl, rfl⟩ := hrel
              by_cases hjl : j < l.length
              · exact absurd (hl4.1 (by intro e; subst e; simp at hjl)).1 (by simp)
              · clear hmiss
                go_wp2_with fail
                refine (key_any ln p b w4 hc0 hc1).mono ?_
                rintro e w5 ⟨rfl, hB5⟩
                have HB5 : Hid (Below w.heap.size w w5) := HB4.out.trans (hB5.mono HB4.out.size)
                clear hB5 hc0 hc1
                go_wp2
                go_ret
                exact ⟨rfl, HB5.out⟩
        · have hcall := oneOf_kind F w.heap.size kd ln v p wh pl none l.length c W3 hF3 hn3 hkd
          clear hlen hn3
          refine hcall.mono ?_
          rintro e w4 ⟨er, rfl, b, rfl, hb1, hc0, hc1, hb2, hB4⟩
          clear hcall hF3 hb1 hb2
          have hl4 := hl3.below hB4 (Nat.le_refl _)
          have HB4 : Hid (Below w.heap.size w w4) := HB3.out.trans (hB4.mono HB3.out.size)
          have hkb : (kd == 1) = false := by rw [beq_eq_false_iff_ne]; exact hkd
          clear hl3 hB4
          go_wp2_with fail
          go_loop [23, 24] (fun s k => ∃ j : Nat, j ≤ l.length ∧ k = .int .i64 j ∧ s = .bool false) (fun _ k => l.length - (intOf k).toNat)
          case atStart => exact ⟨0, Nat.zero_le _, rfl, rfl⟩
          case round =>
            obtain ⟨j, hj, rfl, rfl⟩ := hrel
            by_cases hjl : j < l.length
            · exact absurd (hl4.1 (by intro e; subst e; simp at hjl)).1 (by simp)
            · go_wp2_with fail
              refine (key_any ln p b w4 hc0 hc1).mono ?_
              rintro e w5 ⟨rfl, hB5⟩
              have HB5 : Hid (Below w.heap.size w w5) := HB4.out.trans (hB5.mono HB4.out.size)
              clear hB5 hc0 hc1
              go_wp2
              go_ret
              exact ⟨rfl, HB5.out⟩
  | some ad =>
    go_upto_region 7 with (first
      | (at_make; refine wpList_make_full _ rfl _ _ 22 rfl w.heap.size 9 i0 _ 1 Tryf.underlying22 hi hz0 hz1 .i64 .i64 _ _ l.length rfl rfl rfl rfl (by rw [hz2]; omega) (by unfold maxLen; omega) (Nat.le_refl _) ?_; intro w1 own1 gr1))
    obtain ⟨Z, hZ1, HZ⟩ := own_rowH own1
    have HB1 : Hid (Below w.heap.size w w1) := (Below.refl _ _).grown gr1 (Nat.le_refl _) (by simp)
    clear own1 gr1
    go_wp2_with (first
      | (refine wpList_copy_splice rfl _ _ 22 22 rfl 9 Tryf.underlying22 size9 _ _ _ _ _ _ rfl rfl w.heap.size 0 Z 9 HZ.out (strs l) (by simp [strs]) (fun h => ⟨rfl, src_of hl HB1.out h⟩) (by rw [strs_length]; omega) (strs_one l) w.heap.size w HB1.out (Nat.le_refl _) ?_; intro w2 HG2 hB2))
    have hl2 : SSl w2 (some ⟨w.heap.size, 0, none⟩) w.heap.size 0 l := by
      have h := HG2.out
      rw [splice_all Z _ (by rw [strs_length]; exact hZ1)] at h
      exact ssl_heap h
    clear HG2 HB1 HZ hZ1 hl
    go_loop [18, 19] (fun z i => ∃ k t : Nat, k ≤ l.length ∧ i = .int .i64 k ∧ z = .int .i64 t ∧ cnt (l.take k) ≤ t ∧ t ≤ 1048576) (fun _ i => l.length - (intOf i).toNat)
    case atStart => exact ⟨0, v.size + p.size + wh.size + pl.size, Nat.zero_le _, rfl, by go_num, Nat.zero_le _, k6⟩
    case round =>
      obtain ⟨k, t, hk, rfl, rfl, hc, ht⟩ := hrel
      by_cases hlt : k < l.length
      · have hc2 := cnt_succ l k hlt
        obtain ⟨ha, hbk⟩ := hl2.1 (by intro e; subst e; simp at hlt)
        have c0 := hl2.2 k hlt
        rw [Nat.zero_add] at c0
        have HC : Hid (cnt (l.take (k + 1)) ≤ t + (16 + l[k].size)) := by rw [Hid, hc2]; omega
        clear hc hc2
        go_wp2
        all_goals first
          | (go_ret; exact ⟨rfl, hB2⟩)
          | (go_round
             case rel => exact ⟨k + 1, t + (16 + l[k].size), by omega, by go_num, by go_num, HC.out, by omega⟩
             case measure => simp [intOf]; omega)
      · rw [cnt_all l k hlt] at hc
        have hlen : (Lib.join (l.map (·.data.toList)) [44, 32]).length ≤ 140737488355328 := Nat.le_trans (join_len l) (by omega)
        clear hc
        go_wp2_with fail
        obtain ⟨W3, hW3⟩ : ∃ W3, W3 = w2.alloc (.cells #[.int .u8 kd, .bool nl, .int .i64 ln, .string v, .slice none 0 0] 28) := ⟨_, rfl⟩
        have hB3 : Below w2.heap.size w2 W3 := by rw [hW3]; exact (Below.refl _ _).alloc (Nat.le_refl _) _
        have HB3 : Hid (Below w.heap.size w W3) := hB2.trans (hB3.mono hB2.size)
        have hn3 : NodeAt W3 w2.heap.size kd ln v := ⟨by rw [hW3]; go_simp, by rw [hW3]; go_simp, by rw [hW3]; go_simp, by rw [hW3]; go_simp⟩
        have hl3 : SSl W3 (some ⟨w.heap.size, 0, none⟩) w.heap.size 0 l := hl2.below hB3 (Nat.le_refl _)
        have hF3 : F.answers W3.tape := by rw [HB3.out.tape]; exact hF
        rw [← hW3]
        clear hW3 hB3 hF
        by_cases hkd : kd = 1
        · subst hkd
          rcases first_or l v with ⟨i, hi1, hv1, hb1⟩ | hmiss
          · have hcall := oneOf_hit w2.heap.size ln v p wh pl (some ⟨w.heap.size, 0, none⟩) w.heap.size 0 l.length l W3 hn3 hl3 (by omega) i hi1 hv1 hb1
            clear hlen hn3
            refine hcall.mono ?_
            rintro e w4 ⟨rfl, hw4⟩
            have hw4 := hw4.symm
            subst hw4
            clear hcall hF3
            obtain ⟨ha, hbk3⟩ := hl3.1 (by intro e; subst e; simp at hi1)
            go_wp2_with fail
            go_loop [23, 24] (fun s k => ∃ j : Nat, j ≤ i ∧ k = .int .i64 j ∧ s = .bool false) (fun _ k => l.length - (intOf k).toNat)
            case atStart => exact ⟨0, Nat.zero_le _, rfl, rfl⟩
            case round =>
              obtain ⟨j, hj, rfl, rfl⟩ := hrel
              have hjl : j < l.length := by omega
              have c0 := hl3.2 j hjl
              rw [Nat.zero_add] at c0
              by_cases he : j = i
              · subst he
                have t0 := tl_eq hv1
                go_wp2_with fail
                go_loop [29] (fun k => ∃ q : Nat, q ≤ j ∧ k = .int .i64 q) (fun k => l.length - (intOf k).toNat)
                case atStart => exact ⟨0, Nat.zero_le _, rfl⟩
                case round =>
                  obtain ⟨q, hq, rfl⟩ := hrel
                  by_cases hqj : q < j
                  · have hql : q < l.length := by omega
                    have d0 := hl3.2 q hql
                    rw [Nat.zero_add] at d0
                    have t1 := tl_ne (hb1 q hql hqj)
                    clear hb1 hv1
                    go_wp2
                    go_round
                    case rel => exact ⟨q + 1, by omega, by go_num⟩
                    case measure => simp [intOf]; omega
                  · clear hb1 hv1
                    go_wp2
                    go_ret
                    exact ⟨rfl, HB3.out⟩
              · have t0 := tl_ne (hb1 j hjl (by omega))
                clear hb1 hv1
                go_wp2
                go_round
                case rel => exact ⟨j + 1, by omega, by go_num, rfl⟩
                case measure => simp [intOf]; omega
          · have hcall := oneOf_miss F w2.heap.size ln v p wh pl (some ⟨w.heap.size, 0, none⟩) w.heap.size 0 l.length l W3 hF3 hn3 hl3 (by omega) (Nat.le_refl _) hlen hmiss
            clear hlen hn3
            refine hcall.mono ?_
            rintro e w4 ⟨er, rfl, b, rfl, hb1, hc0, hc1, hb2, hB4⟩
            clear hcall hF3 hb1 hb2
            have hl4 := hl3.below hB4 (Nat.le_refl _)
            have HB4 : Hid (Below w.heap.size w w4) := HB3.out.trans (hB4.mono HB3.out.size)
            clear hl3 hB4
            go_wp2_with fail
            go_loop [23, 24] (fun s k => ∃ j : Nat, j ≤ l.length ∧ k = .int .i64 j ∧ s = .bool false) (fun _ k => l.length - (intOf k).toNat)
            case atStart => exact ⟨0, Nat.zero_le _, rfl, rfl⟩
            case round =>
              obtain ⟨j, hj, rfl, rfl⟩ := hrel
              by_cases hjl : j < l.length
              · have c0 := hl4.2 j hjl
                rw [Nat.zero_add] at c0
                have t0 := tl_ne (hmiss j hjl)
                obtain ⟨ha, hbk3⟩ := hl4.1 (by intro e; subst e; simp at hjl)
                clear hmiss
                go_wp2
                go_round
                case rel => exact ⟨j + 1, by omega, by go_num, rfl⟩
                case measure => simp [intOf]; omega
              · clear hmiss
                go_wp2_with fail
                refine (key_any ln p b w4 hc0 hc1).mono ?_
                rintro e w5 ⟨rfl, hB5⟩
                have HB5 : Hid (Below w.heap.size w w5) := HB4.out.trans (hB5.mono HB4.out.size)
                clear hB5 hc0 hc1
                go_wp2
                go_ret
                exact ⟨rfl, HB5.out⟩
        · have hcall := oneOf_kind F w2.heap.size kd ln v p wh pl (some ⟨w.heap.size, 0, none⟩) l.length l.length W3 hF3 hn3 hkd
          clear hlen hn3
          refine hcall.mono ?_
          rintro e w4 ⟨er, rfl, b, rfl, hb1, hc0, hc1, hb2, hB4⟩
          clear hcall hF3 hb1 hb2
          have hl4 := hl3.below hB4 (Nat.le_refl _)
          have HB4 : Hid (Below w.heap.size w w4) := HB3.out.trans (hB4.mono HB3.out.size)
          have hkb : (kd == 1) = false := by rw [beq_eq_false_iff_ne]; exact hkd
          clear hl3 hB4
          go_wp2_with fail
          go_loop [23, 24] (fun s k => ∃ j : Nat, j ≤ l.length ∧ k = .int .i64 j ∧ s = .bool false) (fun _ k => l.length - (intOf k).toNat)
          case atStart => exact ⟨0, Nat.zero_le _, rfl, rfl⟩
          case round =>
            obtain ⟨j, hj, rfl, rfl⟩ := hrel
            by_cases hjl : j < l.length
            · have c0 := hl4.2 j hjl
              rw [Nat.zero_add] at c0
              obtain ⟨ha, hbk3⟩ := hl4.1 (by intro e; subst e; simp at hjl)
              by_cases hv1 : l[j] = v
              · have t0 := tl_eq hv1
                clear hv1
                go_wp2_with fail
                refine (key_any ln p b w4 hc0 hc1).mono ?_
                rintro e w5 ⟨rfl, hB5⟩
                have HB5 : Hid (Below w.heap.size w w5) := HB4.out.trans (hB5.mono HB4.out.size)
                clear hB5 hc0 hc1
                go_wp2
                go_ret
                exact ⟨rfl, HB5.out⟩
              · have t0 := tl_ne hv1
                clear hv1
                go_wp2
                go_round
                case rel => exact ⟨j + 1, by omega, by go_num, rfl⟩
                case measure => simp [intOf]; omega
            · go_wp2_with fail
              refine (key_any ln p b w4 hc0 hc1).mono ?_
              rintro e w5 ⟨rfl, hB5⟩
              have HB5 : Hid (Below w.heap.size w w5) := HB4.out.trans (hB5.mono HB4.out.size)
              clear hB5 hc0 hc1
              go_wp2
              go_ret
              exact ⟨rfl, HB5.out⟩

end Go.Proofs.Qxb6628923aFmt
