import Derived.Test.Qxb6628786aFresh
import Derived.Test.Qxb6628786aBytesB
import Derived.Test.Qxb6628786aBig
import Derived.Test.Qxb6628786aCal
import Derived.Test.Qxb6628786aPlain
namespace Go.Proofs.Qxb6628786a
open Go.RowKit

set_option maxRecDepth 100000 in
set_option maxHeartbeats 3200000 in
theorem lawB_walk (ro ao mo : Option Addr) (rb roff rc ab aoff ac ml mc : Nat) (l : List Ru) (m : List An) (a e lt f x : ByteArray) (w : World) (hr : RSl w ro rb roff l) (ha : ASl w ao ab aoff m)
    (hl : l.length ≤ maxLen) (hm : m.length ≤ maxLen) :
    Calls Try.prog 4 #[.slice ro l.length rc, .slice ao m.length ac, .string a, .string e, .string lt, .string f, .slice mo ml mc, .string x] w fun en w' => en = .returned (.bool true) ∧ Below w.heap.size w w' := by
  go_enter Try.func4, Try.ntmps4
  go_wp2_with fail
  refine (bytes12_any ro ao rb roff rc ab aoff ac l m a e lt f x mo ml mc _ hr ha).mono ?_
  rintro en w0 ⟨⟨b, rfl⟩, hw0⟩
  have hw0 := hw0.symm
  subst hw0
  cases b
  · go_wp2
    go_ret
    exact ⟨rfl, Below.refl _ _⟩
  by_cases k1 : a.size ≤ 1048576
  rotate_left
  · go_wp2
    go_ret
    exact ⟨rfl, Below.refl _ _⟩
  by_cases k2 : e.size ≤ 1048576
  rotate_left
  · go_wp2
    go_ret
    exact ⟨rfl, Below.refl _ _⟩
  by_cases k3 : lt.size ≤ 1048576
  rotate_left
  · go_wp2
    go_ret
    exact ⟨rfl, Below.refl _ _⟩
  by_cases k4 : f.size ≤ 1048576
  rotate_left
  · go_wp2
    go_ret
    exact ⟨rfl, Below.refl _ _⟩
  by_cases k5 : x.size ≤ 1048576
  rotate_left
  · go_wp2
    go_ret
    exact ⟨rfl, Below.refl _ _⟩
  by_cases k6 : ml ≤ 131072
  rotate_left
  · go_wp2
    go_ret
    exact ⟨rfl, Below.refl _ _⟩
  go_wp2_with fail
  rw [show ((a.size : Int) + (e.size : Int) + (lt.size : Int) + (f.size : Int) + (x.size : Int) + 8 * (ml : Int)) = ((a.size + e.size + lt.size + f.size + x.size + 8 * ml : Nat) : Int) by omega]
  refine (big_any ro ao rb roff rc ab aoff ac l m _ _ hr ha).mono ?_
  rintro en w1 ⟨⟨b, rfl, hsm⟩, q, rfl⟩
  cases b
  rotate_left
  · go_wp2
    go_ret
    exact ⟨rfl, below_drewN _ _ _⟩
  obtain ⟨hl2, hm2⟩ := hsm rfl
  clear hsm k1 k2 k3 k4 k5 k6
  have B1 := below_drewN w.heap.size w q
  have hr1 := hr.below B1
  have ha1 := ha.below B1
  generalize hw1 : w.drewN q = w1 at *
  have hs1 : w1.heap.size = w.heap.size := by rw [← hw1]; rfl
  clear hw1 hr ha
  have HS1 : Hid (w1.heap.size = w.heap.size) := hs1
  clear hs1
  go_wp2_with fail
  refine (fresh_any a ro ao rb roff rc ab aoff ac l m _ hr1 ha1 hl hm).mono ?_
  rintro en w1' ⟨rfl, hw0⟩
  have hw0 := hw0.symm
  subst hw0
  cases hfr : fresh a l m
  · clear hfr
    go_wp2
    go_ret
    exact ⟨rfl, B1⟩
  have HFa : Hid (fresh a l m = true) := hfr
  clear hfr
  go_wp2_with fail
  refine (fresh_any lt ro ao rb roff rc ab aoff ac l m _ hr1 ha1 hl hm).mono ?_
  rintro en w1' ⟨rfl, hw0⟩
  have hw0 := hw0.symm
  subst hw0
  cases hfr : fresh lt l m
  · clear hfr
    go_wp2
    go_ret
    exact ⟨rfl, B1⟩
  have HF : Hid (fresh lt l m = true) := hfr
  clear hfr
  by_cases hal : a = lt
  · have t1 := tl_eq hal
    clear hal
    go_wp2
    go_ret
    exact ⟨rfl, B1⟩
  have t0 := tl_ne hal
  have HAL : Hid (¬ a = lt) := hal
  clear hal
  by_cases hxn : x = a
  · have t1 := tl_eq hxn
    clear hxn
    go_wp2
    go_ret
    exact ⟨rfl, B1⟩
  have t1 := tl_ne hxn
  have HX : Hid (¬ x = a) := hxn
  clear hxn
  by_cases hyn : x = lt
  · have t2 := tl_eq hyn
    clear hyn
    go_wp2
    go_ret
    exact ⟨rfl, B1⟩
  have t2 := tl_ne hyn
  have HY : Hid (¬ x = lt) := hyn
  clear hyn
  go_wp2_with fail
  clear t0 t1 t2
  refine (rules0 ro rb roff rc l _ hr1 hl2).mono ?_
  rintro en w2 ⟨rfl, R2, B2⟩
  have hr2 := hr1.below B2
  have ha2 := ha1.below B2
  clear hr1 ha1
  replace B2 := B1.trans (B2.mono (by rw [HS1.out]; exact Nat.le_refl _))
  clear B1
  go_wp2_with fail
  refine (anns0 ao ab aoff ac m _ ha2 hm2).mono ?_
  rintro en w3 ⟨rfl, A3, B3⟩
  have hr3 := hr2.below B3
  have ha3 := ha2.below B3
  have R3 := R2.below B3
  clear hr2 ha2 R2
  replace B3 := B2.trans (B3.mono B2.size)
  clear B2
  go_wp2_with fail
  obtain ⟨w4, hW4, C4, B4⟩ := cal_laid (rn := l.length) (an := m.length) (rc := l.length) (ac := m.length) R3 A3 rfl rfl
  rw [hW4]
  clear hW4
  have hr4 := hr3.below B4
  have ha4 := ha3.below B4
  clear hr3 ha3 R3 A3
  replace B4 := B3.trans (B4.mono B3.size)
  clear B3
  refine (rules1 ro rb roff rc l _ hr4 hl2).mono ?_
  rintro en w5 ⟨rfl, O5, B5⟩
  clear hr4
  have hs5 := B5.size
  have hlt5 := (O5.lt _ rfl).2
  obtain ⟨i0, hi, hz0, hz1, hz2⟩ := info_parts Try.info42
  go_wp2_with (first | (at_builtin; refine wpList_append_fits _ rfl _ _ 29 rfl w4.heap.size 42 i0 7 Try.underlying29 hi hz1 w4.heap.size l.length (l.length + 1) _ rfl (O5.alloc _) ⟨w5.heap.size, 0, none⟩ 1 1 (Ru.cells ⟨lt, f, mo, ml, mc, 0, 0, 0, 0⟩) rfl rfl (World.news_of_block (cs := (Ru.cells ⟨lt, f, mo, ml, mc, 0, 0, 0, 0⟩).toArray) (t := 42) (fr := (0, 0)) (heap_alloc_new w5 _)) (by simp [Value.oneCell', Ru.cells]) (by omega) ?_; intro w6 O6 G6))
  have B6 : Below w4.heap.size w4 w6 := ((B5.alloc hs5 _).grown G6 (by simp; omega) (by intro q hq; simp at hq; omega))
  have C6 := C4.below B6
  have ha6 := ha4.below B6
  have R6 := rsl_more O6
  replace B6 := B4.trans (B6.mono B4.size)
  clear G6 O5 O6 hs5 hlt5 B5 C4 ha4 B4
  obtain ⟨w6', hW6, D6, B6'⟩ : ∃ w6', w6.alloc (.cells #[.string a, .string e, .string lt] 48) = w6' ∧ AnAt w6' w6.heap.size 0 ⟨a, e, lt⟩ ∧ Below w6.heap.size w6 w6' := ⟨_, rfl, ⟨by simp, by simp, by simp⟩, (Below.refl _ _).alloc (Nat.le_refl _) _⟩
  rw [hW6]
  clear hW6
  have C6' := C6.below B6'
  have ha6' := ha6.below B6'
  have R6' := R6.below B6'
  replace B6' := B6.trans (B6'.mono B6.size)
  clear C6 ha6 R6 B6
  refine (anns1 w6.heap.size ⟨a, e, lt⟩ ao ab aoff ac m _ D6 ha6' hm2).mono ?_
  rintro en w7 ⟨rfl, A7, B7⟩
  have C7 := C6'.below B7
  have R7 := R6'.below B7
  clear C6' R6' ha6' D6
  replace B7 := B6'.trans (B7.mono B6'.size)
  clear B6'
  go_wp2_with fail
  obtain ⟨w8, hW8, N8, B8⟩ := cal_laid (rn := l.length + 1) (an := 1 + m.length) (rc := l.length + 1) (ac := 1 + m.length) R7 A7 (by simp) (by simp; omega)
  rw [hW8]
  clear hW8
  have C8 := C7.below B8
  clear C7 R7 A7
  replace B8 := B7.trans (B8.mono B7.size)
  clear B7
  have hl3 : l.length ≤ 1048577 := by omega
  have hm3 : m.length ≤ 1048577 := by omega
  have HL4 : Hid ((l ++ [(⟨lt, f, mo, ml, mc, 0, 0, 0, 0⟩ : Ru)]).length ≤ 1048577) := by show _ ≤ _; simp; omega
  have HM4 : Hid (((⟨a, e, lt⟩ : An) :: m).length ≤ 1048577) := by show _ ≤ _; simp; omega
  refine (originC_any _ _ _ _ l _ _ _ m x _ C8 hl3 hm3).mono ?_
  rintro en w11 ⟨rfl, B11⟩
  have N11 := N8.below B11
  replace B11 := B8.trans (B11.mono B8.size)
  clear B8 C8 N8
  have hR := noR_of HF.out
  have hA := noA_of HF.out
  have hRa := noR_of HFa.out
  have rA : resolveN ((⟨a, e, lt⟩ : An) :: m) a = lt := res_a (r := ⟨lt, f, mo, ml, mc, 0, 0, 0, 0⟩) (n := ⟨a, e, lt⟩) hA rfl
  have rL : resolveN ((⟨a, e, lt⟩ : An) :: m) lt = lt := res_l (r := ⟨lt, f, mo, ml, mc, 0, 0, 0, 0⟩) (n := ⟨a, e, lt⟩) hA HAL.out
  have hxa : (⟨a, e, lt⟩ : An).name ≠ x := fun h => HX.out h.symm
  have F1 := law2_xz (r := ⟨lt, f, mo, ml, mc, 0, 0, 0, 0⟩) (n := ⟨a, e, lt⟩) (z := a) hR hA HY.out hxa rA HX.out
  have F2 := law2_xz (r := ⟨lt, f, mo, ml, mc, 0, 0, 0, 0⟩) (n := ⟨a, e, lt⟩) (z := lt) hR hA HY.out hxa rL HY.out
  have F3 := law2_ax (r := ⟨lt, f, mo, ml, mc, 0, 0, 0, 0⟩) (n := ⟨a, e, lt⟩) hR hA hRa rfl HY.out hxa
  have F4 := law2_zz (r := ⟨lt, f, mo, ml, mc, 0, 0, 0, 0⟩) (n := ⟨a, e, lt⟩) (z := a) (z' := lt) hR rA rL HAL.out
  have F5 := law2_zz (r := ⟨lt, f, mo, ml, mc, 0, 0, 0, 0⟩) (n := ⟨a, e, lt⟩) (z := lt) (z' := a) hR rL rA (fun h => HAL.out h.symm)
  clear hxa rA rL hR hA hRa
  generalize originC l m x = ox at *
  generalize l ++ [(⟨lt, f, mo, ml, mc, 0, 0, 0, 0⟩ : Ru)] = l2 at *
  generalize (⟨a, e, lt⟩ : An) :: m = m2 at *
  obtain ⟨px, qx⟩ := ox
  dsimp only at F1 F2 F3 F4 F5
  clear hw0 hi hz0 hz1 hz2
  by_cases h1 : ml ≤ 1
  · have G4 : Hid (pairsC l2 m2 a lt = true) := by show _ = _; rw [F4]; simp [h1]
    have G5 : Hid (pairsC l2 m2 lt a = true) := by show _ = _; rw [F5]; simp [h1]
    clear F4 F5
    by_cases hxf : x = f
    · have t3 := tl_eq hxf
      have G1 : Hid (pairsC l2 m2 x a = true) := by show _ = _; rw [F1]; simp [h1, hxf]
      have G2 : Hid (pairsC l2 m2 x lt = true) := by show _ = _; rw [F2]; simp [h1, hxf]
      clear hxf F1 F2
      cases qx
      · have G3 : Hid (pairsC l2 m2 a x = false) := by show _ = _; rw [F3]; simp
        clear F3
        go_wp2_with fail
        refine (pairs_at _ _ _ _ l2 _ _ _ m2 x a _ N11 HL4.out HM4.out _ G1.out).mono ?_
        rintro en w12 ⟨rfl, B12⟩
        have N12 := N11.below B12
        replace B12 := B11.trans (B12.mono B11.size)
        clear B11 N11
        go_wp2_with fail
        refine (pairs_at _ _ _ _ l2 _ _ _ m2 x lt _ N12 HL4.out HM4.out _ G2.out).mono ?_
        rintro en w13 ⟨rfl, B13⟩
        have N13 := N12.below B13
        replace B13 := B12.trans (B13.mono B12.size)
        clear B12 N12
        go_wp2_with fail
        refine (pairs_at _ _ _ _ l2 _ _ _ m2 a x _ N13 HL4.out HM4.out _ G3.out).mono ?_
        rintro en w14 ⟨rfl, B14⟩
        have N14 := N13.below B14
        replace B14 := B13.trans (B14.mono B13.size)
        clear B13 N13
        go_wp2_with fail
        refine (pairs_at _ _ _ _ l2 _ _ _ m2 a lt _ N14 HL4.out HM4.out _ G4.out).mono ?_
        rintro en w15 ⟨rfl, B15⟩
        have N15 := N14.below B15
        replace B15 := B14.trans (B15.mono B14.size)
        clear B14 N14
        go_wp2_with fail
        refine (pairs_at _ _ _ _ l2 _ _ _ m2 lt a _ N15 HL4.out HM4.out _ G5.out).mono ?_
        rintro en w16 ⟨rfl, B16⟩
        have N16 := N15.below B16
        replace B16 := B15.trans (B16.mono B15.size)
        clear B15 N15
        go_wp2
        go_ret
        exact ⟨rfl, B16⟩
      · have G3 : Hid (pairsC l2 m2 a x = (px.toList == f.toList)) := by show _ = _; rw [F3, tl_beq]; simp [h1]
        clear F3
        go_wp2_with fail
        refine (pairs_at _ _ _ _ l2 _ _ _ m2 x a _ N11 HL4.out HM4.out _ G1.out).mono ?_
        rintro en w12 ⟨rfl, B12⟩
        have N12 := N11.below B12
        replace B12 := B11.trans (B12.mono B11.size)
        clear B11 N11
        go_wp2_with fail
        refine (pairs_at _ _ _ _ l2 _ _ _ m2 x lt _ N12 HL4.out HM4.out _ G2.out).mono ?_
        rintro en w13 ⟨rfl, B13⟩
        have N13 := N12.below B13
        replace B13 := B12.trans (B13.mono B12.size)
        clear B12 N12
        go_wp2_with fail
        refine (pairs_at _ _ _ _ l2 _ _ _ m2 a x _ N13 HL4.out HM4.out _ G3.out).mono ?_
        rintro en w14 ⟨rfl, B14⟩
        have N14 := N13.below B14
        replace B14 := B13.trans (B14.mono B13.size)
        clear B13 N13
        go_wp2_with fail
        refine (pairs_at _ _ _ _ l2 _ _ _ m2 a lt _ N14 HL4.out HM4.out _ G4.out).mono ?_
        rintro en w15 ⟨rfl, B15⟩
        have N15 := N14.below B15
        replace B15 := B14.trans (B15.mono B14.size)
        clear B14 N14
        go_wp2_with fail
        refine (pairs_at _ _ _ _ l2 _ _ _ m2 lt a _ N15 HL4.out HM4.out _ G5.out).mono ?_
        rintro en w16 ⟨rfl, B16⟩
        have N16 := N15.below B16
        replace B16 := B15.trans (B16.mono B15.size)
        clear B15 N15
        go_wp2
        go_ret
        exact ⟨rfl, B16⟩
    · have t3 := tl_ne hxf
      cases qx
      · have G1 : Hid (pairsC l2 m2 x a = false) := by show _ = _; rw [F1]; simp [hxf]
        have G2 : Hid (pairsC l2 m2 x lt = false) := by show _ = _; rw [F2]; simp [hxf]
        have G3 : Hid (pairsC l2 m2 a x = false) := by show _ = _; rw [F3]; simp
        clear hxf F1 F2 F3
        go_wp2_with fail
        refine (pairs_at _ _ _ _ l2 _ _ _ m2 x a _ N11 HL4.out HM4.out _ G1.out).mono ?_
        rintro en w12 ⟨rfl, B12⟩
        have N12 := N11.below B12
        replace B12 := B11.trans (B12.mono B11.size)
        clear B11 N11
        go_wp2_with fail
        refine (pairs_at _ _ _ _ l2 _ _ _ m2 x lt _ N12 HL4.out HM4.out _ G2.out).mono ?_
        rintro en w13 ⟨rfl, B13⟩
        have N13 := N12.below B13
        replace B13 := B12.trans (B13.mono B12.size)
        clear B12 N12
        go_wp2_with fail
        refine (pairs_at _ _ _ _ l2 _ _ _ m2 a x _ N13 HL4.out HM4.out _ G3.out).mono ?_
        rintro en w14 ⟨rfl, B14⟩
        have N14 := N13.below B14
        replace B14 := B13.trans (B14.mono B13.size)
        clear B13 N13
        go_wp2_with fail
        refine (pairs_at _ _ _ _ l2 _ _ _ m2 a lt _ N14 HL4.out HM4.out _ G4.out).mono ?_
        rintro en w15 ⟨rfl, B15⟩
        have N15 := N14.below B15
        replace B15 := B14.trans (B15.mono B14.size)
        clear B14 N14
        go_wp2_with fail
        refine (pairs_at _ _ _ _ l2 _ _ _ m2 lt a _ N15 HL4.out HM4.out _ G5.out).mono ?_
        rintro en w16 ⟨rfl, B16⟩
        have N16 := N15.below B16
        replace B16 := B15.trans (B16.mono B15.size)
        clear B15 N15
        go_wp2
        go_ret
        exact ⟨rfl, B16⟩
      · have G1 : Hid (pairsC l2 m2 x a = (px.toList == f.toList)) := by show _ = _; rw [F1, tl_beq]; simp [h1, hxf]
        have G2 : Hid (pairsC l2 m2 x lt = (px.toList == f.toList)) := by show _ = _; rw [F2, tl_beq]; simp [h1, hxf]
        have G3 : Hid (pairsC l2 m2 a x = (px.toList == f.toList)) := by show _ = _; rw [F3, tl_beq]; simp [h1]
        clear hxf F1 F2 F3
        go_wp2_with fail
        refine (pairs_at _ _ _ _ l2 _ _ _ m2 x a _ N11 HL4.out HM4.out _ G1.out).mono ?_
        rintro en w12 ⟨rfl, B12⟩
        have N12 := N11.below B12
        replace B12 := B11.trans (B12.mono B11.size)
        clear B11 N11
        go_wp2_with fail
        refine (pairs_at _ _ _ _ l2 _ _ _ m2 x lt _ N12 HL4.out HM4.out _ G2.out).mono ?_
        rintro en w13 ⟨rfl, B13⟩
        have N13 := N12.below B13
        replace B13 := B12.trans (B13.mono B12.size)
        clear B12 N12
        go_wp2_with fail
        refine (pairs_at _ _ _ _ l2 _ _ _ m2 a x _ N13 HL4.out HM4.out _ G3.out).mono ?_
        rintro en w14 ⟨rfl, B14⟩
        have N14 := N13.below B14
        replace B14 := B13.trans (B14.mono B13.size)
        clear B13 N13
        go_wp2_with fail
        refine (pairs_at _ _ _ _ l2 _ _ _ m2 a lt _ N14 HL4.out HM4.out _ G4.out).mono ?_
        rintro en w15 ⟨rfl, B15⟩
        have N15 := N14.below B15
        replace B15 := B14.trans (B15.mono B14.size)
        clear B14 N14
        go_wp2_with fail
        refine (pairs_at _ _ _ _ l2 _ _ _ m2 lt a _ N15 HL4.out HM4.out _ G5.out).mono ?_
        rintro en w16 ⟨rfl, B16⟩
        have N16 := N15.below B16
        replace B16 := B15.trans (B16.mono B15.size)
        clear B15 N15
        go_wp2
        go_ret
        exact ⟨rfl, B16⟩
  · have G1 : Hid (pairsC l2 m2 x a = false) := by show _ = _; rw [F1]; simp [h1]
    have G2 : Hid (pairsC l2 m2 x lt = false) := by show _ = _; rw [F2]; simp [h1]
    have G3 : Hid (pairsC l2 m2 a x = false) := by show _ = _; rw [F3]; simp [h1]
    have G4 : Hid (pairsC l2 m2 a lt = false) := by show _ = _; rw [F4]; simp [h1]
    have G5 : Hid (pairsC l2 m2 lt a = false) := by show _ = _; rw [F5]; simp [h1]
    clear F1 F2 F3 F4 F5
    go_wp2_with fail
    refine (pairs_at _ _ _ _ l2 _ _ _ m2 x a _ N11 HL4.out HM4.out _ G1.out).mono ?_
    rintro en w12 ⟨rfl, B12⟩
    have N12 := N11.below B12
    replace B12 := B11.trans (B12.mono B11.size)
    clear B11 N11
    go_wp2_with fail
    refine (pairs_at _ _ _ _ l2 _ _ _ m2 x lt _ N12 HL4.out HM4.out _ G2.out).mono ?_
    rintro en w13 ⟨rfl, B13⟩
    have N13 := N12.below B13
    replace B13 := B12.trans (B13.mono B12.size)
    clear B12 N12
    go_wp2_with fail
    refine (pairs_at _ _ _ _ l2 _ _ _ m2 a x _ N13 HL4.out HM4.out _ G3.out).mono ?_
    rintro en w14 ⟨rfl, B14⟩
    have N14 := N13.below B14
    replace B14 := B13.trans (B14.mono B13.size)
    clear B13 N13
    go_wp2_with fail
    refine (pairs_at _ _ _ _ l2 _ _ _ m2 a lt _ N14 HL4.out HM4.out _ G4.out).mono ?_
    rintro en w15 ⟨rfl, B15⟩
    have N15 := N14.below B15
    replace B15 := B14.trans (B15.mono B14.size)
    clear B14 N14
    go_wp2_with fail
    refine (pairs_at _ _ _ _ l2 _ _ _ m2 lt a _ N15 HL4.out HM4.out _ G5.out).mono ?_
    rintro en w16 ⟨rfl, B16⟩
    have N16 := N15.below B16
    replace B16 := B15.trans (B16.mono B15.size)
    clear B15 N15
    go_wp2
    go_ret
    exact ⟨rfl, B16⟩
end Go.Proofs.Qxb6628786a
