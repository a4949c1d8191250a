import Derived.Test.Qxb6628786aFresh
import Derived.Test.Qxb6628786aBytes
import Derived.Test.Qxb6628786aBig
import Derived.Test.Qxb6628786aCal
import Derived.Test.Qxb6628786aPlain
namespace Go.Proofs.Qxb6628786a
open Go.RowKit

set_option maxRecDepth 100000 in
set_option maxHeartbeats 1600000 in
theorem lawA_walk (ro ao mo : Option Addr) (rb roff rc ab aoff ac ml mc : Nat) (l : List Ru) (m : List An) (n f x y : ByteArray) (w : World) (hr : RSl w ro rb roff l) (ha : ASl w ao ab aoff m)
    (hl : l.length ≤ maxLen) (hm : m.length ≤ maxLen) :
    Calls Try.prog 3 #[.slice ro l.length rc, .slice ao m.length ac, .string n, .string f, .slice mo ml mc, .string x, .string y] w fun e w' => e = .returned (.bool true) ∧ Below w.heap.size w w' := by
  go_enter Try.func3, Try.ntmps3
  go_wp2_with fail
  refine (bytes5_any ro ao rb roff rc ab aoff ac l m n f x y mo ml mc _ hr ha).mono ?_
  rintro e w0 ⟨⟨b, rfl⟩, hw0⟩
  have hw0 := hw0.symm
  subst hw0
  cases b
  · go_wp2
    go_ret
    exact ⟨rfl, Below.refl _ _⟩
  by_cases k1 : n.size ≤ 1048576
  rotate_left
  · go_wp2
    go_ret
    exact ⟨rfl, Below.refl _ _⟩
  by_cases k2 : f.size ≤ 1048576
  rotate_left
  · go_wp2
    go_ret
    exact ⟨rfl, Below.refl _ _⟩
  by_cases k3 : x.size ≤ 1048576
  rotate_left
  · go_wp2
    go_ret
    exact ⟨rfl, Below.refl _ _⟩
  by_cases k4 : y.size ≤ 1048576
  rotate_left
  · go_wp2
    go_ret
    exact ⟨rfl, Below.refl _ _⟩
  by_cases k5 : ml ≤ 131072
  rotate_left
  · go_wp2
    go_ret
    exact ⟨rfl, Below.refl _ _⟩
  go_wp2_with fail
  rw [show ((n.size : Int) + (f.size : Int) + (x.size : Int) + (y.size : Int) + 8 * (ml : Int)) = ((n.size + f.size + x.size + y.size + 8 * ml : Nat) : Int) by omega]
  refine (big_any ro ao rb roff rc ab aoff ac l m _ _ hr ha).mono ?_
  rintro e w1 ⟨⟨b, rfl, hsm⟩, q, rfl⟩
  cases b
  rotate_left
  · go_wp2
    go_ret
    exact ⟨rfl, below_drewN _ _ _⟩
  obtain ⟨hl2, hm2⟩ := hsm rfl
  clear hsm k1 k2 k3 k4 k5
  have B1 := below_drewN w.heap.size w q
  have hr1 := hr.below B1
  have ha1 := ha.below B1
  generalize hw1 : w.drewN q = w1 at *
  have hs1 : w1.heap.size = w.heap.size := by rw [← hw1]; rfl
  clear hw1 hr ha
  have HS1 : Hid (w1.heap.size = w.heap.size) := hs1
  clear hs1
  go_wp2_with fail
  refine (fresh_any n ro ao rb roff rc ab aoff ac l m _ hr1 ha1 hl hm).mono ?_
  rintro e w1' ⟨rfl, hw0⟩
  have hw0 := hw0.symm
  subst hw0
  cases hfr : fresh n l m
  · clear hfr
    go_wp2
    go_ret
    exact ⟨rfl, B1⟩
  have HF : Hid (fresh n l m = true) := hfr
  clear hfr
  by_cases hxn : x = n
  · have t1 := tl_eq hxn
    clear hxn
    go_wp2
    go_ret
    exact ⟨rfl, B1⟩
  have t1 := tl_ne hxn
  have HX : Hid (¬ x = n) := hxn
  clear hxn
  by_cases hyn : y = n
  · have t2 := tl_eq hyn
    clear hyn
    go_wp2
    go_ret
    exact ⟨rfl, B1⟩
  have t2 := tl_ne hyn
  have HY : Hid (¬ y = n) := hyn
  clear hyn
  go_wp2_with fail
  clear t1 t2
  refine (rules0 ro rb roff rc l _ hr1 hl2).mono ?_
  rintro e w2 ⟨rfl, R2, B2⟩
  have hr2 := hr1.below B2
  have ha2 := ha1.below B2
  clear hr1 ha1
  replace B2 := B1.trans (B2.mono (by rw [HS1.out]; exact Nat.le_refl _))
  clear B1
  go_wp2_with fail
  refine (anns0 ao ab aoff ac m _ ha2 hm2).mono ?_
  rintro e w3 ⟨rfl, A3, B3⟩
  have hr3 := hr2.below B3
  have ha3 := ha2.below B3
  have R3 := R2.below B3
  clear hr2 ha2 R2
  replace B3 := B2.trans (B3.mono B2.size)
  clear B2
  go_wp2_with fail
  obtain ⟨w4, hW4, C4, B4⟩ := cal_laid (rn := l.length) (an := m.length) (rc := l.length) (ac := m.length) R3 A3 rfl rfl
  rw [hW4]
  clear hW4
  have hr4 := hr3.below B4
  have ha4 := ha3.below B4
  clear hr3 ha3 R3 A3
  replace B4 := B3.trans (B4.mono B3.size)
  clear B3
  refine (rules1 ro rb roff rc l _ hr4 hl2).mono ?_
  rintro e w5 ⟨rfl, O5, B5⟩
  clear hr4
  have hs5 := B5.size
  have hlt5 := (O5.lt _ rfl).2
  obtain ⟨i0, hi, hz0, hz1, hz2⟩ := info_parts Try.info42
  go_wp2_with (first | (at_builtin; refine wpList_append_fits _ rfl _ _ 29 rfl w4.heap.size 42 i0 7 Try.underlying29 hi hz1 w4.heap.size l.length (l.length + 1) _ rfl (O5.alloc _) ⟨w5.heap.size, 0, none⟩ 1 1 (Ru.cells ⟨n, f, mo, ml, mc, 0, 0, 0, 0⟩) rfl rfl (World.news_of_block (cs := (Ru.cells ⟨n, f, mo, ml, mc, 0, 0, 0, 0⟩).toArray) (t := 42) (fr := (0, 0)) (heap_alloc_new w5 _)) (by simp [Value.oneCell', Ru.cells]) (by omega) ?_; intro w6 O6 G6))
  have B6 : Below w4.heap.size w4 w6 := ((B5.alloc hs5 _).grown G6 (by simp; omega) (by intro q hq; simp at hq; omega))
  have C6 := C4.below B6
  have ha6 := ha4.below B6
  have R6 := rsl_more O6
  replace B6 := B4.trans (B6.mono B4.size)
  clear G6 O5 O6 hs5 hlt5 B5 C4 ha4 B4
  refine (anns0 ao ab aoff ac m _ ha6 hm2).mono ?_
  rintro e w7 ⟨rfl, A7, B7⟩
  have C7 := C6.below B7
  have R7 := R6.below B7
  clear C6 R6 ha6
  replace B7 := B6.trans (B7.mono B6.size)
  clear B6
  go_wp2_with fail
  obtain ⟨w8, hW8, N8, B8⟩ := cal_laid (rn := l.length + 1) (an := m.length) (rc := l.length + 1) (ac := m.length) R7 A7 (by simp) rfl
  rw [hW8]
  clear hW8
  have C8 := C7.below B8
  clear C7 R7 A7
  replace B8 := B7.trans (B8.mono B7.size)
  clear B7
  have hl3 : l.length ≤ 1048577 := by omega
  have hl4 : (l ++ [(⟨n, f, mo, ml, mc, 0, 0, 0, 0⟩ : Ru)]).length ≤ 1048577 := by simp; omega
  have hm3 : m.length ≤ 1048577 := by omega
  have HL4 : Hid ((l ++ [(⟨n, f, mo, ml, mc, 0, 0, 0, 0⟩ : Ru)]).length ≤ 1048577) := hl4
  clear hl4
  refine (originC_any _ _ _ _ l _ _ _ m x _ C8 hl3 hm3).mono ?_
  rintro e w9 ⟨rfl, B9⟩
  have C9 := C8.below B9
  have N9 := N8.below B9
  replace B9 := B8.trans (B9.mono B8.size)
  clear B8 C8 N8
  go_wp2_with fail
  refine (originC_any _ _ _ _ l _ _ _ m y _ C9 hl3 hm3).mono ?_
  rintro e w10 ⟨rfl, B10⟩
  have C10 := C9.below B10
  have N10 := N9.below B10
  replace B10 := B9.trans (B10.mono B9.size)
  clear B9 C9 N9
  go_wp2_with fail
  refine (pairs_any _ _ _ _ l _ _ _ m x y _ C10 hl3 hm3).mono ?_
  rintro e w11 ⟨rfl, B11⟩
  have N11 := N10.below B11
  replace B11 := B10.trans (B11.mono B10.size)
  clear B10 C10 N10
  have hR := noR_of HF.out
  have hA := noA_of HF.out
  have F1 := law1_xn (r := ⟨n, f, mo, ml, mc, 0, 0, 0, 0⟩) hR hA HX.out
  have F2 := law1_ny (r := ⟨n, f, mo, ml, mc, 0, 0, 0, 0⟩) hR hA HY.out
  have F3 := law1_xy (l := l) (r := ⟨n, f, mo, ml, mc, 0, 0, 0, 0⟩) hA HX.out HY.out
  generalize originC l m x = ox at *
  generalize originC l m y = oy at *
  generalize pairsC l m x y = bf at *
  generalize l ++ [(⟨n, f, mo, ml, mc, 0, 0, 0, 0⟩ : Ru)] = l2 at *
  clear hR hA
  obtain ⟨px, qx⟩ := ox
  obtain ⟨py, qy⟩ := oy
  dsimp only at F1 F2
  have G3 : Hid (pairsC l2 m x y = bf) := F3
  clear F3 hw0 hi hz0 hz1 hz2
  by_cases h1 : ml ≤ 1
  · by_cases hxf : x = f
    · have t3 := tl_eq hxf
      have G1 : Hid (pairsC l2 m x n = true) := by show _ = _; rw [F1]; simp [h1, hxf]
      clear hxf F1
      cases qy
      · have G2 : Hid (pairsC l2 m n y = false) := by show _ = _; rw [F2]; simp
        clear F2
        go_wp2_with fail
        refine (pairs_at _ _ _ _ l2 _ _ _ m x n _ N11 HL4.out hm3 _ G1.out).mono ?_
        rintro e w12 ⟨rfl, B12⟩
        have N12 := N11.below B12
        replace B12 := B11.trans (B12.mono B11.size)
        clear B11 N11
        go_wp2_with fail
        refine (pairs_at _ _ _ _ l2 _ _ _ m n y _ N12 HL4.out hm3 _ G2.out).mono ?_
        rintro e w13 ⟨rfl, B13⟩
        have N13 := N12.below B13
        replace B13 := B12.trans (B13.mono B12.size)
        clear B12 N12
        go_wp2_with fail
        refine (pairs_at _ _ _ _ l2 _ _ _ m x y _ N13 HL4.out hm3 _ G3.out).mono ?_
        rintro e w14 ⟨rfl, B14⟩
        replace B14 := B13.trans (B14.mono B13.size)
        go_wp2
        go_ret
        exact ⟨rfl, B14⟩
      · have G2 : Hid (pairsC l2 m n y = (py.toList == f.toList)) := by show _ = _; rw [F2, tl_beq]; simp [h1]
        clear F2
        go_wp2_with fail
        refine (pairs_at _ _ _ _ l2 _ _ _ m x n _ N11 HL4.out hm3 _ G1.out).mono ?_
        rintro e w12 ⟨rfl, B12⟩
        have N12 := N11.below B12
        replace B12 := B11.trans (B12.mono B11.size)
        clear B11 N11
        go_wp2_with fail
        refine (pairs_at _ _ _ _ l2 _ _ _ m n y _ N12 HL4.out hm3 _ G2.out).mono ?_
        rintro e w13 ⟨rfl, B13⟩
        have N13 := N12.below B13
        replace B13 := B12.trans (B13.mono B12.size)
        clear B12 N12
        go_wp2_with fail
        refine (pairs_at _ _ _ _ l2 _ _ _ m x y _ N13 HL4.out hm3 _ G3.out).mono ?_
        rintro e w14 ⟨rfl, B14⟩
        replace B14 := B13.trans (B14.mono B13.size)
        go_wp2
        go_ret
        exact ⟨rfl, B14⟩
    · have t3 := tl_ne hxf
      cases qx
      · have G1 : Hid (pairsC l2 m x n = false) := by show _ = _; rw [F1]; simp [hxf]
        clear hxf F1
        cases qy
        · have G2 : Hid (pairsC l2 m n y = false) := by show _ = _; rw [F2]; simp
          clear F2
          go_wp2_with fail
          refine (pairs_at _ _ _ _ l2 _ _ _ m x n _ N11 HL4.out hm3 _ G1.out).mono ?_
          rintro e w12 ⟨rfl, B12⟩
          have N12 := N11.below B12
          replace B12 := B11.trans (B12.mono B11.size)
          clear B11 N11
          go_wp2_with fail
          refine (pairs_at _ _ _ _ l2 _ _ _ m n y _ N12 HL4.out hm3 _ G2.out).mono ?_
          rintro e w13 ⟨rfl, B13⟩
          have N13 := N12.below B13
          replace B13 := B12.trans (B13.mono B12.size)
          clear B12 N12
          go_wp2_with fail
          refine (pairs_at _ _ _ _ l2 _ _ _ m x y _ N13 HL4.out hm3 _ G3.out).mono ?_
          rintro e w14 ⟨rfl, B14⟩
          replace B14 := B13.trans (B14.mono B13.size)
          go_wp2
          go_ret
          exact ⟨rfl, B14⟩
        · have G2 : Hid (pairsC l2 m n y = (py.toList == f.toList)) := by show _ = _; rw [F2, tl_beq]; simp [h1]
          clear F2
          go_wp2_with fail
          refine (pairs_at _ _ _ _ l2 _ _ _ m x n _ N11 HL4.out hm3 _ G1.out).mono ?_
          rintro e w12 ⟨rfl, B12⟩
          have N12 := N11.below B12
          replace B12 := B11.trans (B12.mono B11.size)
          clear B11 N11
          go_wp2_with fail
          refine (pairs_at _ _ _ _ l2 _ _ _ m n y _ N12 HL4.out hm3 _ G2.out).mono ?_
          rintro e w13 ⟨rfl, B13⟩
          have N13 := N12.below B13
          replace B13 := B12.trans (B13.mono B12.size)
          clear B12 N12
          go_wp2_with fail
          refine (pairs_at _ _ _ _ l2 _ _ _ m x y _ N13 HL4.out hm3 _ G3.out).mono ?_
          rintro e w14 ⟨rfl, B14⟩
          replace B14 := B13.trans (B14.mono B13.size)
          go_wp2
          go_ret
          exact ⟨rfl, B14⟩
      · have G1 : Hid (pairsC l2 m x n = (px.toList == f.toList)) := by show _ = _; rw [F1, tl_beq]; simp [h1, hxf]
        clear hxf F1
        cases qy
        · have G2 : Hid (pairsC l2 m n y = false) := by show _ = _; rw [F2]; simp
          clear F2
          go_wp2_with fail
          refine (pairs_at _ _ _ _ l2 _ _ _ m x n _ N11 HL4.out hm3 _ G1.out).mono ?_
          rintro e w12 ⟨rfl, B12⟩
          have N12 := N11.below B12
          replace B12 := B11.trans (B12.mono B11.size)
          clear B11 N11
          go_wp2_with fail
          refine (pairs_at _ _ _ _ l2 _ _ _ m n y _ N12 HL4.out hm3 _ G2.out).mono ?_
          rintro e w13 ⟨rfl, B13⟩
          have N13 := N12.below B13
          replace B13 := B12.trans (B13.mono B12.size)
          clear B12 N12
          go_wp2_with fail
          refine (pairs_at _ _ _ _ l2 _ _ _ m x y _ N13 HL4.out hm3 _ G3.out).mono ?_
          rintro e w14 ⟨rfl, B14⟩
          replace B14 := B13.trans (B14.mono B13.size)
          go_wp2
          go_ret
          exact ⟨rfl, B14⟩
        · have G2 : Hid (pairsC l2 m n y = (py.toList == f.toList)) := by show _ = _; rw [F2, tl_beq]; simp [h1]
          clear F2
          go_wp2_with fail
          refine (pairs_at _ _ _ _ l2 _ _ _ m x n _ N11 HL4.out hm3 _ G1.out).mono ?_
          rintro e w12 ⟨rfl, B12⟩
          have N12 := N11.below B12
          replace B12 := B11.trans (B12.mono B11.size)
          clear B11 N11
          go_wp2_with fail
          refine (pairs_at _ _ _ _ l2 _ _ _ m n y _ N12 HL4.out hm3 _ G2.out).mono ?_
          rintro e w13 ⟨rfl, B13⟩
          have N13 := N12.below B13
          replace B13 := B12.trans (B13.mono B12.size)
          clear B12 N12
          go_wp2_with fail
          refine (pairs_at _ _ _ _ l2 _ _ _ m x y _ N13 HL4.out hm3 _ G3.out).mono ?_
          rintro e w14 ⟨rfl, B14⟩
          replace B14 := B13.trans (B14.mono B13.size)
          go_wp2
          go_ret
          exact ⟨rfl, B14⟩
  · have G1 : Hid (pairsC l2 m x n = false) := by show _ = _; rw [F1]; simp [h1]
    have G2 : Hid (pairsC l2 m n y = false) := by show _ = _; rw [F2]; simp [h1]
    clear F1 F2
    go_wp2_with fail
    refine (pairs_at _ _ _ _ l2 _ _ _ m x n _ N11 HL4.out hm3 _ G1.out).mono ?_
    rintro e w12 ⟨rfl, B12⟩
    have N12 := N11.below B12
    replace B12 := B11.trans (B12.mono B11.size)
    clear B11 N11
    go_wp2_with fail
    refine (pairs_at _ _ _ _ l2 _ _ _ m n y _ N12 HL4.out hm3 _ G2.out).mono ?_
    rintro e w13 ⟨rfl, B13⟩
    have N13 := N12.below B13
    replace B13 := B12.trans (B13.mono B12.size)
    clear B12 N12
    go_wp2_with fail
    refine (pairs_at _ _ _ _ l2 _ _ _ m x y _ N13 HL4.out hm3 _ G3.out).mono ?_
    rintro e w14 ⟨rfl, B14⟩
    replace B14 := B13.trans (B14.mono B13.size)
    go_wp2
    go_ret
    exact ⟨rfl, B14⟩
end Go.Proofs.Qxb6628786a
