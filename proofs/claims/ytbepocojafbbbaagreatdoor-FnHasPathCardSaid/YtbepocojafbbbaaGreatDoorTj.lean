/- The scanner: the next token inside the buffer: signs. -/
import Derived.Test.YtbepocojafbbbaaGreatDoorTi
namespace Go.Proofs.YtbepocojafbbbaaGreatDoor
open Go.RowKit
set_option maxRecDepth 100000

set_option maxHeartbeats 2000000 in
theorem tok_one (w : World) (b : Nat) (T : List UInt8) (z : Value) (q i m : Nat) (h : At b T z q w) (hA : Ascii T) (hqi : q ≤ i) (hw : ∀ j, q ≤ j → j < i → whiteB (chr T j) = true) (hi : whiteB (chr T i) = false)
    (h1 : m = i + 1) (h2 : m < T.length) (h3 : chr T i = 40 ∨ chr T i = 41 ∨ chr T i = 44 ∨ chr T i = 123 ∨ chr T i = 125 ∨ chr T i = 46) (ty : Int) (hty : ty = 5) :
    Calls Tryz.prog 90 #[.pointer (some ⟨b, 0, none⟩)] w (TokIn w b T z m ty (cut T i m)) := by
  have HTY := Lib.hid hty
  obtain ⟨cs, tp, hB, hS, hch, hz⟩ := h.cells
  have c1038 := (hB.cell 1038).trans hch
  have c1036 := (hB.cell 1036).trans hS.tp
  obtain ⟨pl, q7⟩ := hS.pl
  have c1042 := (hB.cell 1042).trans q7
  have lt := hB.lt
  have f := hB.free
  have hm2 : ((chr T q : Int) == -2) = false := by simp
  have HB := Lib.hid hB
  have HS := Lib.hid hS
  have HZ := Lib.hid hz
  have HW := Lib.hid hw
  have HI := Lib.hid hi
  have hid : identB (chr T i) true = false := by rcases h3 with h | h | h | h | h | h <;> (rw [h]; rfl)
  have hdg : digitB (chr T i) = false := by rcases h3 with h | h | h | h | h | h <;> (rw [h]; rfl)
  have k34 : ((chr T i : Int) == 34) = false := by rcases h3 with h | h | h | h | h | h <;> (rw [h]; rfl)
  have k47 : ((chr T i : Int) == 47) = false := by rcases h3 with h | h | h | h | h | h <;> (rw [h]; rfl)
  have H3 := Lib.hid (And.intro hid (And.intro hdg (And.intro k34 (And.intro k47 h3))))
  clear hid hdg k34 k47
  have hle : i ≤ m := by omega
  have H1 := Lib.hid h1
  clear h1
  have hbw : b ≠ w.heap.size := by omega
  clear h hB hS hch hz hw hi h3 q7 hty
  go_enter Tryz.func90, Tryz.ntmps90
  go_wp2_with fail
  go_step3
  go_wp2_with fail
  go_step3
  go_wp2_with fail
  go_loopw [3] (fun v wr => ∃ j, q ≤ j ∧ j ≤ i ∧ v = .int .i32 (chr T j) ∧ Stands w wr b cs T (j + 1) 1 (-1) ∧ Blk wr w.heap.size zt 154) (fun v wr => match wr.cell? ⟨b, 1026, none⟩ with | some v => m + 1 - (intOf v).toNat | none => 0)
  case atStart =>
    refine ⟨q, Nat.le_refl _, hqi, rfl, ⟨(((Ex.refl _ _).own _ _).own _ _).alloc _, (cs.setIfInBounds 1036 (.int .i64 (-1))).setIfInBounds 1042 (.int .i64 0), ((HB.out.set 1036 _).set 1042 _).ex ((Ex.refl No _).alloc _) no_, (HS.out.setTp _).setPl _, ?_, ?_⟩, ?_⟩
    · (repeat rw [Array.getElem?_setIfInBounds_ne (by omega)])
    · (repeat rw [Array.getElem?_setIfInBounds_ne (by omega)])
    · have := Blk.new ((w.setCell ⟨b, 1036, none⟩ (.int .i64 (-1))).setCell ⟨b, 1042, none⟩ (.int .i64 0)) zt 154
      simpa [zt] using this
  case round =>
    obtain ⟨j, hqj, hji, rfl, ⟨hEx, cs1, hB1, hS1, e1, e2⟩, hR1⟩ := hrel
    have HS1 := Lib.hid hS1
    have HB1 := Lib.hid hB1
    have HX := Lib.hid hEx
    have HR1 := Lib.hid hR1
    have HE1 := Lib.hid (And.intro e1 e2)
    clear hEx hB1 hS1 hR1 e1 e2
    by_cases hlt : j < i
    · have hid := HW.out j hqj hlt
      go_wp2_with (go_at_call 123; refine (white_spec _ _).mono ?_; rintro e' w' ⟨rfl, rfl⟩; rw [hid])
      refine (next_at _ b cs1 T (j + 1) 1 (-1) HB1.out HS1.out (by omega) hA).mono ?_
      rintro e' w2 ⟨rfl, h2⟩
      have HH := Lib.hid h2
      clear h2
      go_wp2
      go_roundw
      case rel => exact ⟨j + 1, by omega, by omega, rfl, HH.out.trans HX.out HE1.out.1 HE1.out.2, HR1.out.ex HH.out.1 (fun h => hbw h.symm)⟩
      case measure =>
        obtain ⟨_, cs2, hB2, hS2, _⟩ := HH.out
        rw [(HB1.out.cell 1026).trans HS1.out.pos, (hB2.cell 1026).trans hS2.pos]
        simp only [intOf]
        omega
    · have : j = i := by omega
      subst this
      go_wp2_with (go_at_call 123; refine (white_spec _ _).mono ?_; rintro e' w' ⟨rfl, rfl⟩; rw [HI.out])
      refine (reset_spec _ b 1033 cs1 241 none 0 0 _ _ HB1.out HS1.out.tb HS1.out.to HS1.out.tr).mono ?_
      rintro e' w2 ⟨rfl, hx2, hB2⟩
      rw [set_same HS1.out.tb, set_same HS1.out.to, set_same HS1.out.tr] at hB2
      have hX2 : Ex (On b) w w2 := HX.out.trans hx2
      have hR2 := HR1.out.ex hx2 (fun h => hbw h.symm)
      obtain ⟨p, hp⟩ : ∃ p, p = j + 1 := ⟨_, rfl⟩
      have hS2 : Sc cs1 T p 1 (-1) := by rw [hp]; exact HS1.out
      have HP := Lib.hid hp
      have hM2 : M0 w w.heap.size b T p (-1) z cs1 w2 := ⟨hX2, hB2, hS2, hR2, HE1.out.2.trans HZ.out⟩
      have HM2 := Lib.hid hM2
      clear HX HR1 HB1 HS1 hx2 hB2 hX2 hR2 hp hS2 hM2
      have c1026 := (HM2.out.hB.cell 1026).trans HM2.out.hS.pos
      have c1032 := (HM2.out.hB.cell 1032).trans HM2.out.hS.lc
      have c1036 := (HM2.out.hB.cell 1036).trans HM2.out.hS.tp
      have lt2 := HM2.out.hB.lt
      have f2 := HM2.out.hB.free
      have hsh := HM2.out.hS.short
      have hp1 : (p : Int) ≤ 1000 := by have := HP.out; omega
      have hp0 : (1 : Int) ≤ p := by have := HP.out; omega
      go_wp2_with fail
      go_still_tail 12, (by kernel_rfl)
      go_wp2_with fail
      refine ((HM2.out.set hbw 1036 (.int .i64 ((p : Int) - 1)) (by omega) (HM2.out.hS.setTp _)).go ((Ex.refl _ _).drew)).next ?_
      clear HM2 c1026 c1032 c1036 lt2 f2
      intro W3 HM3
      obtain ⟨cb, q0⟩ := HM3.out.hS.base
      obtain ⟨po, q1⟩ := HM3.out.hS.po
      have c1028 := (HM3.out.hB.cell 1028).trans q0
      have c1036 := (HM3.out.hB.cell 1036).trans HM3.out.hS.tp
      have c1041 := (HM3.out.hB.cell 1041).trans q1
      have lt3 := HM3.out.hB.lt
      have f3 := HM3.out.hB.free
      obtain ⟨cl, q2⟩ := HM3.out.hS.line
      obtain ⟨cc, q3⟩ := HM3.out.hS.column
      obtain ⟨ll, q4⟩ := HM3.out.hS.lline
      obtain ⟨pl', q5⟩ := HM3.out.hS.pl
      obtain ⟨pc', q6⟩ := HM3.out.hS.pc
      have c1029 := (HM3.out.hB.cell 1029).trans q2
      have c1030 := (HM3.out.hB.cell 1030).trans q3
      have c1031 := (HM3.out.hB.cell 1031).trans q4
      have d1042 := (HM3.out.hB.cell 1042).trans q5
      have c1043 := (HM3.out.hB.cell 1043).trans q6
      have hm1 : ((chr T j : Int) == -1) = false := by simp
      clear q0 q1 q2 q3 q4 q5 q6
      go_still_tail 13, (by kernel_rfl)
      go_wp2_with fail
      all_goals
        refine (identRune_spec _ _ _).mono ?_
        rintro e' w' ⟨rfl, rfl⟩
        rw [H3.out.1]
        have k34 := H3.out.2.2.1
        have k47 := H3.out.2.2.2.1
        go_wp2_with (go_at_call 127; refine (decimal_spec _ _).mono ?_; rintro e' w' ⟨rfl, rfl⟩; rw [H3.out.2.1])
        clear k34 k47
        have hM4 := fun (x y u : Int) => ((((HM3.out.set hbw 1041 (.int .i64 x) (by omega) (HM3.out.hS.setPo _)).set hbw 1042 (.int .i64 y) (by omega) ((HM3.out.hS.setPo _).setPl _)).set hbw 1043 (.int .i64 u) (by omega) (((HM3.out.hS.setPo _).setPl _).setPc _)).go ((Ex.refl _ _).drew))
        refine (next_at _ b _ T p 1 _ (hM4 _ _ _).hB (hM4 _ _ _).hS (by have := HP.out; have := H1.out; omega) hA).mono ?_
        rintro e' w4 ⟨rfl, h5⟩
        obtain ⟨cs5, hM5⟩ := (hM4 _ _ _).stands hbw h5
        have em1 : p = m := by have := HP.out; have := H1.out; omega
        rw [em1] at hM5 ⊢
        go_wp2_with fail
        refine (scanOp1 _ b _ _ (by have := H3.out.2.2.2.2; omega)).mono ?_
        rintro e' w5 ⟨rfl, rfl⟩
        rw [← em1] at hM5
        have hM5' : M0 w w.heap.size b T (m + 1) (↑p - 1) z cs5 w5 := by rw [← em1]; exact hM5
        clear hM5
        have hM5 := hM5'
        clear hM5' em1
        have HM5 := Lib.hid hM5
        clear hM4 hM5 h5 HM3 c1028 c1029 c1030 c1031 c1036 c1041 d1042 c1043 lt3 f3
        obtain ⟨m1, hm1⟩ : ∃ x, x = m + 1 := ⟨_, rfl⟩
        have ej : (p : Int) - 1 = j := by have := HP.out; omega
        rw [← hm1, ej] at HM5
        have HM1 := Lib.hid hm1
        clear hm1 ej
        have c1026 := (HM5.out.hB.cell 1026).trans HM5.out.hS.pos
        have c1032 := (HM5.out.hB.cell 1032).trans HM5.out.hS.lc
        obtain ⟨te, q1⟩ := HM5.out.hS.te
        have c1037 := (HM5.out.hB.cell 1037).trans q1
        have lt5 := HM5.out.hB.lt
        have f5 := HM5.out.hB.free
        have hm1 : (m1 : Int) ≤ 1000 := by have := HM1.out; omega
        have hm0 : (1 : Int) ≤ m1 := by have := HM1.out; omega
        have hc38 : ∃ v, cs5[1038]? = some v := ⟨_, Array.getElem?_eq_getElem (by have := HM5.out.hS.size; omega)⟩
        obtain ⟨vc, hc38⟩ := hc38
        have c1038' := (HM5.out.hB.cell 1038).trans hc38
        clear q1 hp1 hp0 hc38
        go_wp2_with fail
        go_still_tail 12, (by kernel_rfl)
        go_wp2_with fail
        have hM6 := (((HM5.out.set hbw 1037 (.int .i64 ((m1 : Int) - 1)) (by omega) (HM5.out.hS.setTe _)).set hbw 1038 (.int .i32 (chr T m)) (by omega) ((HM5.out.hS.setTe _).setCh _)).go ((Ex.refl _ _).drew))
        have z5 := HM5.out.hS.size
        have em : (m1 : Int) - 1 = m := by have := HM1.out; omega
        refine (tokText_spec _ b _ T m1 j m 1 hM6.hB hM6.hS (by rw [em]; exact set_ne (set_at z5 (by omega)) (by omega)) hle (by omega)).mono ?_
        rintro e' w6 ⟨rfl, hx6⟩
        have hM7 := hM6.go hx6
        have e38 : ((cs5.setIfInBounds 1037 (.int .i64 ((m1 : Int) - 1))).setIfInBounds 1038 (.int .i32 (chr T m)))[1038]? = some (.int .i32 (chr T m)) := set_at (by simpa using z5) (by omega)
        obtain ⟨cs7, hcs7⟩ : ∃ x, x = ((cs5.setIfInBounds 1037 (.int .i64 ((m1 : Int) - 1))).setIfInBounds 1038 (.int .i32 (chr T m))) := ⟨_, rfl⟩
        rw [← hcs7] at hM7 e38
        have HM7 := Lib.hid hM7
        have HE38 := Lib.hid e38
        clear HM5 hM6 hM7 hx6 e38 hcs7 c1026 c1032 c1037 c1038' lt5 f5 em z5
        have HM8 := HM7
        clear HM7
        obtain ⟨fn, q1⟩ := HM8.out.hS.pfn
        obtain ⟨o, q2⟩ := HM8.out.hS.po
        obtain ⟨l, q3⟩ := HM8.out.hS.pl
        obtain ⟨c, q4⟩ := HM8.out.hS.pc
        have d0 := (HM8.out.hB.cell 1040).trans q1
        have d1 := (HM8.out.hB.cell 1041).trans q2
        have d2 := (HM8.out.hB.cell 1042).trans q3
        have d3 := (HM8.out.hB.cell 1043).trans q4
        have lt8 := HM8.out.hB.lt
        have r0 := HM8.out.hR.cell
        have rf := HM8.out.hR.free
        have rl := HM8.out.hR.lt
        simp only [zt] at r0
        clear q1 q2 q3 q4
        go_wp2_with fail
        all_goals
          rw [Exit.noGoto_ret]
          have hB6 := (((((HM8.out.hR.set 0 (.int .i64 ty)).set 1 (.string fn)).set 2 (.int .i64 o)).set 3 (.int .i64 l)).set 4 (.int .i64 c)).set 5 (.string (cut T j m))
          rw [HTY.out] at hB6
          have hat : ∀ W, Ex (On w.heap.size) w6 W → At b T z m W := fun W hx => ⟨cs7, _, HM8.out.hB.ex hx hbw, by rw [← HM1.out]; exact HM8.out.hS, HE38.out, HM8.out.hz⟩
          have hx6 : ∀ v0 v1 v2 v3 v4 v5, Ex (On w.heap.size) w6 ((((((w6.setCell ⟨w.heap.size, 0, none⟩ v0).setCell ⟨w.heap.size, 1, none⟩ v1).setCell ⟨w.heap.size, 2, none⟩ v2).setCell ⟨w.heap.size, 3, none⟩ v3).setCell ⟨w.heap.size, 4, none⟩ v4).setCell ⟨w.heap.size, 5, none⟩ v5) :=
            fun _ _ _ _ _ _ => ((((((Ex.refl _ _).own _ _).own _ _).own _ _).own _ _).own _ _).own _ _
          refine tok_done (fn := fn) (o := o) (l := l) (c := c) (r := w.heap.size) rfl (by simpa [zt, HTY.out] using hB6) ((HM8.out.ex).trans' (hx6 _ _ _ _ _ _) (fun k hk h => ?_)) (hat _ (hx6 _ _ _ _ _ _))
          unfold On at h
          omega

set_option maxHeartbeats 2000000 in
theorem tok_two (w : World) (b : Nat) (T : List UInt8) (z : Value) (q i m : Nat) (h : At b T z q w) (hA : Ascii T) (hqi : q ≤ i) (hw : ∀ j, q ≤ j → j < i → whiteB (chr T j) = true) (hi : whiteB (chr T i) = false)
    (h1 : m = i + 2) (h2 : m < T.length) (h3 : chr T i = 38) (h6 : chr T (i + 1) = 38) (ty : Int) (hty : ty = 5) :
    Calls Tryz.prog 90 #[.pointer (some ⟨b, 0, none⟩)] w (TokIn w b T z m ty (cut T i m)) := by
  have HTY := Lib.hid hty
  obtain ⟨cs, tp, hB, hS, hch, hz⟩ := h.cells
  have c1038 := (hB.cell 1038).trans hch
  have c1036 := (hB.cell 1036).trans hS.tp
  obtain ⟨pl, q7⟩ := hS.pl
  have c1042 := (hB.cell 1042).trans q7
  have lt := hB.lt
  have f := hB.free
  have hm2 : ((chr T q : Int) == -2) = false := by simp
  have HB := Lib.hid hB
  have HS := Lib.hid hS
  have HZ := Lib.hid hz
  have HW := Lib.hid hw
  have HI := Lib.hid hi
  have hid : identB (chr T i) true = false := by rw [h3]; rfl
  have hdg : digitB (chr T i) = false := by rw [h3]; rfl
  have k34 : ((chr T i : Int) == 34) = false := by rw [h3]; rfl
  have k47 : ((chr T i : Int) == 47) = false := by rw [h3]; rfl
  have H3 := Lib.hid (And.intro hid (And.intro hdg (And.intro k34 (And.intro k47 (And.intro h3 h6)))))
  clear hid hdg k34 k47 h6
  have hle : i ≤ m := by omega
  have H1 := Lib.hid h1
  clear h1
  have hbw : b ≠ w.heap.size := by omega
  clear h hB hS hch hz hw hi h3 q7 hty
  go_enter Tryz.func90, Tryz.ntmps90
  go_wp2_with fail
  go_step3
  go_wp2_with fail
  go_step3
  go_wp2_with fail
  go_loopw [3] (fun v wr => ∃ j, q ≤ j ∧ j ≤ i ∧ v = .int .i32 (chr T j) ∧ Stands w wr b cs T (j + 1) 1 (-1) ∧ Blk wr w.heap.size zt 154) (fun v wr => match wr.cell? ⟨b, 1026, none⟩ with | some v => m + 1 - (intOf v).toNat | none => 0)
  case atStart =>
    refine ⟨q, Nat.le_refl _, hqi, rfl, ⟨(((Ex.refl _ _).own _ _).own _ _).alloc _, (cs.setIfInBounds 1036 (.int .i64 (-1))).setIfInBounds 1042 (.int .i64 0), ((HB.out.set 1036 _).set 1042 _).ex ((Ex.refl No _).alloc _) no_, (HS.out.setTp _).setPl _, ?_, ?_⟩, ?_⟩
    · (repeat rw [Array.getElem?_setIfInBounds_ne (by omega)])
    · (repeat rw [Array.getElem?_setIfInBounds_ne (by omega)])
    · have := Blk.new ((w.setCell ⟨b, 1036, none⟩ (.int .i64 (-1))).setCell ⟨b, 1042, none⟩ (.int .i64 0)) zt 154
      simpa [zt] using this
  case round =>
    obtain ⟨j, hqj, hji, rfl, ⟨hEx, cs1, hB1, hS1, e1, e2⟩, hR1⟩ := hrel
    have HS1 := Lib.hid hS1
    have HB1 := Lib.hid hB1
    have HX := Lib.hid hEx
    have HR1 := Lib.hid hR1
    have HE1 := Lib.hid (And.intro e1 e2)
    clear hEx hB1 hS1 hR1 e1 e2
    by_cases hlt : j < i
    · have hid := HW.out j hqj hlt
      go_wp2_with (go_at_call 123; refine (white_spec _ _).mono ?_; rintro e' w' ⟨rfl, rfl⟩; rw [hid])
      refine (next_at _ b cs1 T (j + 1) 1 (-1) HB1.out HS1.out (by omega) hA).mono ?_
      rintro e' w2 ⟨rfl, h2⟩
      have HH := Lib.hid h2
      clear h2
      go_wp2
      go_roundw
      case rel => exact ⟨j + 1, by omega, by omega, rfl, HH.out.trans HX.out HE1.out.1 HE1.out.2, HR1.out.ex HH.out.1 (fun h => hbw h.symm)⟩
      case measure =>
        obtain ⟨_, cs2, hB2, hS2, _⟩ := HH.out
        rw [(HB1.out.cell 1026).trans HS1.out.pos, (hB2.cell 1026).trans hS2.pos]
        simp only [intOf]
        omega
    · have : j = i := by omega
      subst this
      go_wp2_with (go_at_call 123; refine (white_spec _ _).mono ?_; rintro e' w' ⟨rfl, rfl⟩; rw [HI.out])
      refine (reset_spec _ b 1033 cs1 241 none 0 0 _ _ HB1.out HS1.out.tb HS1.out.to HS1.out.tr).mono ?_
      rintro e' w2 ⟨rfl, hx2, hB2⟩
      rw [set_same HS1.out.tb, set_same HS1.out.to, set_same HS1.out.tr] at hB2
      have hX2 : Ex (On b) w w2 := HX.out.trans hx2
      have hR2 := HR1.out.ex hx2 (fun h => hbw h.symm)
      obtain ⟨p, hp⟩ : ∃ p, p = j + 1 := ⟨_, rfl⟩
      have hS2 : Sc cs1 T p 1 (-1) := by rw [hp]; exact HS1.out
      have HP := Lib.hid hp
      have hM2 : M0 w w.heap.size b T p (-1) z cs1 w2 := ⟨hX2, hB2, hS2, hR2, HE1.out.2.trans HZ.out⟩
      have HM2 := Lib.hid hM2
      clear HX HR1 HB1 HS1 hx2 hB2 hX2 hR2 hp hS2 hM2
      have c1026 := (HM2.out.hB.cell 1026).trans HM2.out.hS.pos
      have c1032 := (HM2.out.hB.cell 1032).trans HM2.out.hS.lc
      have c1036 := (HM2.out.hB.cell 1036).trans HM2.out.hS.tp
      have lt2 := HM2.out.hB.lt
      have f2 := HM2.out.hB.free
      have hsh := HM2.out.hS.short
      have hp1 : (p : Int) ≤ 1000 := by have := HP.out; omega
      have hp0 : (1 : Int) ≤ p := by have := HP.out; omega
      go_wp2_with fail
      go_still_tail 12, (by kernel_rfl)
      go_wp2_with fail
      refine ((HM2.out.set hbw 1036 (.int .i64 ((p : Int) - 1)) (by omega) (HM2.out.hS.setTp _)).go ((Ex.refl _ _).drew)).next ?_
      clear HM2 c1026 c1032 c1036 lt2 f2
      intro W3 HM3
      obtain ⟨cb, q0⟩ := HM3.out.hS.base
      obtain ⟨po, q1⟩ := HM3.out.hS.po
      have c1028 := (HM3.out.hB.cell 1028).trans q0
      have c1036 := (HM3.out.hB.cell 1036).trans HM3.out.hS.tp
      have c1041 := (HM3.out.hB.cell 1041).trans q1
      have lt3 := HM3.out.hB.lt
      have f3 := HM3.out.hB.free
      obtain ⟨cl, q2⟩ := HM3.out.hS.line
      obtain ⟨cc, q3⟩ := HM3.out.hS.column
      obtain ⟨ll, q4⟩ := HM3.out.hS.lline
      obtain ⟨pl', q5⟩ := HM3.out.hS.pl
      obtain ⟨pc', q6⟩ := HM3.out.hS.pc
      have c1029 := (HM3.out.hB.cell 1029).trans q2
      have c1030 := (HM3.out.hB.cell 1030).trans q3
      have c1031 := (HM3.out.hB.cell 1031).trans q4
      have d1042 := (HM3.out.hB.cell 1042).trans q5
      have c1043 := (HM3.out.hB.cell 1043).trans q6
      have hm1 : ((chr T j : Int) == -1) = false := by simp
      clear q0 q1 q2 q3 q4 q5 q6
      go_still_tail 13, (by kernel_rfl)
      go_wp2_with fail
      all_goals
        refine (identRune_spec _ _ _).mono ?_
        rintro e' w' ⟨rfl, rfl⟩
        rw [H3.out.1]
        have k34 := H3.out.2.2.1
        have k47 := H3.out.2.2.2.1
        go_wp2_with (go_at_call 127; refine (decimal_spec _ _).mono ?_; rintro e' w' ⟨rfl, rfl⟩; rw [H3.out.2.1])
        clear k34 k47
        have hM4 := fun (x y u : Int) => ((((HM3.out.set hbw 1041 (.int .i64 x) (by omega) (HM3.out.hS.setPo _)).set hbw 1042 (.int .i64 y) (by omega) ((HM3.out.hS.setPo _).setPl _)).set hbw 1043 (.int .i64 u) (by omega) (((HM3.out.hS.setPo _).setPl _).setPc _)).go ((Ex.refl _ _).drew))
        refine (next_at _ b _ T p 1 _ (hM4 _ _ _).hB (hM4 _ _ _).hS (by have := HP.out; have := H1.out; omega) hA).mono ?_
        rintro e' w4 ⟨rfl, h5⟩
        obtain ⟨cs5, hM5⟩ := (hM4 _ _ _).stands hbw h5
        have e1 : (chr T j : Int) = 38 := by rw [H3.out.2.2.2.2.1]; rfl
        have e2 : (chr T p : Int) = 38 := by rw [HP.out, H3.out.2.2.2.2.2]; rfl
        rw [e2]
        go_wp2_with fail
        clear e1 e2
        refine (scanOp2 _ b cs5 T (p + 1) 1 _ hM5.hB hM5.hS (by have := HP.out; have := H1.out; omega) hA).mono ?_
        rintro e' w5 ⟨rfl, h6⟩
        obtain ⟨cs6, hM6⟩ := hM5.stands hbw h6
        have em1 : p + 1 = m := by have := HP.out; have := H1.out; omega
        clear hM5
        obtain ⟨cs5, hM5⟩ : ∃ cs5, M0 w w.heap.size b T (m + 1) (↑p - 1) z cs5 w5 := ⟨cs6, by rw [← em1]; exact hM6⟩
        rw [em1]
        clear hM6 em1 h6
        have HM5 := Lib.hid hM5
        clear hM4 hM5 h5 HM3 c1028 c1029 c1030 c1031 c1036 c1041 d1042 c1043 lt3 f3
        obtain ⟨m1, hm1⟩ : ∃ x, x = m + 1 := ⟨_, rfl⟩
        have ej : (p : Int) - 1 = j := by have := HP.out; omega
        rw [← hm1, ej] at HM5
        have HM1 := Lib.hid hm1
        clear hm1 ej
        have c1026 := (HM5.out.hB.cell 1026).trans HM5.out.hS.pos
        have c1032 := (HM5.out.hB.cell 1032).trans HM5.out.hS.lc
        obtain ⟨te, q1⟩ := HM5.out.hS.te
        have c1037 := (HM5.out.hB.cell 1037).trans q1
        have lt5 := HM5.out.hB.lt
        have f5 := HM5.out.hB.free
        have hm1 : (m1 : Int) ≤ 1000 := by have := HM1.out; omega
        have hm0 : (1 : Int) ≤ m1 := by have := HM1.out; omega
        have hc38 : ∃ v, cs5[1038]? = some v := ⟨_, Array.getElem?_eq_getElem (by have := HM5.out.hS.size; omega)⟩
        obtain ⟨vc, hc38⟩ := hc38
        have c1038' := (HM5.out.hB.cell 1038).trans hc38
        clear q1 hp1 hp0 hc38
        go_wp2_with fail
        go_still_tail 12, (by kernel_rfl)
        go_wp2_with fail
        have hM6 := (((HM5.out.set hbw 1037 (.int .i64 ((m1 : Int) - 1)) (by omega) (HM5.out.hS.setTe _)).set hbw 1038 (.int .i32 (chr T m)) (by omega) ((HM5.out.hS.setTe _).setCh _)).go ((Ex.refl _ _).drew))
        have z5 := HM5.out.hS.size
        have em : (m1 : Int) - 1 = m := by have := HM1.out; omega
        refine (tokText_spec _ b _ T m1 j m 1 hM6.hB hM6.hS (by rw [em]; exact set_ne (set_at z5 (by omega)) (by omega)) hle (by omega)).mono ?_
        rintro e' w6 ⟨rfl, hx6⟩
        have hM7 := hM6.go hx6
        have e38 : ((cs5.setIfInBounds 1037 (.int .i64 ((m1 : Int) - 1))).setIfInBounds 1038 (.int .i32 (chr T m)))[1038]? = some (.int .i32 (chr T m)) := set_at (by simpa using z5) (by omega)
        obtain ⟨cs7, hcs7⟩ : ∃ x, x = ((cs5.setIfInBounds 1037 (.int .i64 ((m1 : Int) - 1))).setIfInBounds 1038 (.int .i32 (chr T m))) := ⟨_, rfl⟩
        rw [← hcs7] at hM7 e38
        have HM7 := Lib.hid hM7
        have HE38 := Lib.hid e38
        clear HM5 hM6 hM7 hx6 e38 hcs7 c1026 c1032 c1037 c1038' lt5 f5 em z5
        have HM8 := HM7
        clear HM7
        obtain ⟨fn, q1⟩ := HM8.out.hS.pfn
        obtain ⟨o, q2⟩ := HM8.out.hS.po
        obtain ⟨l, q3⟩ := HM8.out.hS.pl
        obtain ⟨c, q4⟩ := HM8.out.hS.pc
        have d0 := (HM8.out.hB.cell 1040).trans q1
        have d1 := (HM8.out.hB.cell 1041).trans q2
        have d2 := (HM8.out.hB.cell 1042).trans q3
        have d3 := (HM8.out.hB.cell 1043).trans q4
        have lt8 := HM8.out.hB.lt
        have r0 := HM8.out.hR.cell
        have rf := HM8.out.hR.free
        have rl := HM8.out.hR.lt
        simp only [zt] at r0
        clear q1 q2 q3 q4
        go_wp2_with fail
        all_goals
          rw [Exit.noGoto_ret]
          have hB6 := (((((HM8.out.hR.set 0 (.int .i64 ty)).set 1 (.string fn)).set 2 (.int .i64 o)).set 3 (.int .i64 l)).set 4 (.int .i64 c)).set 5 (.string (cut T j m))
          rw [HTY.out] at hB6
          have hat : ∀ W, Ex (On w.heap.size) w6 W → At b T z m W := fun W hx => ⟨cs7, _, HM8.out.hB.ex hx hbw, by rw [← HM1.out]; exact HM8.out.hS, HE38.out, HM8.out.hz⟩
          have hx6 : ∀ v0 v1 v2 v3 v4 v5, Ex (On w.heap.size) w6 ((((((w6.setCell ⟨w.heap.size, 0, none⟩ v0).setCell ⟨w.heap.size, 1, none⟩ v1).setCell ⟨w.heap.size, 2, none⟩ v2).setCell ⟨w.heap.size, 3, none⟩ v3).setCell ⟨w.heap.size, 4, none⟩ v4).setCell ⟨w.heap.size, 5, none⟩ v5) :=
            fun _ _ _ _ _ _ => ((((((Ex.refl _ _).own _ _).own _ _).own _ _).own _ _).own _ _).own _ _
          refine tok_done (fn := fn) (o := o) (l := l) (c := c) (r := w.heap.size) rfl (by simpa [zt, HTY.out] using hB6) ((HM8.out.ex).trans' (hx6 _ _ _ _ _ _) (fun k hk h => ?_)) (hat _ (hx6 _ _ _ _ _ _))
          unfold On at h
          omega

end Go.Proofs.YtbepocojafbbbaaGreatDoor
