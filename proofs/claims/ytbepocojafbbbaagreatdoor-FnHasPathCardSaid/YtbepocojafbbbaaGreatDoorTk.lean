/- The scanner: the first token. -/
import Derived.Test.YtbepocojafbbbaaGreatDoorTj
namespace Go.Proofs.YtbepocojafbbbaaGreatDoor
open Go.RowKit
set_option maxRecDepth 100000

/-- What 'nextToken' answers at the beginning. -/
def TokF (w : World) (b bb : Nat) (T : List UInt8) (z : Value) (m : Nat) (ty : Int) (tx : ByteArray) (rb : Array Value) (e' : Ending) (w' : World) : Prop :=
  ∃ t : TokC, e' = .returned t.val ∧ t.ty = ty ∧ t.tx = tx ∧ Ex (Tw b bb) w w' ∧ At b T z m w' ∧ Blk w' bb rb 239

theorem tok_done2 {w W : World} {b bb r : Nat} {T : List UInt8} {z : Value} {m : Nat} {ty o l c : Int} {fn tx : ByteArray} {rb tmps : Array Value} (h2 : tmps.getD 2 undef = .pointer (some ⟨r, 0, none⟩))
    (hB : Blk W r #[.int .i64 ty, .string fn, .int .i64 o, .int .i64 l, .int .i64 c, .string tx] 154) (hE : Ex (Tw b bb) w W) (hAt : At b T z m W) (hR : Blk W bb rb 239) :
    bodyPost Tryz.prog Tryz.f90 (TokF w b bb T z m ty tx rb) Exit.ret ⟨tmps, []⟩ W := by
  have c0 := hB.cell
  have h2' : tmps[2]?.getD undef = .pointer (some ⟨r, 0, none⟩) := by simpa using h2
  refine bodyPost_ret (v := (TokC.mk ty fn o l c tx).val) ?_ rfl ⟨⟨ty, fn, o, l, c, tx⟩, rfl, rfl, rfl, hE, hAt, hR⟩
  simp [results, Tryz.results90, go_sem, TokC.val, h2', c0]

set_option maxHeartbeats 2000000 in
theorem tok_first (w : World) (b bb tb c : Nat) (cs : Array Value) (T : List UInt8) (m : Nat) (z : Value) (hzz : z = .iface 223 (.pointer (some ⟨bb, 0, none⟩))) (hB : Blk w b cs 241) (hS : Sa cs) (h0 : cs[0]? = some (.iface 223 (.pointer (some ⟨bb, 0, none⟩)))) (hch : cs[1038]? = some (.int .i32 (-2)))
    (hR : Blk w bb #[.slice (some ⟨tb, 0, none⟩) T.length c, .int .i64 0, .int .i8 0] 239) (hne : b ≠ bb) (hnt : tb ≠ bb)
    (ht : ∀ i, i < T.length → w.cell? ⟨tb, i, none⟩ = some (.int .u8 (T.getD i 0).toNat)) (hn : tb ≠ b) (hn4 : 4 ≤ T.length) (hsh : T.length ≤ 1000) (hA : Ascii T) (hi : whiteB (chr T 0) = false)
    (h1 : 0 < m) (h2 : m < T.length) (h3 : identB (chr T 0) true = true) (h4 : ∀ j, 0 < j → j < m → identB (chr T j) false = true) (h5 : identB (chr T m) false = false) (ty : Int) (hty : ty = if reserved (cut T 0 m) then 3 else 1) :
    Calls Tryz.prog 90 #[.pointer (some ⟨b, 0, none⟩)] w (TokF w b bb T z m ty (cut T 0 m) #[.slice (some ⟨tb, 0, none⟩) T.length c, .int .i64 T.length, .int .i8 (-1)]) := by
  have HTY := Lib.hid hty
  have c1038 := (hB.cell 1038).trans hch
  have lt := hB.lt
  have f := hB.free
  have HI := Lib.hid hi
  have H3 := Lib.hid h3
  have H4 := Lib.hid h4
  have H5 := Lib.hid h5
  have hbw : b ≠ w.heap.size := by omega
  have hbbr : ¬ On w.heap.size bb := by have := hR.lt; unfold On; omega
  have hbbb : ¬ On b bb := fun h => hne h.symm
  have hE : ∀ o, Ex No w (w.alloc o) := fun _ => (Ex.refl _ _).alloc _
  have HNX := Lib.hid (fun o => next_first (w.alloc o) b bb tb c cs T (hB.ex (hE o) no_) hS h0 (hR.ex (hE o) no_) hne hnt (fun i hi => (hE o).got (ht i hi) no_) hn hn4 hsh hA)
  have HZ := Lib.hid (And.intro h0 hzz)
  clear hB hS h0 hch hR ht hi h3 h4 h5 hty hE hne hnt hn hzz
  go_enter Tryz.func90, Tryz.ntmps90
  go_wp2_with fail
  go_step3
  go_wp2_with fail
  refine (HNX.out _).mono ?_
  rintro e' w1 ⟨rfl, hx1, cs', hB1, hS1, e1, e0, hR1⟩
  have hc38 : ∃ v, cs'[1038]? = some v := ⟨_, Array.getElem?_eq_getElem (by have := hS1.size; omega)⟩
  obtain ⟨vc, hc38⟩ := hc38
  have d1038 := (hB1.cell 1038).trans hc38
  have d1036 := (hB1.cell 1036).trans hS1.tp
  obtain ⟨pl, q7⟩ := hS1.pl
  have d1042 := (hB1.cell 1042).trans q7
  have l1 := hB1.lt
  have f1 := hB1.free
  have hr1 : Blk w1 w.heap.size zt 154 := (Blk.new w zt 154).ex hx1 (fun h => by rcases h with h | h; exact hbw h.symm; exact hbbr h.symm)
  have HX1 := Lib.hid (((Ex.refl (Tw b bb) w).alloc _).trans hx1)
  have HRB := Lib.hid hR1
  have HB1' := Lib.hid hB1
  have HS1' := Lib.hid hS1
  have HR1' := Lib.hid hr1
  have HZ0 := Lib.hid (e0.trans HZ.out.1)
  clear HNX hx1 hB1 hS1 e1 e0 hR1 hc38 q7 hr1 c1038 lt f
  go_wp2_with fail
  go_step3
  go_wp2_with fail
  refine wp_loop_once ?_
  go_wp2_with (go_at_call 123; refine (white_spec _ _).mono ?_; rintro e' w' ⟨rfl, rfl⟩; rw [HI.out])
  have HX := Lib.hid (show Ex (On b) w1 (((w1.setCell ⟨b, 1038, none⟩ (.int .i32 (chr T 0))).setCell ⟨b, 1036, none⟩ (.int .i64 (-1))).setCell ⟨b, 1042, none⟩ (.int .i64 0)) from (((Ex.refl _ _).own _ _).own _ _).own _ _)
  obtain ⟨cs1, hcs1⟩ : ∃ x, x = ((cs'.setIfInBounds 1038 (.int .i32 (chr T 0))).setIfInBounds 1036 (.int .i64 (-1))).setIfInBounds 1042 (.int .i64 0) := ⟨_, rfl⟩
  have HB1 := Lib.hid (show Blk (((w1.setCell ⟨b, 1038, none⟩ (.int .i32 (chr T 0))).setCell ⟨b, 1036, none⟩ (.int .i64 (-1))).setCell ⟨b, 1042, none⟩ (.int .i64 0)) b cs1 241 from by rw [hcs1]; exact ((HB1'.out.set _ _).set _ _).set _ _)
  have HS1 := Lib.hid (show Sc cs1 T (0 + 1) 1 (-1) from by rw [hcs1]; exact ((HS1'.out.setCh _).setTp _).setPl _)
  have HR1 := Lib.hid (show Blk (((w1.setCell ⟨b, 1038, none⟩ (.int .i32 (chr T 0))).setCell ⟨b, 1036, none⟩ (.int .i64 (-1))).setCell ⟨b, 1042, none⟩ (.int .i64 0)) w.heap.size zt 154 from ((HR1'.out.set_other _ _ hbw).set_other _ _ hbw).set_other _ _ hbw)
  have HZ1 := Lib.hid (show cs1[0]? = some z from by rw [hcs1, HZ.out.2]; exact set_ne (set_ne (set_ne HZ0.out (by omega)) (by omega)) (by omega))
  clear hcs1 d1036 d1038 d1042 f1 l1
  refine (reset_spec _ b 1033 cs1 241 none 0 0 _ _ HB1.out HS1.out.tb HS1.out.to HS1.out.tr).mono ?_
  rintro e' w2 ⟨rfl, hx2, hB2⟩
  rw [set_same HS1.out.tb, set_same HS1.out.to, set_same HS1.out.tr] at hB2
  have hX2 : Ex (On b) w1 w2 := HX.out.trans hx2
  have hR2 := HR1.out.ex hx2 (fun h => hbw h.symm)
  obtain ⟨p, hp⟩ : ∃ p, p = 0 + 1 := ⟨_, rfl⟩
  have hS2 : Sc cs1 T p 1 (-1) := by rw [hp]; exact HS1.out
  have HP := Lib.hid hp
  have hM2 : M0 w1 w.heap.size b T p (-1) z cs1 w2 := ⟨hX2, hB2, hS2, hR2, HZ1.out⟩
  have HM2 := Lib.hid hM2
  clear HX HR1 HB1 HS1 hx2 hB2 hX2 hR2 hp hS2 hM2
  have c1026 := (HM2.out.hB.cell 1026).trans HM2.out.hS.pos
  have c1032 := (HM2.out.hB.cell 1032).trans HM2.out.hS.lc
  have c1036 := (HM2.out.hB.cell 1036).trans HM2.out.hS.tp
  have lt2 := HM2.out.hB.lt
  have f2 := HM2.out.hB.free
  have hsh := HM2.out.hS.short
  have hp1 : (p : Int) ≤ 1000 := by have := HP.out; omega
  have hp0 : (1 : Int) ≤ p := by have := HP.out; omega
  go_wp2_with fail
  go_still_tail 12, (by kernel_rfl)
  go_wp2_with fail
  refine ((HM2.out.set hbw 1036 (.int .i64 ((p : Int) - 1)) (by omega) (HM2.out.hS.setTp _)).go ((Ex.refl _ _).drew)).next ?_
  clear HM2 c1026 c1032 c1036 lt2 f2
  intro W3 HM3
  obtain ⟨cb, q0⟩ := HM3.out.hS.base
  obtain ⟨po, q1⟩ := HM3.out.hS.po
  have c1028 := (HM3.out.hB.cell 1028).trans q0
  have c1036 := (HM3.out.hB.cell 1036).trans HM3.out.hS.tp
  have c1041 := (HM3.out.hB.cell 1041).trans q1
  have lt3 := HM3.out.hB.lt
  have f3 := HM3.out.hB.free
  obtain ⟨cl, q2⟩ := HM3.out.hS.line
  obtain ⟨cc, q3⟩ := HM3.out.hS.column
  obtain ⟨ll, q4⟩ := HM3.out.hS.lline
  obtain ⟨pl', q5⟩ := HM3.out.hS.pl
  obtain ⟨pc', q6⟩ := HM3.out.hS.pc
  have c1029 := (HM3.out.hB.cell 1029).trans q2
  have c1030 := (HM3.out.hB.cell 1030).trans q3
  have c1031 := (HM3.out.hB.cell 1031).trans q4
  have d1042 := (HM3.out.hB.cell 1042).trans q5
  have c1043 := (HM3.out.hB.cell 1043).trans q6
  have hm1 : ((chr T 0 : Int) == -1) = false := by simp
  clear q0 q1 q2 q3 q4 q5 q6
  go_still_tail 13, (by kernel_rfl)
  go_wp2_with fail
  all_goals
    refine (identRune_spec _ _ _).mono ?_
    rintro e' w' ⟨rfl, rfl⟩
    rw [H3.out]
    go_wp2_with fail
    have hM4 := fun (x y u : Int) => ((((HM3.out.set hbw 1041 (.int .i64 x) (by omega) (HM3.out.hS.setPo _)).set hbw 1042 (.int .i64 y) (by omega) ((HM3.out.hS.setPo _).setPl _)).set hbw 1043 (.int .i64 u) (by omega) (((HM3.out.hS.setPo _).setPl _).setPc _)).go ((Ex.refl _ _).drew))
    refine (scanIdent_spec _ b _ T p m 1 _ (hM4 _ _ _).hB (hM4 _ _ _).hS hA (by have := HP.out; omega) h2 (fun i a b => H4.out i (by have := HP.out; omega) b) H5.out).mono ?_
    rintro e' w5 ⟨rfl, h5⟩
    obtain ⟨cs5, hM5⟩ := (hM4 _ _ _).stands hbw h5
    have HM5 := Lib.hid hM5
    clear hM4 hM5 h5 HM3 c1028 c1029 c1030 c1031 c1036 c1041 d1042 c1043 lt3 f3
    obtain ⟨m1, hm1⟩ : ∃ x, x = m + 1 := ⟨_, rfl⟩
    have ej : (p : Int) - 1 = (0 : Nat) := by have := HP.out; omega
    rw [← hm1, ej] at HM5
    have HM1 := Lib.hid hm1
    clear hm1 ej
    have c1026 := (HM5.out.hB.cell 1026).trans HM5.out.hS.pos
    have c1032 := (HM5.out.hB.cell 1032).trans HM5.out.hS.lc
    obtain ⟨te, q1⟩ := HM5.out.hS.te
    have c1037 := (HM5.out.hB.cell 1037).trans q1
    have lt5 := HM5.out.hB.lt
    have f5 := HM5.out.hB.free
    have hm1 : (m1 : Int) ≤ 1000 := by have := HM1.out; omega
    have hm0 : (1 : Int) ≤ m1 := by have := HM1.out; omega
    have hc38 : ∃ v, cs5[1038]? = some v := ⟨_, Array.getElem?_eq_getElem (by have := HM5.out.hS.size; omega)⟩
    obtain ⟨vc, hc38⟩ := hc38
    have c1038' := (HM5.out.hB.cell 1038).trans hc38
    clear q1 hp1 hp0 hc38
    go_wp2_with fail
    go_still_tail 12, (by kernel_rfl)
    go_wp2_with fail
    have hM6 := (((HM5.out.set hbw 1037 (.int .i64 ((m1 : Int) - 1)) (by omega) (HM5.out.hS.setTe _)).set hbw 1038 (.int .i32 (chr T m)) (by omega) ((HM5.out.hS.setTe _).setCh _)).go ((Ex.refl _ _).drew))
    have z5 := HM5.out.hS.size
    have em : (m1 : Int) - 1 = m := by have := HM1.out; omega
    refine (tokText_spec _ b _ T m1 0 m 1 hM6.hB hM6.hS (by rw [em]; exact set_ne (set_at z5 (by omega)) (by omega)) (by omega) (by omega)).mono ?_
    rintro e' w6 ⟨rfl, hx6⟩
    have hM7 := hM6.go hx6
    have e38 : ((cs5.setIfInBounds 1037 (.int .i64 ((m1 : Int) - 1))).setIfInBounds 1038 (.int .i32 (chr T m)))[1038]? = some (.int .i32 (chr T m)) := set_at (by simpa using z5) (by omega)
    obtain ⟨cs7, hcs7⟩ : ∃ x, x = ((cs5.setIfInBounds 1037 (.int .i64 ((m1 : Int) - 1))).setIfInBounds 1038 (.int .i32 (chr T m))) := ⟨_, rfl⟩
    rw [← hcs7] at hM7 e38
    have HM7 := Lib.hid hM7
    have HE38 := Lib.hid e38
    clear HM5 hM6 hM7 hx6 e38 hcs7 c1026 c1032 c1037 c1038' lt5 f5 em z5
    go_wp2_with fail
    refine (reserved_spec _ _).mono ?_
    rintro e' w7 ⟨rfl, hx7⟩
    have HM8 := Lib.hid (HM7.out.go hx7)
    clear HM7 hx7
    obtain ⟨fn, q1⟩ := HM8.out.hS.pfn
    obtain ⟨o, q2⟩ := HM8.out.hS.po
    obtain ⟨l, q3⟩ := HM8.out.hS.pl
    obtain ⟨c, q4⟩ := HM8.out.hS.pc
    have d0 := (HM8.out.hB.cell 1040).trans q1
    have d1 := (HM8.out.hB.cell 1041).trans q2
    have d2 := (HM8.out.hB.cell 1042).trans q3
    have d3 := (HM8.out.hB.cell 1043).trans q4
    have lt8 := HM8.out.hB.lt
    have r0 := HM8.out.hR.cell
    have rf := HM8.out.hR.free
    have rl := HM8.out.hR.lt
    simp only [zt] at r0
    clear q1 q2 q3 q4
    cases hres : reserved (cut T 0 m)
    all_goals
      go_wp2_with fail
      rw [Exit.noGoto_ret]
      have hB6 := (((((HM8.out.hR.set 0 (.int .i64 ty)).set 1 (.string fn)).set 2 (.int .i64 o)).set 3 (.int .i64 l)).set 4 (.int .i64 c)).set 5 (.string (cut T 0 m))
      rw [HTY.out, hres] at hB6
      have hat : ∀ W, Ex (On w.heap.size) w7 W → At b T z m W := fun W hx => ⟨cs7, _, HM8.out.hB.ex hx hbw, by rw [← HM1.out]; exact HM8.out.hS, HE38.out, HM8.out.hz⟩
      have hx6 : ∀ v0 v1 v2 v3 v4 v5, Ex (On w.heap.size) w7 ((((((w7.setCell ⟨w.heap.size, 0, none⟩ v0).setCell ⟨w.heap.size, 1, none⟩ v1).setCell ⟨w.heap.size, 2, none⟩ v2).setCell ⟨w.heap.size, 3, none⟩ v3).setCell ⟨w.heap.size, 4, none⟩ v4).setCell ⟨w.heap.size, 5, none⟩ v5) :=
        fun _ _ _ _ _ _ => ((((((Ex.refl _ _).own _ _).own _ _).own _ _).own _ _).own _ _).own _ _
      refine tok_done2 (fn := fn) (o := o) (l := l) (c := c) (r := w.heap.size) rfl (by simpa [zt, HTY.out, hres] using hB6) ?_ (hat _ (hx6 _ _ _ _ _ _)) ?_
      · have q1 := HX1.out.trans' HM8.out.ex (fun k hk h => Or.inl h)
        exact q1.trans' (hx6 _ _ _ _ _ _) (fun k hk h => by unfold On at h; omega)
      · exact (HRB.out.ex HM8.out.ex hbbb).ex (hx6 _ _ _ _ _ _) hbbr

end Go.Proofs.YtbepocojafbbbaaGreatDoor
