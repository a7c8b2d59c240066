/- The scanner: the last token, and the end. -/
import Derived.Test.YtbepocojafbbbaaGreatDoorTl
namespace Go.Proofs.YtbepocojafbbbaaGreatDoor
open Go.RowKit
set_option maxRecDepth 100000

theorem Sc.cast {cs : Array Value} {T : List UInt8} {p : Nat} {lc tp tp' : Int} (h : Sc cs T p lc tp) (e : tp = tp') : Sc cs T p lc tp' := e ▸ h
theorem Sz.setTe {cs : Array Value} {g : Nat} (h : Sz cs g) (q : Int) : Sz (cs.setIfInBounds 1037 (.int .i64 q)) g :=
  ⟨by simpa using h.size, set_ne h.pos (by omega), set_ne h.fin (by omega), h.base.imp fun _ k => set_ne k (by omega), h.line.imp fun _ k => set_ne k (by omega), h.column.imp fun _ k => set_ne k (by omega),
   h.lline.imp fun _ k => set_ne k (by omega), set_ne h.lc (by omega), set_ne h.tb (by omega), set_ne h.to (by omega), set_ne h.tr (by omega), set_ne h.tp (by omega), ⟨q, set_at h.size (by omega)⟩, set_ne h.err (by omega),
   h.pfn.imp fun _ k => set_ne k (by omega), h.po.imp fun _ k => set_ne k (by omega), h.pl.imp fun _ k => set_ne k (by omega), h.pc.imp fun _ k => set_ne k (by omega)⟩
theorem Sz.setCh {cs : Array Value} {g : Nat} (h : Sz cs g) (v : Value) : Sz (cs.setIfInBounds 1038 v) g :=
  ⟨by simpa using h.size, set_ne h.pos (by omega), set_ne h.fin (by omega), h.base.imp fun _ k => set_ne k (by omega), h.line.imp fun _ k => set_ne k (by omega), h.column.imp fun _ k => set_ne k (by omega),
   h.lline.imp fun _ k => set_ne k (by omega), set_ne h.lc (by omega), set_ne h.tb (by omega), set_ne h.to (by omega), set_ne h.tr (by omega), set_ne h.tp (by omega), h.te.imp fun _ k => set_ne k (by omega), set_ne h.err (by omega),
   h.pfn.imp fun _ k => set_ne k (by omega), h.po.imp fun _ k => set_ne k (by omega), h.pl.imp fun _ k => set_ne k (by omega), h.pc.imp fun _ k => set_ne k (by omega)⟩

/-- What 'nextToken' answers at the last sign. -/
def TokE (w : World) (b bb : Nat) (ty : Int) (e' : Ending) (w' : World) : Prop :=
  ∃ t : TokC, e' = .returned t.val ∧ t.ty = ty ∧ t.tx = ⟨#[59]⟩ ∧ Ex (Tw b bb) w w' ∧ ∃ cs' g, Blk w' b cs' 241 ∧ Sz cs' g ∧ cs'[1038]? = some (.int .i32 (-1))

theorem tok_done3 {w W : World} {b bb r : Nat} {ty o l c : Int} {fn : ByteArray} {tmps : Array Value} (h2 : tmps.getD 2 undef = .pointer (some ⟨r, 0, none⟩))
    (hB : Blk W r #[.int .i64 ty, .string fn, .int .i64 o, .int .i64 l, .int .i64 c, .string ⟨#[59]⟩] 154) (hE : Ex (Tw b bb) w W) (hAt : ∃ cs' g, Blk W b cs' 241 ∧ Sz cs' g ∧ cs'[1038]? = some (.int .i32 (-1))) :
    bodyPost Tryz.prog Tryz.f90 (TokE w b bb ty) Exit.ret ⟨tmps, []⟩ W := by
  have c0 := hB.cell
  have h2' : tmps[2]?.getD undef = .pointer (some ⟨r, 0, none⟩) := by simpa using h2
  refine bodyPost_ret (v := (TokC.mk ty fn o l c ⟨#[59]⟩).val) ?_ rfl ⟨⟨ty, fn, o, l, c, ⟨#[59]⟩⟩, rfl, rfl, rfl, hE, hAt⟩
  simp [results, Tryz.results90, go_sem, TokC.val, h2', c0]

set_option maxHeartbeats 2000000 in
theorem tok_last (w : World) (b : Nat) (T : List UInt8) (z : Value) (q i : Nat) (h : At b T z q w) (hA : Ascii T) (hqi : q ≤ i) (hw : ∀ j, q ≤ j → j < i → whiteB (chr T j) = true) (hi : whiteB (chr T i) = false)
    (n bb tb c : Nat) (ad : Addr) (hn : T.length = n) (hni : n = i + 1) (h3 : chr T i = 59) (hz : z = .iface 223 (.pointer (some ⟨bb, 0, none⟩))) (hR : Blk w bb #[.slice (some ⟨tb, 0, none⟩) n c, .int .i64 n, .int .i8 (-1)] 239)
    (hG : w.cell? ⟨0, 0, none⟩ = some (.iface 341 (.pointer (some ad)))) (hne : b ≠ bb) (hb0 : b ≠ 0) (hbb : bb ≠ 0) (ty : Int) (hty : ty = 5) :
    Calls Tryz.prog 90 #[.pointer (some ⟨b, 0, none⟩)] w (TokE w b bb ty) := by
  have HRG := Lib.hid (And.intro hz (And.intro hR hG))
  have HNI := Lib.hid (And.intro hn hni)
  have hbbr : ¬ On w.heap.size bb := by have := hR.lt; unfold On; omega
  have hsh0 : T.length ≤ 1000 := by obtain ⟨_, _, _, k, _⟩ := h.cells; exact k.short
  have him : i < T.length := by omega
  have hz' := hz
  clear hz hR hG hn hni
  have HTY := Lib.hid hty
  obtain ⟨cs, tp, hB, hS, hch, hz⟩ := h.cells
  have c1038 := (hB.cell 1038).trans hch
  have c1036 := (hB.cell 1036).trans hS.tp
  obtain ⟨pl, q7⟩ := hS.pl
  have c1042 := (hB.cell 1042).trans q7
  have lt := hB.lt
  have f := hB.free
  have hm2 : ((chr T q : Int) == -2) = false := by simp
  have HB := Lib.hid hB
  have HS := Lib.hid hS
  have HZ := Lib.hid hz
  have HW := Lib.hid hw
  have HI := Lib.hid hi
  have hid : identB (chr T i) true = false := by rw [h3]; rfl
  have hdg : digitB (chr T i) = false := by rw [h3]; rfl
  have k34 : ((chr T i : Int) == 34) = false := by rw [h3]; rfl
  have k47 : ((chr T i : Int) == 47) = false := by rw [h3]; rfl
  have H3 := Lib.hid (And.intro hid (And.intro hdg (And.intro k34 (And.intro k47 h3))))
  clear hid hdg k34 k47
  have hbw : b ≠ w.heap.size := by omega
  clear h hB hS hch hz hw hi h3 q7 hty
  go_enter Tryz.func90, Tryz.ntmps90
  go_wp2_with fail
  go_step3
  go_wp2_with fail
  go_step3
  go_wp2_with fail
  go_loopw [3] (fun v wr => ∃ j, q ≤ j ∧ j ≤ i ∧ v = .int .i32 (chr T j) ∧ Stands w wr b cs T (j + 1) 1 (-1) ∧ Blk wr w.heap.size zt 154) (fun v wr => match wr.cell? ⟨b, 1026, none⟩ with | some v => i + 1 - (intOf v).toNat | none => 0)
  case atStart =>
    refine ⟨q, Nat.le_refl _, hqi, rfl, ⟨(((Ex.refl _ _).own _ _).own _ _).alloc _, (cs.setIfInBounds 1036 (.int .i64 (-1))).setIfInBounds 1042 (.int .i64 0), ((HB.out.set 1036 _).set 1042 _).ex ((Ex.refl No _).alloc _) no_, (HS.out.setTp _).setPl _, ?_, ?_⟩, ?_⟩
    · (repeat rw [Array.getElem?_setIfInBounds_ne (by omega)])
    · (repeat rw [Array.getElem?_setIfInBounds_ne (by omega)])
    · have := Blk.new ((w.setCell ⟨b, 1036, none⟩ (.int .i64 (-1))).setCell ⟨b, 1042, none⟩ (.int .i64 0)) zt 154
      simpa [zt] using this
  case round =>
    obtain ⟨j, hqj, hji, rfl, ⟨hEx, cs1, hB1, hS1, e1, e2⟩, hR1⟩ := hrel
    have HS1 := Lib.hid hS1
    have HB1 := Lib.hid hB1
    have HX := Lib.hid hEx
    have HR1 := Lib.hid hR1
    have HE1 := Lib.hid (And.intro e1 e2)
    clear hEx hB1 hS1 hR1 e1 e2
    by_cases hlt : j < i
    · have hid := HW.out j hqj hlt
      go_wp2_with (go_at_call 123; refine (white_spec _ _).mono ?_; rintro e' w' ⟨rfl, rfl⟩; rw [hid])
      refine (next_at _ b cs1 T (j + 1) 1 (-1) HB1.out HS1.out (by omega) hA).mono ?_
      rintro e' w2 ⟨rfl, h2⟩
      have HH := Lib.hid h2
      clear h2
      go_wp2
      go_roundw
      case rel => exact ⟨j + 1, by omega, by omega, rfl, HH.out.trans HX.out HE1.out.1 HE1.out.2, HR1.out.ex HH.out.1 (fun h => hbw h.symm)⟩
      case measure =>
        obtain ⟨_, cs2, hB2, hS2, _⟩ := HH.out
        rw [(HB1.out.cell 1026).trans HS1.out.pos, (hB2.cell 1026).trans hS2.pos]
        simp only [intOf]
        omega
    · have : j = i := by omega
      subst this
      go_wp2_with (go_at_call 123; refine (white_spec _ _).mono ?_; rintro e' w' ⟨rfl, rfl⟩; rw [HI.out])
      refine (reset_spec _ b 1033 cs1 241 none 0 0 _ _ HB1.out HS1.out.tb HS1.out.to HS1.out.tr).mono ?_
      rintro e' w2 ⟨rfl, hx2, hB2⟩
      rw [set_same HS1.out.tb, set_same HS1.out.to, set_same HS1.out.tr] at hB2
      have hX2 : Ex (On b) w w2 := HX.out.trans hx2
      have hR2 := HR1.out.ex hx2 (fun h => hbw h.symm)
      obtain ⟨p, hp⟩ : ∃ p, p = j + 1 := ⟨_, rfl⟩
      have hS2 : Sc cs1 T p 1 (-1) := by rw [hp]; exact HS1.out
      have HP := Lib.hid hp
      have hM2 : M0 w w.heap.size b T p (-1) z cs1 w2 := ⟨hX2, hB2, hS2, hR2, HE1.out.2.trans HZ.out⟩
      have HM2 := Lib.hid hM2
      clear HX HR1 HB1 HS1 hx2 hB2 hX2 hR2 hp hS2 hM2
      have c1026 := (HM2.out.hB.cell 1026).trans HM2.out.hS.pos
      have c1032 := (HM2.out.hB.cell 1032).trans HM2.out.hS.lc
      have c1036 := (HM2.out.hB.cell 1036).trans HM2.out.hS.tp
      have lt2 := HM2.out.hB.lt
      have f2 := HM2.out.hB.free
      have hsh := HM2.out.hS.short
      have hp1 : (p : Int) ≤ 1000 := by have := HP.out; omega
      have hp0 : (1 : Int) ≤ p := by have := HP.out; omega
      go_wp2_with fail
      go_still_tail 12, (by kernel_rfl)
      go_wp2_with fail
      refine ((HM2.out.set hbw 1036 (.int .i64 ((p : Int) - 1)) (by omega) (HM2.out.hS.setTp _)).go ((Ex.refl _ _).drew)).next ?_
      clear HM2 c1026 c1032 c1036 lt2 f2
      intro W3 HM3
      obtain ⟨cb, q0⟩ := HM3.out.hS.base
      obtain ⟨po, q1⟩ := HM3.out.hS.po
      have c1028 := (HM3.out.hB.cell 1028).trans q0
      have c1036 := (HM3.out.hB.cell 1036).trans HM3.out.hS.tp
      have c1041 := (HM3.out.hB.cell 1041).trans q1
      have lt3 := HM3.out.hB.lt
      have f3 := HM3.out.hB.free
      obtain ⟨cl, q2⟩ := HM3.out.hS.line
      obtain ⟨cc, q3⟩ := HM3.out.hS.column
      obtain ⟨ll, q4⟩ := HM3.out.hS.lline
      obtain ⟨pl', q5⟩ := HM3.out.hS.pl
      obtain ⟨pc', q6⟩ := HM3.out.hS.pc
      have c1029 := (HM3.out.hB.cell 1029).trans q2
      have c1030 := (HM3.out.hB.cell 1030).trans q3
      have c1031 := (HM3.out.hB.cell 1031).trans q4
      have d1042 := (HM3.out.hB.cell 1042).trans q5
      have c1043 := (HM3.out.hB.cell 1043).trans q6
      have hm1 : ((chr T j : Int) == -1) = false := by simp
      clear q0 q1 q2 q3 q4 q5 q6
      go_still_tail 13, (by kernel_rfl)
      go_wp2_with fail
      all_goals
        refine (identRune_spec _ _ _).mono ?_
        rintro e' w' ⟨rfl, rfl⟩
        rw [H3.out.1]
        have k34 := H3.out.2.2.1
        have k47 := H3.out.2.2.2.1
        go_wp2_with (go_at_call 127; refine (decimal_spec _ _).mono ?_; rintro e' w' ⟨rfl, rfl⟩; rw [H3.out.2.1])
        clear k34 k47
        have hM4 := fun (x y u : Int) => ((((HM3.out.set hbw 1041 (.int .i64 x) (by omega) (HM3.out.hS.setPo _)).set hbw 1042 (.int .i64 y) (by omega) ((HM3.out.hS.setPo _).setPl _)).set hbw 1043 (.int .i64 u) (by omega) (((HM3.out.hS.setPo _).setPl _).setPc _)).go ((Ex.refl _ _).drew))
        have epi : (p : Int) - 1 = ((j : Nat) : Int) := by have := HP.out; omega
        have ens : n = p := by have := HP.out; have := HNI.out.2; omega
        have hR4 : ∀ W, Ex (On b) w W → Blk W bb #[.slice (some ⟨tb, 0, none⟩) p c, .int .i64 p, .int .i8 (-1)] 239 := fun W hx => by
          have := HRG.out.2.1.ex hx (fun h => hne h.symm)
          rwa [ens] at this
        refine (next_end _ b bb tb c j p ad _ T (hM4 _ _ _).hB (by have := HNI.out.1; omega) (by have := HP.out; omega) ((hM4 _ _ _).hS.cast epi) ((hM4 _ _ _).hz.trans (congrArg some hz'))
          (hR4 _ (hM4 _ _ _).ex) ((hM4 _ _ _).ex.got HRG.out.2.2 (fun h => hb0 h.symm)) hne hb0 hbb).mono ?_
        rintro e' w4 ⟨rfl, hx4, cs5, g, hB5, hS5, hg5, hG5, e38⟩
        have hgb : g ≠ b := by have := (hM4 0 0 0).hB.lt; simp at this hg5; omega
        have HX5 := Lib.hid (((hM4 _ _ _).ex.mono (S' := Tw b bb) (fun k h => Or.inl h)).trans hx4)
        have HR5 := Lib.hid ((hM4 _ _ _).hR.ex hx4 (fun h => by rcases h with h | h; exact hbw h.symm; exact hbbr h.symm))
        have HB5 := Lib.hid hB5
        have HS5 := Lib.hid hS5
        have HG5 := Lib.hid hG5
        clear hM4 hx4 hB5 hS5 hg5 hG5 e38 HM3 c1028 c1029 c1030 c1031 c1036 c1041 d1042 c1043 lt3 f3 epi ens hR4
        go_wp2_with fail
        refine (scanOp1 _ b _ _ (by have := H3.out.2.2.2.2; omega)).mono ?_
        rintro e' w5 ⟨rfl, rfl⟩
        have c1026 := (HB5.out.cell 1026).trans HS5.out.pos
        have c1032 := (HB5.out.cell 1032).trans HS5.out.lc
        obtain ⟨te, q1⟩ := HS5.out.te
        have c1037 := (HB5.out.cell 1037).trans q1
        have lt5 := HB5.out.lt
        have f5 := HB5.out.free
        have hc38 : ∃ v, cs5[1038]? = some v := ⟨_, Array.getElem?_eq_getElem (by have := HS5.out.size; omega)⟩
        obtain ⟨vc, hc38⟩ := hc38
        have c1038' := (HB5.out.cell 1038).trans hc38
        have hw0 : IntKind.i64.wrap ((0 : Int) - 0) = 0 := by kernel_rfl
        clear q1 hp1 hp0 hc38
        go_wp2_with fail
        go_still_tail 12, (by kernel_rfl)
        go_wp2_with fail
        have z5 := HS5.out.size
        have hB6 := ((HB5.out.set 1037 (.int .i64 0)).set 1038 (.int .i32 (-1))).ex ((Ex.refl No _).drew) no_
        have hS6 := (HS5.out.setTe 0).setCh (.int .i32 (-1))
        have hx6 := (((HX5.out.setCell ⟨b, 1037, none⟩ (.int .i64 0) (Or.inl (Or.inl rfl))).setCell ⟨b, 1038, none⟩ (.int .i32 (-1)) (Or.inl (Or.inl rfl)))).drew
        have hR6 := ((HR5.out.set_other ⟨b, 1037, none⟩ (.int .i64 0) hbw).set_other ⟨b, 1038, none⟩ (.int .i32 (-1)) hbw).ex ((Ex.refl No _).drew) no_
        have hG6 := ((HG5.out.set_other ⟨b, 1037, none⟩ (.int .i64 0) (fun h => hgb h.symm)).set_other ⟨b, 1038, none⟩ (.int .i32 (-1)) (fun h => hgb h.symm)).ex ((Ex.refl No _).drew) no_
        refine (tokText_end _ b g (T.getD j 0) _ hB6 hS6 (set_ne (set_at z5 (by omega)) (by omega)) hG6 hgb).mono ?_
        rintro e' w6 ⟨rfl, hx7, hB7⟩
        have ex : T.getD j 0 = 59 := by
          have h := H3.out.2.2.2.2
          unfold chr at h
          exact UInt8.toNat_inj.1 h
        rw [ex]
        have e38 : ((cs5.setIfInBounds 1037 (.int .i64 0)).setIfInBounds 1038 (.int .i32 (-1)))[1038]? = some (.int .i32 (-1)) := set_at (by simpa using z5) (by omega)
        obtain ⟨cs7, hcs7⟩ : ∃ x, x = ((cs5.setIfInBounds 1037 (.int .i64 0)).setIfInBounds 1038 (.int .i32 (-1))) := ⟨_, rfl⟩
        rw [← hcs7] at hB7 hS6 e38
        have HB8 := Lib.hid hB7
        have HS8 := Lib.hid hS6
        have HE38 := Lib.hid e38
        have HR8 := Lib.hid (hR6.ex hx7 (fun h => hbw h.symm))
        have HX8 := Lib.hid (hx6.trans (hx7.mono (fun k h => Or.inl h)))
        clear hB6 hS6 hx6 hR6 hG6 hx7 hB7 e38 hcs7 HB5 HS5 HR5 HX5 HG5 c1026 c1032 c1037 c1038' lt5 f5 z5 hw0 ex
        obtain ⟨fn, q1⟩ := HS8.out.pfn
        obtain ⟨o, q2⟩ := HS8.out.po
        obtain ⟨l, q3⟩ := HS8.out.pl
        obtain ⟨c', q4⟩ := HS8.out.pc
        have d0 := (HB8.out.cell 1040).trans q1
        have d1 := (HB8.out.cell 1041).trans q2
        have d2 := (HB8.out.cell 1042).trans q3
        have d3 := (HB8.out.cell 1043).trans q4
        have lt8 := HB8.out.lt
        have r0 := HR8.out.cell
        have rf := HR8.out.free
        have rl := HR8.out.lt
        simp only [zt] at r0
        clear q1 q2 q3 q4
        go_wp2_with fail
        rw [Exit.noGoto_ret]
        have hB9 := (((((HR8.out.set 0 (.int .i64 ty)).set 1 (.string fn)).set 2 (.int .i64 o)).set 3 (.int .i64 l)).set 4 (.int .i64 c')).set 5 (.string ⟨#[59]⟩)
        rw [HTY.out] at hB9
        have hx9 : ∀ v0 v1 v2 v3 v4 v5, Ex (On w.heap.size) w6 ((((((w6.setCell ⟨w.heap.size, 0, none⟩ v0).setCell ⟨w.heap.size, 1, none⟩ v1).setCell ⟨w.heap.size, 2, none⟩ v2).setCell ⟨w.heap.size, 3, none⟩ v3).setCell ⟨w.heap.size, 4, none⟩ v4).setCell ⟨w.heap.size, 5, none⟩ v5) :=
          fun _ _ _ _ _ _ => ((((((Ex.refl _ _).own _ _).own _ _).own _ _).own _ _).own _ _).own _ _
        refine tok_done3 (fn := fn) (o := o) (l := l) (c := c') (r := w.heap.size) rfl (by simpa [zt, HTY.out] using hB9) (HX8.out.trans' (hx9 _ _ _ _ _ _) (fun k hk h => by unfold On at h; omega)) ⟨cs7, g, HB8.out.ex (hx9 _ _ _ _ _ _) hbw, HS8.out, HE38.out⟩


end Go.Proofs.YtbepocojafbbbaaGreatDoor
