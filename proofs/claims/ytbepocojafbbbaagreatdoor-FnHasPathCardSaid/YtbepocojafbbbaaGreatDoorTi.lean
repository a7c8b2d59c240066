/- The scanner: the next token inside the buffer. -/
import Derived.Test.YtbepocojafbbbaaGreatDoorTh
namespace Go.Proofs.YtbepocojafbbbaaGreatDoor
open Go.RowKit
set_option maxRecDepth 100000

/-- The scanner stands behind the sign at place q, which it holds. -/
structure At (b : Nat) (T : List UInt8) (z : Value) (q : Nat) (w : World) : Prop where
  cells : ∃ cs tp, Blk w b cs 241 ∧ Sc cs T (q + 1) 1 tp ∧ cs[1038]? = some (.int .i32 (chr T q)) ∧ cs[0]? = some z

theorem scanOp1 (w : World) (b : Nat) (x y : Int) (hx : x = 40 ∨ x = 41 ∨ x = 44 ∨ x = 123 ∨ x = 125 ∨ x = 46 ∨ x = 59) :
    Calls Tryz.prog 131 #[.pointer (some ⟨b, 0, none⟩), .int .i32 x, .int .i32 y] w fun e' w' => e' = .returned (.tuple #[.int .i64 5, .int .i32 y]) ∧ w' = w := by
  rcases hx with rfl | rfl | rfl | rfl | rfl | rfl | rfl
  all_goals
    go_enter Tryz.func131, Tryz.ntmps131
    go_wp2
    go_ret2
    exact ⟨rfl, rfl⟩

theorem scanOp2 (w : World) (b : Nat) (cs : Array Value) (T : List UInt8) (p : Nat) (lc tp : Int) (hB : Blk w b cs 241) (hS : Sc cs T p lc tp) (hp : p < T.length) (hA : Ascii T) :
    Calls Tryz.prog 131 #[.pointer (some ⟨b, 0, none⟩), .int .i32 38, .int .i32 38] w fun e' w' => e' = .returned (.tuple #[.int .i64 5, .int .i32 (chr T p)]) ∧ Stands w w' b cs T (p + 1) 1 tp := by
  go_enter Tryz.func131, Tryz.ntmps131
  go_wp2_with fail
  refine (next_at w b cs T p lc tp hB hS hp hA).mono ?_
  rintro e' w1 ⟨rfl, h⟩
  have H := Lib.hid h
  clear h
  go_wp2
  go_ret2
  exact ⟨rfl, H.out⟩

/-- What stands at place i, up to m: a token of this kind. -/
inductive Tok1 (T : List UInt8) (i m : Nat) : Int → Prop
  | ident (h1 : i < m) (h2 : m < T.length) (h3 : identB (chr T i) true = true) (h4 : ∀ j, i < j → j < m → identB (chr T j) false = true) (h5 : identB (chr T m) false = false) : Tok1 T i m (if reserved (cut T i m) then 3 else 1)
  | one (h1 : m = i + 1) (h2 : m < T.length) (h3 : chr T i = 40 ∨ chr T i = 41 ∨ chr T i = 44 ∨ chr T i = 123 ∨ chr T i = 125 ∨ chr T i = 46) : Tok1 T i m 5
  | two (h1 : m = i + 2) (h2 : m < T.length) (h3 : chr T i = 38) (h4 : chr T (i + 1) = 38) : Tok1 T i m 5

def zt : Array Value := #[.int .i64 0, .string ⟨#[]⟩, .int .i64 0, .int .i64 0, .int .i64 0, .string ⟨#[]⟩]
theorem set_same {cs : Array Value} {i : Nat} {v : Value} (hv : cs[i]? = some v) : cs.setIfInBounds i v = cs := by
  obtain ⟨hi, hv'⟩ := Array.getElem?_eq_some_iff.1 hv
  subst hv'
  rw [Array.setIfInBounds_def, dif_pos hi, Array.set_getElem_self]
/-- Where 'nextToken' stands. -/
structure M0 (w : World) (r b : Nat) (T : List UInt8) (p : Nat) (tp : Int) (z : Value) (cs : Array Value) (W : World) : Prop where
  ex : Ex (On b) w W
  hB : Blk W b cs 241
  hS : Sc cs T p 1 tp
  hR : Blk W r zt 154
  hz : cs[0]? = some z
theorem M0.go {w W W' : World} {r b p : Nat} {T : List UInt8} {tp : Int} {z : Value} {cs : Array Value} (h : M0 w r b T p tp z cs W) (hx : Ex No W W') : M0 w r b T p tp z cs W' :=
  ⟨h.ex.no hx, h.hB.ex hx no_, h.hS, h.hR.ex hx no_, h.hz⟩
theorem M0.set {w W : World} {r b p : Nat} {T : List UInt8} {tp tp' : Int} {z : Value} {cs : Array Value} (h : M0 w r b T p tp z cs W) (hb : b ≠ r) (i : Nat) (v : Value) (hi : i ≠ 0) (hS : Sc (cs.setIfInBounds i v) T p 1 tp') : M0 w r b T p tp' z (cs.setIfInBounds i v) (W.setCell ⟨b, i, none⟩ v) :=
  ⟨h.ex.own _ _, h.hB.set i v, hS, h.hR.set_other _ _ hb, set_ne h.hz hi⟩
theorem M0.next {w W : World} {r b p : Nat} {T : List UInt8} {tp : Int} {z : Value} {cs : Array Value} {code : Code} {Q : Exit → Act → World → Prop} {a : Act} (h : M0 w r b T p tp z cs W)
    (k : ∀ W', Hid (M0 w r b T p tp z cs W') → code.wp Tryz.prog Q a W') : code.wp Tryz.prog Q a W := k W (Lib.hid h)
theorem M0.stands {w W W' : World} {r b p m : Nat} {T : List UInt8} {tp : Int} {z : Value} {cs : Array Value} (h : M0 w r b T p tp z cs W) (hb : b ≠ r) (hs : Stands W W' b cs T m 1 tp) : ∃ cs', M0 w r b T m tp z cs' W' := by
  obtain ⟨hx, cs', h1, h2, h3, h4⟩ := hs
  exact ⟨cs', h.ex.trans hx, h1, h2, h.hR.ex hx (fun h => hb h.symm), h4.trans h.hz⟩
/-- What 'nextToken' answers inside the buffer. -/
def TokIn (w : World) (b : Nat) (T : List UInt8) (z : Value) (m : Nat) (ty : Int) (tx : ByteArray) (e' : Ending) (w' : World) : Prop :=
  ∃ t : TokC, e' = .returned t.val ∧ t.ty = ty ∧ t.tx = tx ∧ Ex (On b) w w' ∧ At b T z m w'

theorem tok_done {w W : World} {b r : Nat} {T : List UInt8} {z : Value} {m : Nat} {ty o l c : Int} {fn tx : ByteArray} {tmps : Array Value} (h2 : tmps.getD 2 undef = .pointer (some ⟨r, 0, none⟩))
    (hB : Blk W r #[.int .i64 ty, .string fn, .int .i64 o, .int .i64 l, .int .i64 c, .string tx] 154) (hE : Ex (On b) w W) (hAt : At b T z m W) :
    bodyPost Tryz.prog Tryz.f90 (TokIn w b T z m ty tx) Exit.ret ⟨tmps, []⟩ W := by
  have c0 := hB.cell
  have h2' : tmps[2]?.getD undef = .pointer (some ⟨r, 0, none⟩) := by simpa using h2
  refine bodyPost_ret (v := (TokC.mk ty fn o l c tx).val) ?_ rfl ⟨⟨ty, fn, o, l, c, tx⟩, rfl, rfl, rfl, hE, hAt⟩
  simp [results, Tryz.results90, go_sem, TokC.val, h2', c0]

set_option maxHeartbeats 2000000 in
theorem tok_ident (w : World) (b : Nat) (T : List UInt8) (z : Value) (q i m : Nat) (h : At b T z q w) (hA : Ascii T) (hqi : q ≤ i) (hw : ∀ j, q ≤ j → j < i → whiteB (chr T j) = true) (hi : whiteB (chr T i) = false)
    (h1 : i < m) (h2 : m < T.length) (h3 : identB (chr T i) true = true) (h4 : ∀ j, i < j → j < m → identB (chr T j) false = true) (h5 : identB (chr T m) false = false) (ty : Int) (hty : ty = if reserved (cut T i m) then 3 else 1) :
    Calls Tryz.prog 90 #[.pointer (some ⟨b, 0, none⟩)] w (TokIn w b T z m ty (cut T i m)) := by
  have HTY := Lib.hid hty
  obtain ⟨cs, tp, hB, hS, hch, hz⟩ := h.cells
  have c1038 := (hB.cell 1038).trans hch
  have c1036 := (hB.cell 1036).trans hS.tp
  obtain ⟨pl, q7⟩ := hS.pl
  have c1042 := (hB.cell 1042).trans q7
  have lt := hB.lt
  have f := hB.free
  have hm2 : ((chr T q : Int) == -2) = false := by simp
  have HB := Lib.hid hB
  have HS := Lib.hid hS
  have HZ := Lib.hid hz
  have HW := Lib.hid hw
  have HI := Lib.hid hi
  have H3 := Lib.hid h3
  have H4 := Lib.hid h4
  have H5 := Lib.hid h5
  have hbw : b ≠ w.heap.size := by omega
  clear h hB hS hch hz hw hi h3 h4 h5 q7 hty
  go_enter Tryz.func90, Tryz.ntmps90
  go_wp2_with fail
  go_step3
  go_wp2_with fail
  go_step3
  go_wp2_with fail
  go_loopw [3] (fun v wr => ∃ j, q ≤ j ∧ j ≤ i ∧ v = .int .i32 (chr T j) ∧ Stands w wr b cs T (j + 1) 1 (-1) ∧ Blk wr w.heap.size zt 154) (fun v wr => match wr.cell? ⟨b, 1026, none⟩ with | some v => m + 1 - (intOf v).toNat | none => 0)
  case atStart =>
    refine ⟨q, Nat.le_refl _, hqi, rfl, ⟨(((Ex.refl _ _).own _ _).own _ _).alloc _, (cs.setIfInBounds 1036 (.int .i64 (-1))).setIfInBounds 1042 (.int .i64 0), ((HB.out.set 1036 _).set 1042 _).ex ((Ex.refl No _).alloc _) no_, (HS.out.setTp _).setPl _, ?_, ?_⟩, ?_⟩
    · (repeat rw [Array.getElem?_setIfInBounds_ne (by omega)])
    · (repeat rw [Array.getElem?_setIfInBounds_ne (by omega)])
    · have := Blk.new ((w.setCell ⟨b, 1036, none⟩ (.int .i64 (-1))).setCell ⟨b, 1042, none⟩ (.int .i64 0)) zt 154
      simpa [zt] using this
  case round =>
    obtain ⟨j, hqj, hji, rfl, ⟨hEx, cs1, hB1, hS1, e1, e2⟩, hR1⟩ := hrel
    have HS1 := Lib.hid hS1
    have HB1 := Lib.hid hB1
    have HX := Lib.hid hEx
    have HR1 := Lib.hid hR1
    have HE1 := Lib.hid (And.intro e1 e2)
    clear hEx hB1 hS1 hR1 e1 e2
    by_cases hlt : j < i
    · have hid := HW.out j hqj hlt
      go_wp2_with (go_at_call 123; refine (white_spec _ _).mono ?_; rintro e' w' ⟨rfl, rfl⟩; rw [hid])
      refine (next_at _ b cs1 T (j + 1) 1 (-1) HB1.out HS1.out (by omega) hA).mono ?_
      rintro e' w2 ⟨rfl, h2⟩
      have HH := Lib.hid h2
      clear h2
      go_wp2
      go_roundw
      case rel => exact ⟨j + 1, by omega, by omega, rfl, HH.out.trans HX.out HE1.out.1 HE1.out.2, HR1.out.ex HH.out.1 (fun h => hbw h.symm)⟩
      case measure =>
        obtain ⟨_, cs2, hB2, hS2, _⟩ := HH.out
        rw [(HB1.out.cell 1026).trans HS1.out.pos, (hB2.cell 1026).trans hS2.pos]
        simp only [intOf]
        omega
    · have : j = i := by omega
      subst this
      go_wp2_with (go_at_call 123; refine (white_spec _ _).mono ?_; rintro e' w' ⟨rfl, rfl⟩; rw [HI.out])
      refine (reset_spec _ b 1033 cs1 241 none 0 0 _ _ HB1.out HS1.out.tb HS1.out.to HS1.out.tr).mono ?_
      rintro e' w2 ⟨rfl, hx2, hB2⟩
      rw [set_same HS1.out.tb, set_same HS1.out.to, set_same HS1.out.tr] at hB2
      have hX2 : Ex (On b) w w2 := HX.out.trans hx2
      have hR2 := HR1.out.ex hx2 (fun h => hbw h.symm)
      obtain ⟨p, hp⟩ : ∃ p, p = j + 1 := ⟨_, rfl⟩
      have hS2 : Sc cs1 T p 1 (-1) := by rw [hp]; exact HS1.out
      have HP := Lib.hid hp
      have hM2 : M0 w w.heap.size b T p (-1) z cs1 w2 := ⟨hX2, hB2, hS2, hR2, HE1.out.2.trans HZ.out⟩
      have HM2 := Lib.hid hM2
      clear HX HR1 HB1 HS1 hx2 hB2 hX2 hR2 hp hS2 hM2
      have c1026 := (HM2.out.hB.cell 1026).trans HM2.out.hS.pos
      have c1032 := (HM2.out.hB.cell 1032).trans HM2.out.hS.lc
      have c1036 := (HM2.out.hB.cell 1036).trans HM2.out.hS.tp
      have lt2 := HM2.out.hB.lt
      have f2 := HM2.out.hB.free
      have hsh := HM2.out.hS.short
      have hp1 : (p : Int) ≤ 1000 := by have := HP.out; omega
      have hp0 : (1 : Int) ≤ p := by have := HP.out; omega
      go_wp2_with fail
      go_still_tail 12, (by kernel_rfl)
      go_wp2_with fail
      refine ((HM2.out.set hbw 1036 (.int .i64 ((p : Int) - 1)) (by omega) (HM2.out.hS.setTp _)).go ((Ex.refl _ _).drew)).next ?_
      clear HM2 c1026 c1032 c1036 lt2 f2
      intro W3 HM3
      obtain ⟨cb, q0⟩ := HM3.out.hS.base
      obtain ⟨po, q1⟩ := HM3.out.hS.po
      have c1028 := (HM3.out.hB.cell 1028).trans q0
      have c1036 := (HM3.out.hB.cell 1036).trans HM3.out.hS.tp
      have c1041 := (HM3.out.hB.cell 1041).trans q1
      have lt3 := HM3.out.hB.lt
      have f3 := HM3.out.hB.free
      obtain ⟨cl, q2⟩ := HM3.out.hS.line
      obtain ⟨cc, q3⟩ := HM3.out.hS.column
      obtain ⟨ll, q4⟩ := HM3.out.hS.lline
      obtain ⟨pl', q5⟩ := HM3.out.hS.pl
      obtain ⟨pc', q6⟩ := HM3.out.hS.pc
      have c1029 := (HM3.out.hB.cell 1029).trans q2
      have c1030 := (HM3.out.hB.cell 1030).trans q3
      have c1031 := (HM3.out.hB.cell 1031).trans q4
      have d1042 := (HM3.out.hB.cell 1042).trans q5
      have c1043 := (HM3.out.hB.cell 1043).trans q6
      have hm1 : ((chr T j : Int) == -1) = false := by simp
      clear q0 q1 q2 q3 q4 q5 q6
      go_still_tail 13, (by kernel_rfl)
      go_wp2_with fail
      all_goals
        refine (identRune_spec _ _ _).mono ?_
        rintro e' w' ⟨rfl, rfl⟩
        rw [H3.out]
        go_wp2_with fail
        have hM4 := fun (x y u : Int) => ((((HM3.out.set hbw 1041 (.int .i64 x) (by omega) (HM3.out.hS.setPo _)).set hbw 1042 (.int .i64 y) (by omega) ((HM3.out.hS.setPo _).setPl _)).set hbw 1043 (.int .i64 u) (by omega) (((HM3.out.hS.setPo _).setPl _).setPc _)).go ((Ex.refl _ _).drew))
        refine (scanIdent_spec _ b _ T p m 1 _ (hM4 _ _ _).hB (hM4 _ _ _).hS hA (by have := HP.out; omega) h2 (fun i a b => H4.out i (by have := HP.out; omega) b) H5.out).mono ?_
        rintro e' w5 ⟨rfl, h5⟩
        obtain ⟨cs5, hM5⟩ := (hM4 _ _ _).stands hbw h5
        have HM5 := Lib.hid hM5
        clear hM4 hM5 h5 HM3 c1028 c1029 c1030 c1031 c1036 c1041 d1042 c1043 lt3 f3
        obtain ⟨m1, hm1⟩ : ∃ x, x = m + 1 := ⟨_, rfl⟩
        have ej : (p : Int) - 1 = j := by have := HP.out; omega
        rw [← hm1, ej] at HM5
        have HM1 := Lib.hid hm1
        clear hm1 ej
        have c1026 := (HM5.out.hB.cell 1026).trans HM5.out.hS.pos
        have c1032 := (HM5.out.hB.cell 1032).trans HM5.out.hS.lc
        obtain ⟨te, q1⟩ := HM5.out.hS.te
        have c1037 := (HM5.out.hB.cell 1037).trans q1
        have lt5 := HM5.out.hB.lt
        have f5 := HM5.out.hB.free
        have hm1 : (m1 : Int) ≤ 1000 := by have := HM1.out; omega
        have hm0 : (1 : Int) ≤ m1 := by have := HM1.out; omega
        have hc38 : ∃ v, cs5[1038]? = some v := ⟨_, Array.getElem?_eq_getElem (by have := HM5.out.hS.size; omega)⟩
        obtain ⟨vc, hc38⟩ := hc38
        have c1038' := (HM5.out.hB.cell 1038).trans hc38
        clear q1 hp1 hp0 hc38
        go_wp2_with fail
        go_still_tail 12, (by kernel_rfl)
        go_wp2_with fail
        have hM6 := (((HM5.out.set hbw 1037 (.int .i64 ((m1 : Int) - 1)) (by omega) (HM5.out.hS.setTe _)).set hbw 1038 (.int .i32 (chr T m)) (by omega) ((HM5.out.hS.setTe _).setCh _)).go ((Ex.refl _ _).drew))
        have z5 := HM5.out.hS.size
        have em : (m1 : Int) - 1 = m := by have := HM1.out; omega
        refine (tokText_spec _ b _ T m1 j m 1 hM6.hB hM6.hS (by rw [em]; exact set_ne (set_at z5 (by omega)) (by omega)) (by omega) (by omega)).mono ?_
        rintro e' w6 ⟨rfl, hx6⟩
        have hM7 := hM6.go hx6
        have e38 : ((cs5.setIfInBounds 1037 (.int .i64 ((m1 : Int) - 1))).setIfInBounds 1038 (.int .i32 (chr T m)))[1038]? = some (.int .i32 (chr T m)) := set_at (by simpa using z5) (by omega)
        obtain ⟨cs7, hcs7⟩ : ∃ x, x = ((cs5.setIfInBounds 1037 (.int .i64 ((m1 : Int) - 1))).setIfInBounds 1038 (.int .i32 (chr T m))) := ⟨_, rfl⟩
        rw [← hcs7] at hM7 e38
        have HM7 := Lib.hid hM7
        have HE38 := Lib.hid e38
        clear HM5 hM6 hM7 hx6 e38 hcs7 c1026 c1032 c1037 c1038' lt5 f5 em z5
        go_wp2_with fail
        refine (reserved_spec _ _).mono ?_
        rintro e' w7 ⟨rfl, hx7⟩
        have HM8 := Lib.hid (HM7.out.go hx7)
        clear HM7 hx7
        obtain ⟨fn, q1⟩ := HM8.out.hS.pfn
        obtain ⟨o, q2⟩ := HM8.out.hS.po
        obtain ⟨l, q3⟩ := HM8.out.hS.pl
        obtain ⟨c, q4⟩ := HM8.out.hS.pc
        have d0 := (HM8.out.hB.cell 1040).trans q1
        have d1 := (HM8.out.hB.cell 1041).trans q2
        have d2 := (HM8.out.hB.cell 1042).trans q3
        have d3 := (HM8.out.hB.cell 1043).trans q4
        have lt8 := HM8.out.hB.lt
        have r0 := HM8.out.hR.cell
        have rf := HM8.out.hR.free
        have rl := HM8.out.hR.lt
        simp only [zt] at r0
        clear q1 q2 q3 q4
        cases hres : reserved (cut T j m)
        all_goals
          go_wp2_with fail
          rw [Exit.noGoto_ret]
          have hB6 := (((((HM8.out.hR.set 0 (.int .i64 ty)).set 1 (.string fn)).set 2 (.int .i64 o)).set 3 (.int .i64 l)).set 4 (.int .i64 c)).set 5 (.string (cut T j m))
          rw [HTY.out, hres] at hB6
          have hat : ∀ W, Ex (On w.heap.size) w7 W → At b T z m W := fun W hx => ⟨cs7, _, HM8.out.hB.ex hx hbw, by rw [← HM1.out]; exact HM8.out.hS, HE38.out, HM8.out.hz⟩
          have hx6 : ∀ v0 v1 v2 v3 v4 v5, Ex (On w.heap.size) w7 ((((((w7.setCell ⟨w.heap.size, 0, none⟩ v0).setCell ⟨w.heap.size, 1, none⟩ v1).setCell ⟨w.heap.size, 2, none⟩ v2).setCell ⟨w.heap.size, 3, none⟩ v3).setCell ⟨w.heap.size, 4, none⟩ v4).setCell ⟨w.heap.size, 5, none⟩ v5) :=
            fun _ _ _ _ _ _ => ((((((Ex.refl _ _).own _ _).own _ _).own _ _).own _ _).own _ _).own _ _
          refine tok_done (fn := fn) (o := o) (l := l) (c := c) (r := w.heap.size) rfl (by simpa [zt, HTY.out, hres] using hB6) ((HM8.out.ex).trans' (hx6 _ _ _ _ _ _) (fun k hk h => ?_)) (hat _ (hx6 _ _ _ _ _ _))
          unfold On at h
          omega
end Go.Proofs.YtbepocojafbbbaaGreatDoor
