/- The scanner: the token of the end. -/
import Derived.Test.YtbepocojafbbbaaGreatDoorTm
namespace Go.Proofs.YtbepocojafbbbaaGreatDoor
open Go.RowKit
set_option maxRecDepth 100000

/-- The scanner's cells behind the end, the token's buffer empty. -/
structure Sy (cs : Array Value) (A : Option Addr) (c : Nat) (tp te : Int) : Prop where
  size : cs.size = 1044
  pos : cs[1026]? = some (.int .i64 0)
  base : ∃ v, cs[1028]? = some (.int .i64 v)
  line : ∃ v, cs[1029]? = some (.int .i64 v)
  column : ∃ v, cs[1030]? = some (.int .i64 v)
  lline : ∃ v, cs[1031]? = some (.int .i64 v)
  lc : cs[1032]? = some (.int .i64 0)
  tb : cs[1033]? = some (.slice A 0 c)
  to : cs[1034]? = some (.int .i64 0)
  tp : cs[1036]? = some (.int .i64 tp)
  te : cs[1037]? = some (.int .i64 te)
  ch : ∃ v, cs[1038]? = some (.int .i32 v)
  err : cs[1039]? = some .nilIface
  pfn : ∃ v, cs[1040]? = some (.string v)
  po : ∃ v, cs[1041]? = some (.int .i64 v)
  pl : ∃ v, cs[1042]? = some (.int .i64 v)
  pc : ∃ v, cs[1043]? = some (.int .i64 v)
theorem Sy.put {cs : Array Value} {A : Option Addr} {c : Nat} {tp te : Int} (h : Sy cs A c tp te) (i : Nat) (v : Value) (hi : i = 1041 ∨ i = 1042 ∨ i = 1043) (hv : ∃ x, v = .int .i64 x) : Sy (cs.setIfInBounds i v) A c tp te := by
  obtain ⟨x, rfl⟩ := hv
  refine ⟨by simpa using h.size, set_ne h.pos (by omega), h.base.imp fun _ k => set_ne k (by omega), h.line.imp fun _ k => set_ne k (by omega), h.column.imp fun _ k => set_ne k (by omega),
    h.lline.imp fun _ k => set_ne k (by omega), set_ne h.lc (by omega), set_ne h.tb (by omega), set_ne h.to (by omega), set_ne h.tp (by omega), set_ne h.te (by omega), h.ch.imp fun _ k => set_ne k (by omega), set_ne h.err (by omega),
    h.pfn.imp fun _ k => set_ne k (by omega), ?_, ?_, ?_⟩
  · by_cases e : i = 1041
    · subst e; exact ⟨x, set_at h.size (by omega)⟩
    · exact h.po.imp fun _ k => set_ne k e
  · by_cases e : i = 1042
    · subst e; exact ⟨x, set_at h.size (by omega)⟩
    · exact h.pl.imp fun _ k => set_ne k e
  · by_cases e : i = 1043
    · subst e; exact ⟨x, set_at h.size (by omega)⟩
    · exact h.pc.imp fun _ k => set_ne k e
theorem Sy.setTp {cs : Array Value} {A : Option Addr} {c : Nat} {tp te : Int} (h : Sy cs A c tp te) (q : Int) : Sy (cs.setIfInBounds 1036 (.int .i64 q)) A c q te :=
  ⟨by simpa using h.size, set_ne h.pos (by omega), h.base.imp fun _ k => set_ne k (by omega), h.line.imp fun _ k => set_ne k (by omega), h.column.imp fun _ k => set_ne k (by omega),
    h.lline.imp fun _ k => set_ne k (by omega), set_ne h.lc (by omega), set_ne h.tb (by omega), set_ne h.to (by omega), set_at h.size (by omega), set_ne h.te (by omega), h.ch.imp fun _ k => set_ne k (by omega), set_ne h.err (by omega),
    h.pfn.imp fun _ k => set_ne k (by omega), h.po.imp fun _ k => set_ne k (by omega), h.pl.imp fun _ k => set_ne k (by omega), h.pc.imp fun _ k => set_ne k (by omega)⟩
theorem Sy.setTe {cs : Array Value} {A : Option Addr} {c : Nat} {tp te : Int} (h : Sy cs A c tp te) (q : Int) : Sy (cs.setIfInBounds 1037 (.int .i64 q)) A c tp q :=
  ⟨by simpa using h.size, set_ne h.pos (by omega), h.base.imp fun _ k => set_ne k (by omega), h.line.imp fun _ k => set_ne k (by omega), h.column.imp fun _ k => set_ne k (by omega),
    h.lline.imp fun _ k => set_ne k (by omega), set_ne h.lc (by omega), set_ne h.tb (by omega), set_ne h.to (by omega), set_ne h.tp (by omega), set_at h.size (by omega), h.ch.imp fun _ k => set_ne k (by omega), set_ne h.err (by omega),
    h.pfn.imp fun _ k => set_ne k (by omega), h.po.imp fun _ k => set_ne k (by omega), h.pl.imp fun _ k => set_ne k (by omega), h.pc.imp fun _ k => set_ne k (by omega)⟩
theorem Sy.setCh {cs : Array Value} {A : Option Addr} {c : Nat} {tp te : Int} (h : Sy cs A c tp te) (q : Int) : Sy (cs.setIfInBounds 1038 (.int .i32 q)) A c tp te :=
  ⟨by simpa using h.size, set_ne h.pos (by omega), h.base.imp fun _ k => set_ne k (by omega), h.line.imp fun _ k => set_ne k (by omega), h.column.imp fun _ k => set_ne k (by omega),
    h.lline.imp fun _ k => set_ne k (by omega), set_ne h.lc (by omega), set_ne h.tb (by omega), set_ne h.to (by omega), set_ne h.tp (by omega), set_ne h.te (by omega), ⟨q, set_at h.size (by omega)⟩, set_ne h.err (by omega),
    h.pfn.imp fun _ k => set_ne k (by omega), h.po.imp fun _ k => set_ne k (by omega), h.pl.imp fun _ k => set_ne k (by omega), h.pc.imp fun _ k => set_ne k (by omega)⟩
theorem Sy.of {cs : Array Value} {g : Nat} (h : Sz cs g) (hch : cs[1038]? = some (.int .i32 (-1))) (te pl tp : Int) (hte : cs[1037]? = some (.int .i64 te)) :
    Sy (((((cs.setIfInBounds 1036 (.int .i64 tp)).setIfInBounds 1042 (.int .i64 pl)).setIfInBounds 1033 (.slice (some ⟨g, 0, none⟩) 0 64)).setIfInBounds 1034 (.int .i64 0)).setIfInBounds 1035 (.int .i8 0)) (some ⟨g, 0, none⟩) 64 tp te :=
  have k : ∀ {i : Nat} {u : Value}, cs[i]? = some u → i ≠ 1036 → i ≠ 1042 → i ≠ 1033 → i ≠ 1034 → i ≠ 1035 →
      (((((cs.setIfInBounds 1036 (.int .i64 tp)).setIfInBounds 1042 (.int .i64 pl)).setIfInBounds 1033 (.slice (some ⟨g, 0, none⟩) 0 64)).setIfInBounds 1034 (.int .i64 0)).setIfInBounds 1035 (.int .i8 0))[i]? = some u :=
    fun h h1 h2 h3 h4 h5 => set_ne (set_ne (set_ne (set_ne (set_ne h (by omega)) (by omega)) (by omega)) (by omega)) (by omega)
  ⟨by simpa using h.size, k h.pos (by omega) (by omega) (by omega) (by omega) (by omega), h.base.imp fun _ q => k q (by omega) (by omega) (by omega) (by omega) (by omega), h.line.imp fun _ q => k q (by omega) (by omega) (by omega) (by omega) (by omega),
   h.column.imp fun _ q => k q (by omega) (by omega) (by omega) (by omega) (by omega), h.lline.imp fun _ q => k q (by omega) (by omega) (by omega) (by omega) (by omega), k h.lc (by omega) (by omega) (by omega) (by omega) (by omega),
   set_ne (set_ne (set_at (by simpa using h.size) (by omega)) (by omega)) (by omega), set_ne (set_at (by simpa using h.size) (by omega)) (by omega),
   set_ne (set_ne (set_ne (set_ne (set_at (by simpa using h.size) (by omega)) (by omega)) (by omega)) (by omega)) (by omega), k hte (by omega) (by omega) (by omega) (by omega) (by omega), ⟨-1, k hch (by omega) (by omega) (by omega) (by omega) (by omega)⟩,
   k h.err (by omega) (by omega) (by omega) (by omega) (by omega), h.pfn.imp fun _ q => k q (by omega) (by omega) (by omega) (by omega) (by omega), h.po.imp fun _ q => k q (by omega) (by omega) (by omega) (by omega) (by omega),
   ⟨pl, set_ne (set_ne (set_ne (set_at (by simpa using h.size) (by omega)) (by omega)) (by omega)) (by omega)⟩, h.pc.imp fun _ q => k q (by omega) (by omega) (by omega) (by omega) (by omega)⟩

structure Y0 (w : World) (r b : Nat) (A : Option Addr) (c : Nat) (tp te : Int) (cs : Array Value) (W : World) : Prop where
  ex : Ex (On b) w W
  hB : Blk W b cs 241
  hS : Sy cs A c tp te
  hR : Blk W r zt 154
theorem Y0.go {w W W' : World} {r b c : Nat} {A : Option Addr} {tp te : Int} {cs : Array Value} (h : Y0 w r b A c tp te cs W) (hx : Ex No W W') : Y0 w r b A c tp te cs W' :=
  ⟨h.ex.no hx, h.hB.ex hx no_, h.hS, h.hR.ex hx no_⟩
theorem Y0.set {w W : World} {r b c : Nat} {A : Option Addr} {tp te tp' te' : Int} {cs : Array Value} (h : Y0 w r b A c tp te cs W) (hb : b ≠ r) (i : Nat) (v : Value) (hS : Sy (cs.setIfInBounds i v) A c tp' te') : Y0 w r b A c tp' te' (cs.setIfInBounds i v) (W.setCell ⟨b, i, none⟩ v) :=
  ⟨h.ex.own _ _, h.hB.set i v, hS, h.hR.set_other _ _ hb⟩
theorem Y0.next {w W : World} {r b c : Nat} {A : Option Addr} {tp te : Int} {cs : Array Value} {code : Code} {Q : Exit → Act → World → Prop} {a : Act} (h : Y0 w r b A c tp te cs W)
    (k : ∀ W', Hid (Y0 w r b A c tp te cs W') → code.wp Tryz.prog Q a W') : code.wp Tryz.prog Q a W := k W (Lib.hid h)

/-- What 'nextToken' answers at the end. -/
def TokZ (w : World) (b : Nat) (e' : Ending) (w' : World) : Prop :=
  ∃ t : TokC, e' = .returned t.val ∧ t.ty = 0 ∧ Ex (On b) w w' ∧ ∃ cs' A c tp te, Blk w' b cs' 241 ∧ Sy cs' A c tp te
theorem tok_done4 {w W : World} {b r : Nat} {ty o l c : Int} {fn tx : ByteArray} {tmps : Array Value} (hty : ty = 0) (h2 : tmps.getD 2 undef = .pointer (some ⟨r, 0, none⟩))
    (hB : Blk W r #[.int .i64 ty, .string fn, .int .i64 o, .int .i64 l, .int .i64 c, .string tx] 154) (hE : Ex (On b) w W) (hAt : ∃ cs' A c tp te, Blk W b cs' 241 ∧ Sy cs' A c tp te) :
    bodyPost Tryz.prog Tryz.f90 (TokZ w b) Exit.ret ⟨tmps, []⟩ W := by
  have c0 := hB.cell
  have h2' : tmps[2]?.getD undef = .pointer (some ⟨r, 0, none⟩) := by simpa using h2
  refine bodyPost_ret (v := (TokC.mk ty fn o l c tx).val) ?_ rfl ⟨⟨ty, fn, o, l, c, tx⟩, rfl, hty, hE, hAt⟩
  simp [results, Tryz.results90, go_sem, TokC.val, h2', c0]

set_option maxHeartbeats 2000000 in
theorem tok_eof (w : World) (b g : Nat) (cs : Array Value) (hB : Blk w b cs 241) (hS : Sz cs g) (hch : cs[1038]? = some (.int .i32 (-1))) : Calls Tryz.prog 90 #[.pointer (some ⟨b, 0, none⟩)] w (TokZ w b) := by
  have c1038 := (hB.cell 1038).trans hch
  have c1036 := (hB.cell 1036).trans hS.tp
  obtain ⟨pl, q7⟩ := hS.pl
  obtain ⟨te, qte⟩ := hS.te
  have c1042 := (hB.cell 1042).trans q7
  have lt := hB.lt
  have f := hB.free
  have HB := Lib.hid hB
  have HS := Lib.hid (And.intro hS (And.intro hch qte))
  have hbw : b ≠ w.heap.size := by omega
  have hwm : whiteB (-1) = false := rfl
  have HWM := Lib.hid hwm
  clear hB hS hch q7 qte hwm
  go_enter Tryz.func90, Tryz.ntmps90
  go_wp2_with fail
  go_step3
  go_wp2_with fail
  go_step3
  go_wp2_with fail
  refine wp_loop_once ?_
  go_wp2_with (go_at_call 123; refine (white_spec _ _).mono ?_; rintro e' w' ⟨rfl, rfl⟩; rw [HWM.out])
  have hB1 : Blk (((w.setCell ⟨b, 1036, none⟩ (.int .i64 (-1))).setCell ⟨b, 1042, none⟩ (.int .i64 0)).alloc (.cells zt 154)) b _ 241 := ((HB.out.set 1036 (.int .i64 (-1))).set 1042 (.int .i64 0)).ex ((Ex.refl No _).alloc _) no_
  have z0 := HS.out.1.size
  refine (reset_spec _ b 1033 _ 241 (some ⟨g, 0, none⟩) 1 64 (.int .i64 0) (.int .i8 0) hB1 (set_ne (set_ne HS.out.1.tb (by omega)) (by omega)) (set_ne (set_ne HS.out.1.to (by omega)) (by omega)) (set_ne (set_ne HS.out.1.tr (by omega)) (by omega))).mono ?_
  rintro e' w2 ⟨rfl, hx2, hB2⟩
  have hx0 : Ex (On b) w (((w.setCell ⟨b, 1036, none⟩ (.int .i64 (-1))).setCell ⟨b, 1042, none⟩ (.int .i64 0)).alloc (.cells zt 154)) := (((Ex.refl _ _).own _ _).own _ _).alloc _
  have hr0 : Blk (((w.setCell ⟨b, 1036, none⟩ (.int .i64 (-1))).setCell ⟨b, 1042, none⟩ (.int .i64 0)).alloc (.cells zt 154)) w.heap.size zt 154 := by
    have := Blk.new ((w.setCell ⟨b, 1036, none⟩ (.int .i64 (-1))).setCell ⟨b, 1042, none⟩ (.int .i64 0)) zt 154
    simpa using this
  have hY2 : Y0 w w.heap.size b (some ⟨g, 0, none⟩) 64 (-1) te _ w2 := ⟨hx0.trans hx2, hB2, Sy.of HS.out.1 HS.out.2.1 te 0 (-1) HS.out.2.2, hr0.ex hx2 (fun h => hbw h.symm)⟩
  have HY2 := Lib.hid hY2
  clear hB1 z0 hx2 hB2 hx0 hr0 hY2 c1038 c1036 c1042 lt f HB HS
  obtain ⟨cs2, hcs2⟩ : ∃ x, x = (((((cs.setIfInBounds 1036 (.int .i64 (-1))).setIfInBounds 1042 (.int .i64 0)).setIfInBounds 1033 (.slice (some ⟨g, 0, none⟩) 0 64)).setIfInBounds 1034 (.int .i64 0)).setIfInBounds 1035 (.int .i8 0)) := ⟨_, rfl⟩
  rw [← hcs2] at HY2
  clear hcs2
  have c1026 := (HY2.out.hB.cell 1026).trans HY2.out.hS.pos
  have c1032 := (HY2.out.hB.cell 1032).trans HY2.out.hS.lc
  have c1036 := (HY2.out.hB.cell 1036).trans HY2.out.hS.tp
  have lt2 := HY2.out.hB.lt
  have f2 := HY2.out.hB.free
  have hw0 : IntKind.i64.wrap ((0 : Int) - 0) = 0 := by kernel_rfl
  go_wp2_with fail
  go_still_tail 12, (by kernel_rfl)
  go_wp2_with fail
  refine ((HY2.out.set hbw 1036 (.int .i64 0) (HY2.out.hS.setTp _)).go ((Ex.refl _ _).drew)).next ?_
  clear HY2 c1026 c1032 c1036 lt2 f2 hw0
  intro W3 HY3
  obtain ⟨cb, q0⟩ := HY3.out.hS.base
  obtain ⟨po, q1⟩ := HY3.out.hS.po
  obtain ⟨cl, q2⟩ := HY3.out.hS.line
  obtain ⟨cc, q3⟩ := HY3.out.hS.column
  obtain ⟨ll, q4⟩ := HY3.out.hS.lline
  obtain ⟨pl', q5⟩ := HY3.out.hS.pl
  obtain ⟨pc', q6⟩ := HY3.out.hS.pc
  have c1028 := (HY3.out.hB.cell 1028).trans q0
  have c1036 := (HY3.out.hB.cell 1036).trans HY3.out.hS.tp
  have c1041 := (HY3.out.hB.cell 1041).trans q1
  have c1029 := (HY3.out.hB.cell 1029).trans q2
  have c1030 := (HY3.out.hB.cell 1030).trans q3
  have c1031 := (HY3.out.hB.cell 1031).trans q4
  have d1042 := (HY3.out.hB.cell 1042).trans q5
  have c1043 := (HY3.out.hB.cell 1043).trans q6
  have lt3 := HY3.out.hB.lt
  have f3 := HY3.out.hB.free
  clear q0 q1 q2 q3 q4 q5 q6
  go_still_tail 13, (by kernel_rfl)
  have c1026 := (HY3.out.hB.cell 1026).trans HY3.out.hS.pos
  have c1032 := (HY3.out.hB.cell 1032).trans HY3.out.hS.lc
  have hw0 : IntKind.i64.wrap ((0 : Int) - 0) = 0 := by kernel_rfl
  go_wp2_with fail
  all_goals
    have hY4 := fun (x y u : Int) => ((((HY3.out.set hbw 1041 (.int .i64 x) (HY3.out.hS.put 1041 _ (by omega) ⟨_, rfl⟩)).set hbw 1042 (.int .i64 y) ((HY3.out.hS.put 1041 _ (by omega) ⟨_, rfl⟩).put 1042 _ (by omega) ⟨_, rfl⟩)).set hbw 1043 (.int .i64 u) (((HY3.out.hS.put 1041 _ (by omega) ⟨_, rfl⟩).put 1042 _ (by omega) ⟨_, rfl⟩).put 1043 _ (by omega) ⟨_, rfl⟩)).go ((Ex.refl _ _).drew))
    refine (hY4 _ _ _).next ?_
    clear hY4 HY3 c1028 c1029 c1030 c1031 c1036 c1041 d1042 c1043 lt3 f3 c1026 c1032
    intro W5 HY5
    obtain ⟨cs5, hcs5⟩ : ∃ cs5, Y0 w w.heap.size b (some ⟨g, 0, none⟩) 64 0 te cs5 W5 := ⟨_, HY5.out⟩
    clear HY5
    have HY5 := Lib.hid hcs5
    clear hcs5
    have c1026 := (HY5.out.hB.cell 1026).trans HY5.out.hS.pos
    have c1032 := (HY5.out.hB.cell 1032).trans HY5.out.hS.lc
    have c1037 := (HY5.out.hB.cell 1037).trans HY5.out.hS.te
    have lt5 := HY5.out.hB.lt
    have f5 := HY5.out.hB.free
    obtain ⟨vc, hc38⟩ := HY5.out.hS.ch
    have c1038' := (HY5.out.hB.cell 1038).trans hc38
    clear hc38
    go_still_tail 12, (by kernel_rfl)
    go_wp2_with fail
    have hY6 := (((HY5.out.set hbw 1037 (.int .i64 0) (HY5.out.hS.setTe _)).set hbw 1038 (.int .i32 (-1)) ((HY5.out.hS.setTe _).setCh _)).go ((Ex.refl _ _).drew))
    refine (tokText_none _ b _ _ _ hY6.hB hY6.hS.tp hY6.hS.tb hY6.hS.to hY6.hS.te).mono ?_
    rintro e' w6 ⟨rfl, hx6⟩
    have HY8 := Lib.hid (hY6.go hx6)
    clear hY6 hx6 HY5 c1026 c1032 c1037 c1038' lt5 f5
    obtain ⟨fn, q1⟩ := HY8.out.hS.pfn
    obtain ⟨o, q2⟩ := HY8.out.hS.po
    obtain ⟨l, q3⟩ := HY8.out.hS.pl
    obtain ⟨c', q4⟩ := HY8.out.hS.pc
    have d0 := (HY8.out.hB.cell 1040).trans q1
    have d1 := (HY8.out.hB.cell 1041).trans q2
    have d2 := (HY8.out.hB.cell 1042).trans q3
    have d3 := (HY8.out.hB.cell 1043).trans q4
    have lt8 := HY8.out.hB.lt
    have r0 := HY8.out.hR.cell
    have rf := HY8.out.hR.free
    have rl := HY8.out.hR.lt
    simp only [zt] at r0
    clear q1 q2 q3 q4
    go_wp2_with fail
    rw [Exit.noGoto_ret]
    have hB9 := (((((HY8.out.hR.set 0 (.int .i64 0)).set 1 (.string fn)).set 2 (.int .i64 o)).set 3 (.int .i64 l)).set 4 (.int .i64 c')).set 5 (.string ⟨#[]⟩)
    have hx9 : ∀ v0 v1 v2 v3 v4 v5, Ex (On w.heap.size) w6 ((((((w6.setCell ⟨w.heap.size, 0, none⟩ v0).setCell ⟨w.heap.size, 1, none⟩ v1).setCell ⟨w.heap.size, 2, none⟩ v2).setCell ⟨w.heap.size, 3, none⟩ v3).setCell ⟨w.heap.size, 4, none⟩ v4).setCell ⟨w.heap.size, 5, none⟩ v5) :=
      fun _ _ _ _ _ _ => ((((((Ex.refl _ _).own _ _).own _ _).own _ _).own _ _).own _ _).own _ _
    refine tok_done4 (ty := 0) (fn := fn) (o := o) (l := l) (c := c') (tx := ⟨#[]⟩) (r := w.heap.size) rfl rfl (by simpa [zt] using hB9) (HY8.out.ex.trans' (hx9 _ _ _ _ _ _) (fun k hk h => by unfold On at h; omega)) ⟨_, _, _, _, _, HY8.out.hB.ex (hx9 _ _ _ _ _ _) hbw, HY8.out.hS⟩
end Go.Proofs.YtbepocojafbbbaaGreatDoor
