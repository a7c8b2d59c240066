/- The scanner: the end of the text. -/
import Derived.Test.YtbepocojafbbbaaGreatDoorTg
import Derived.IntWalk
import Derived.Deep.RegionWith
namespace Go.Proofs.YtbepocojafbbbaaGreatDoor
open Go.RowKit
set_option maxRecDepth 100000

theorem Tryz.under88 : ((Tryz.prog.underlying 88).map fun d => match d with | .interface _ => true | _ => false) = some true := by kernel_rfl
theorem Tryz.under341 : Tryz.prog.underlying 341 = some (.pointer 343) := by kernel_rfl
theorem Tryz.cmp341 : (Tryz.prog.info? 341).map (·.comparable) = some true := by kernel_rfl
theorem neq_nil (a : Addr) (w : World) : (binOp .neq 88 (.iface 341 (.pointer (some a))) .nilIface).run Tryz.prog w = .ok (.bool true) w := by kernel_rfl
theorem neq_self (a : Addr) (w : World) : (binOp .neq 88 (.iface 341 (.pointer (some a))) (.iface 341 (.pointer (some a)))).run Tryz.prog w = .ok (.bool false) w := by
  obtain ⟨ms, h1⟩ : ∃ ms, Tryz.prog.underlying 88 = some (.interface ms) := by
    have h := Tryz.under88
    cases hu : Tryz.prog.underlying 88 with
    | none => simp [hu] at h
    | some d => cases d <;> simp_all
  have h2 := Tryz.under341
  have hc := Tryz.cmp341
  cases hi : Tryz.prog.info? 341 with
  | none => simp [hi] at hc
  | some i =>
    have hcc : i.comparable = true := by simpa [hi] using hc
    have h : ∀ d : Nat, (Op.equalIn (d + 2) 88 (.iface 341 (.pointer (some a))) (.iface 341 (.pointer (some a)))).run Tryz.prog w = .ok true w := fun d => by
      simp [Op.equalIn, run_underlying h1, run_underlying h2, typeInfo, hi, hcc, sameAddr]
    simp only [binOp]
    simp [Op.equal, Op.maxDepth, h 9998]

/-- Where the last reading stands. -/
structure E0 (w : World) (b bb : Nat) (cs rb : Array Value) (ev : Value) (W : World) : Prop where
  ex : Ex (Tw b bb) w W
  hB : Blk W b cs 241
  hR : Blk W bb rb 239
  hG : W.cell? ⟨0, 0, none⟩ = some ev
theorem E0.go {w W W' : World} {b bb : Nat} {cs rb : Array Value} {ev : Value} (h : E0 w b bb cs rb ev W) (hx : Ex No W W') : E0 w b bb cs rb ev W' :=
  ⟨h.ex.no hx, h.hB.ex hx no_, h.hR.ex hx no_, hx.got h.hG no_⟩
theorem E0.drew {w W : World} {b bb : Nat} {cs rb : Array Value} {ev : Value} (h : E0 w b bb cs rb ev W) (n : Nat) : E0 w b bb cs rb ev (W.drewN n) := h.go ((Ex.refl _ _).of_drewN _)
theorem E0.set {w W : World} {b bb : Nat} {cs rb : Array Value} {ev : Value} (h : E0 w b bb cs rb ev W) (h1 : b ≠ bb) (h2 : b ≠ 0) (i : Nat) (v : Value) : E0 w b bb (cs.setIfInBounds i v) rb ev (W.setCell ⟨b, i, none⟩ v) :=
  ⟨h.ex.setCell _ _ (Or.inl (Or.inl rfl)), h.hB.set i v, h.hR.set_other _ _ h1, by
    rw [World.cell?_setCell_other _ _ _ _ (fun e => h2 (congrArg Addr.block e))]; exact h.hG⟩
theorem E0.next {w W : World} {b bb : Nat} {cs rb : Array Value} {ev : Value} {code : Code} {Q : Exit → Act → World → Prop} {a : Act} (h : E0 w b bb cs rb ev W)
    (k : ∀ W', Hid (E0 w b bb cs rb ev W') → code.wp Tryz.prog Q a W') : code.wp Tryz.prog Q a W := k W (Lib.hid h)

/-- The scanner's cells behind the end. -/
structure Sz (cs : Array Value) (g : Nat) : Prop where
  size : cs.size = 1044
  pos : cs[1026]? = some (.int .i64 0)
  fin : cs[1027]? = some (.int .i64 0)
  base : ∃ v, cs[1028]? = some (.int .i64 v)
  line : ∃ v, cs[1029]? = some (.int .i64 v)
  column : ∃ v, cs[1030]? = some (.int .i64 v)
  lline : ∃ v, cs[1031]? = some (.int .i64 v)
  lc : cs[1032]? = some (.int .i64 0)
  tb : cs[1033]? = some (.slice (some ⟨g, 0, none⟩) 1 64)
  to : cs[1034]? = some (.int .i64 0)
  tr : cs[1035]? = some (.int .i8 0)
  tp : cs[1036]? = some (.int .i64 0)
  te : ∃ v, cs[1037]? = some (.int .i64 v)
  err : cs[1039]? = some .nilIface
  pfn : ∃ v, cs[1040]? = some (.string v)
  po : ∃ v, cs[1041]? = some (.int .i64 v)
  pl : ∃ v, cs[1042]? = some (.int .i64 v)
  pc : ∃ v, cs[1043]? = some (.int .i64 v)

def AtEnd (w : World) (b bb : Nat) (cs : Array Value) (x : Nat) (e' : Ending) (w' : World) : Prop :=
  e' = .returned (.int .i32 (-1)) ∧ Ex (Tw b bb) w w' ∧ ∃ cs' g, Blk w' b cs' 241 ∧ Sz cs' g ∧ w.heap.size ≤ g ∧ Blk w' g (splice z64 0 [.int .u8 x]).toArray 5 ∧ cs'[1038]? = cs[1038]?

set_option maxHeartbeats 4000000 in
theorem next_end (w : World) (b bb tb c i n : Nat) (a : Addr) (cs : Array Value) (T : List UInt8) (hB : Blk w b cs 241) (hn : T.length = n) (hin : n = i + 1) (hS : Sc cs T n 1 i) (h0 : cs[0]? = some (.iface 223 (.pointer (some ⟨bb, 0, none⟩))))
    (hR : Blk w bb #[.slice (some ⟨tb, 0, none⟩) n c, .int .i64 n, .int .i8 (-1)] 239) (hG : w.cell? ⟨0, 0, none⟩ = some (.iface 341 (.pointer (some a)))) (hne : b ≠ bb) (hb0 : b ≠ 0) (hbb : bb ≠ 0) :
    Calls Tryz.prog 122 #[.pointer (some ⟨b, 0, none⟩)] w (AtEnd w b bb cs (chr T i)) := by
  have hsh := hS.short
  rw [hn] at hsh
  have H0 := Lib.hid h0
  have HS := Lib.hid hS
  have hW : E0 w b bb cs _ _ w := ⟨Ex.refl _ _, hB, hR, hG⟩
  have HW := Lib.hid hW
  have HN := Lib.hid hn
  have HIN := Lib.hid hin
  have hmk : cs[1 + n]? = some (.int .u8 128) := by rw [← hn]; exact hS.mark
  have hfn : cs[1027]? = some (.int .i64 n) := by rw [← hn]; exact hS.fin
  have HF := Lib.hid hfn
  have cse := (hB.cell (1 + n)).trans hmk
  have c1026 := (hB.cell 1026).trans hS.pos
  have lt := hB.lt
  clear hB hS hR h0 hW hG hn hin hmk hfn
  go_enter Tryz.func122, Tryz.ntmps122
  go_wp2_with fail
  go_quiet (fail)
  go_wp2_with fail
  refine (HW.out.drew nq).next ?_
  clear HW c1026 lt cse
  intro W1 HW1
  have c1026 := (HW1.out.hB.cell 1026).trans HS.out.pos
  have c1027 := (HW1.out.hB.cell 1027).trans HF.out
  have c1036 := (HW1.out.hB.cell 1036).trans HS.out.tp
  have lt := HW1.out.hB.lt
  refine wp_loop_rounds 1 ?_
  rw [rounds_succ]
  go_wp2_with fail
  have hsl := fun W => slice_buf W b n n (Nat.le_refl _) (by omega)
  simp only [Nat.sub_self] at hsl
  have hw4 : IntKind.i64.wrap ((n : Int) + 4) = n + 4 := IntWalk.i64_in _ (by omega)
  have hd4 : decide ((n : Int) < n + 4) = true := by simp; omega
  go_quiet ((go_at_call 158; exact Calls.quiet_of_same (fullRune_empty _ _ _)))
  go_wp2_with fail
  refine (HW1.out.drew nq).next ?_
  clear HW1 c1026 c1027 c1036 lt hw4 hd4
  intro W2 HW2
  have c1026 := (HW2.out.hB.cell 1026).trans HS.out.pos
  have c1036 := (HW2.out.hB.cell 1036).trans HS.out.tp
  have lt := HW2.out.hB.lt
  have hi0 : 0 ≤ (i : Int) := by omega
  have hsl2 := fun W => slice_buf W b i n (by have := HIN.out; omega) (by omega)
  have en : n - i = 1 := by have := HIN.out; omega
  simp only [en] at hsl2
  clear en
  have hbi : (T.getD i 0).toNat = chr T i := rfl
  have hcb : cs[1 + i]? = some (.int .u8 (chr T i)) := HS.out.bytes i (by have := HN.out; have := HIN.out; omega)
  have HWR := Lib.hid (fun W (h : E0 w b bb cs #[.slice (some ⟨tb, 0, none⟩) n c, .int .i64 n, .int .i8 (-1)] (.iface 341 (.pointer (some a))) W) => write_one W b (1 + i) (1025 - i) 1033 cs (chr T i) h.hB HS.out.size (by omega) (by have := HIN.out; omega) HS.out.tb HS.out.to HS.out.tr hcb)
  clear hcb
  go_still_tail 15, (by kernel_rfl)
  go_wp2_with fail
  refine (HWR.out _ (HW2.out.go ((Ex.refl _ _).drew))).mono ?_
  rintro e' W3 ⟨rfl, g, hg, hG3, hx3, hB3⟩
  have hE2 := HW2.out.go ((Ex.refl _ _).drew)
  have hEx3 : Ex (Tw b bb) w W3 := hE2.ex.trans (hx3.mono (fun k h => Or.inl h))
  have hg' : w.heap.size ≤ g := Nat.le_trans hE2.ex.size hg
  have hgb : g ≠ b := by have := hE2.hB.lt; omega
  have hgbb : g ≠ bb := by have := hE2.hR.lt; omega
  have hW3 : E0 W3 b bb (cs.setIfInBounds 1033 (.slice (some ⟨g, 0, none⟩) 1 64)) #[.slice (some ⟨tb, 0, none⟩) n c, .int .i64 n, .int .i8 (-1)] (.iface 341 (.pointer (some a))) W3 :=
    ⟨Ex.refl _ _, hB3, hE2.hR.ex hx3 (fun h => hne h.symm), hx3.got hE2.hG (fun h => hb0 h.symm)⟩
  have HW3 := Lib.hid hW3
  have HX3 := Lib.hid (And.intro hEx3 (And.intro hG3 (And.intro hgb (And.intro hgbb hg'))))
  have c1036 := (hB3.cell 1036).trans (set_ne HS.out.tp (by omega))
  have lt := hB3.lt
  have f := hB3.free
  clear hE2 hEx3 hW3 hx3 hB3 hG3 HWR hsl2 hbi hi0 hg
  go_wp2_with fail
  refine (HW3.out.set hne hb0 1036 (.int .i64 0)).next ?_
  clear HW3 c1036 lt f
  intro W4 HW4
  have c1026 := (HW4.out.hB.cell 1026).trans (set_ne (set_ne HS.out.pos (by omega)) (by omega))
  have c1027 := (HW4.out.hB.cell 1027).trans (set_ne (set_ne HF.out (by omega)) (by omega))
  have lt := HW4.out.hB.lt
  have hsl4 := fun W => slice_all W b
  go_still_tail 16, (by kernel_rfl)
  have u5 : Tryz.prog.underlying 62 = some (.slice 5) := by kernel_rfl
  have i5 : (Tryz.prog.info? 5).map (·.size) = some 1 := by kernel_rfl
  refine wpList_copy_nothing rfl (.tmp 73) (.tmp 85) 62 62 rfl 5 u5 i5 (some ⟨b, 1, none⟩) (some ⟨b, 1 + n, none⟩) 1025 1025 0 (1025 - n) rfl rfl rfl ?_
  clear u5 i5
  go_wp2_with fail
  refine (HW4.out.go ((Ex.refl _ _).drew)).next ?_
  clear HW4 c1026 c1027 lt hsl4 hsl
  intro W5 HW5
  obtain ⟨cb, q0⟩ := HS.out.base
  have c1028 := (HW5.out.hB.cell 1028).trans (set_ne (set_ne q0 (by omega)) (by omega))
  have c1026 := (HW5.out.hB.cell 1026).trans (set_ne (set_ne HS.out.pos (by omega)) (by omega))
  have lt := HW5.out.hB.lt
  have f := HW5.out.hB.free
  clear q0
  go_still_tail 11, (by kernel_rfl)
  go_wp2_with fail
  obtain ⟨cb', hcb⟩ : ∃ x, x = wrap64 (cb + n) := ⟨_, rfl⟩
  rw [← hcb]
  clear hcb
  refine ((HW5.out.set hne hb0 1028 (.int .i64 cb')).go ((Ex.refl _ _).drew)).next ?_
  clear HW5 c1026 c1028 lt f
  intro W6 HW6
  have c1026 := (HW6.out.hB.cell 1026).trans (set_ne (set_ne (set_ne HS.out.pos (by omega)) (by omega)) (by omega))
  have c1027 := (HW6.out.hB.cell 1027).trans (set_ne (set_ne (set_ne HF.out (by omega)) (by omega)) (by omega))
  have lt := HW6.out.hB.lt
  have hw0 : IntKind.i64.wrap ((n : Int) - n) = 0 := by rw [Int.sub_self]; kernel_rfl
  go_quiet (fail)
  go_wp2_with fail
  refine (HW6.out.drew nq).next ?_
  clear HW6 c1026 c1027 lt hw0
  intro W7 HW7
  have c0 := (HW7.out.hB.cell 0).trans (set_ne (set_ne (set_ne H0.out (by omega)) (by omega)) (by omega))
  have lt := HW7.out.hB.lt
  have ltb := HW7.out.hR.lt
  have hsl3 := fun W => slice_1024 W b
  have e0 := read_ahead
  have e1 := read_method
  have HRD := Lib.hid (fun W (h : E0 W3 b bb (((cs.setIfInBounds 1033 (.slice (some ⟨g, 0, none⟩) 1 64)).setIfInBounds 1036 (.int .i64 0)).setIfInBounds 1028 (.int .i64 cb')) #[.slice (some ⟨tb, 0, none⟩) n c, .int .i64 n, .int .i8 (-1)] (.iface 341 (.pointer (some a))) W) =>
    read_eof W bb c n (some ⟨b, 1, none⟩) 1024 1025 (some ⟨tb, 0, none⟩) (.iface 341 (.pointer (some a))) (-1) h.hR (by omega) hbb h.hG)
  go_region_with (go_at_call 379; refine (HRD.out _ (HW7.out.go ((Ex.refl _ _).drew))).mono ?_; rintro e' W8 ⟨rfl, hx8, hR8⟩)
  have hE7 := HW7.out.go ((Ex.refl _ _).drew)
  have hW8 : E0 W3 b bb _ #[.slice (some ⟨tb, 0, none⟩) 0 c, .int .i64 0, .int .i8 0] (.iface 341 (.pointer (some a))) W8 :=
    ⟨hE7.ex.trans (hx8.mono (fun k h => Or.inr h)), hE7.hB.ex hx8 (fun h => hne h), hR8, hx8.got hE7.hG (fun h => hbb h.symm)⟩
  have HW8 := Lib.hid hW8
  clear hE7 hW8 hx8 hR8 HW7 c0 lt ltb HRD hsl3 e0 e1
  obtain ⟨c8, hc8⟩ : ∃ x, x = ((cs.setIfInBounds 1033 (.slice (some ⟨g, 0, none⟩) 1 64)).setIfInBounds 1036 (.int .i64 0)).setIfInBounds 1028 (.int .i64 cb') := ⟨_, rfl⟩
  rw [← hc8] at HW8
  have HC8 := Lib.hid hc8
  have z8 : c8.size = 1044 := by rw [hc8]; simpa using HS.out.size
  have p8 : ∀ i, i ≠ 1033 → i ≠ 1036 → i ≠ 1028 → c8[i]? = cs[i]? := fun i h1 h2 h3 => by
    rw [hc8, Array.getElem?_setIfInBounds_ne (by omega), Array.getElem?_setIfInBounds_ne (by omega), Array.getElem?_setIfInBounds_ne (by omega)]
  have P8 := Lib.hid p8
  have Z8 := Lib.hid z8
  clear p8 hc8 z8
  have c1026 := (HW8.out.hB.cell 1026).trans ((P8.out _ (by omega) (by omega) (by omega)).trans HS.out.pos)
  have c1027 := (HW8.out.hB.cell 1027).trans ((P8.out _ (by omega) (by omega) (by omega)).trans HF.out)
  have lt := HW8.out.hB.lt
  have f := HW8.out.hB.free
  go_wp2_with fail
  refine (((HW8.out.set hne hb0 1026 (.int .i64 0))).set hne hb0 1027 (.int .i64 0)).next ?_
  clear HW8 c1026 c1027 lt f
  intro W9 HW9
  have c1027 := (HW9.out.hB.cell 1027).trans (set_at (by simpa using Z8.out) (by omega))
  have lt := HW9.out.hB.lt
  have f := HW9.out.hB.free
  have cz : ∃ v, W9.cell? ⟨b, 1, none⟩ = some v := by
    rw [HW9.out.hB.cell]
    exact ⟨_, Array.getElem?_eq_getElem (by simp [Z8.out])⟩
  obtain ⟨vz, cz⟩ := cz
  obtain ⟨cc, q2⟩ := HS.out.column
  have c1030 := (HW9.out.hB.cell 1030).trans (set_ne (set_ne ((P8.out _ (by omega) (by omega) (by omega)).trans q2) (by omega)) (by omega))
  have c1032 := (HW9.out.hB.cell 1032).trans (set_ne (set_ne ((P8.out _ (by omega) (by omega) (by omega)).trans HS.out.lc) (by omega)) (by omega))
  have hg0 := HW9.out.hG
  have lg0 := some_lt hg0
  have e2 := neq_nil a
  have e3 := neq_self a
  have hb0' : ¬ (0 = b) := fun h => hb0 h.symm
  clear q2
  go_still_tail 8, (by kernel_rfl)
  go_wp2
  go_ret
  have hE9 := ((((HW9.out.set hne hb0 1 (.int .u8 128)).set hne hb0 1030 (.int .i64 (wrap64 (cc + 1)))).set hne hb0 1032 (.int .i64 0)).go ((Ex.refl _ _).drew))
  have tbs := HS.out
  obtain ⟨cl, q1⟩ := tbs.line
  obtain ⟨ll, q3⟩ := tbs.lline
  obtain ⟨te, q4⟩ := tbs.te
  obtain ⟨pf, q5⟩ := tbs.pfn
  obtain ⟨po, q6⟩ := tbs.po
  obtain ⟨pl, q7⟩ := tbs.pl
  obtain ⟨pc, q8⟩ := tbs.pc
  have k5 : ∀ {i : Nat} {u : Value}, c8[i]? = some u → i ≠ 1026 → i ≠ 1027 → i ≠ 1 → i ≠ 1030 → i ≠ 1032 →
      (((((c8.setIfInBounds 1026 (.int .i64 0)).setIfInBounds 1027 (.int .i64 0)).setIfInBounds 1 (.int .u8 128)).setIfInBounds 1030 (.int .i64 (wrap64 (cc + 1)))).setIfInBounds 1032 (.int .i64 0))[i]? = some u :=
    fun h h1 h2 h3 h4 h5 => set_ne (set_ne (set_ne (set_ne (set_ne h (by omega)) (by omega)) (by omega)) (by omega)) (by omega)
  have k8 : ∀ {i : Nat} {u : Value}, cs[i]? = some u → i ≠ 1033 → i ≠ 1036 → i ≠ 1028 → c8[i]? = some u := fun h h1 h2 h3 => (P8.out _ h1 h2 h3).trans h
  have zs := HS.out.size
  refine ⟨rfl, HX3.out.1.trans hE9.ex, _, g, hE9.hB, ?_, HX3.out.2.2.2.2, HX3.out.2.1.ex hE9.ex (fun h => ?_), ?_⟩
  · refine ⟨by simp [Z8.out], ?_, ?_, ?_, ?_, ?_, ?_, ?_, ?_, ?_, ?_, ?_, ?_, ?_, ?_, ?_, ?_, ?_⟩
    · exact set_ne (set_ne (set_ne (set_ne (set_at Z8.out (by omega)) (by omega)) (by omega)) (by omega)) (by omega)
    · exact set_ne (set_ne (set_ne (set_at (by simp [Z8.out]) (by omega)) (by omega)) (by omega)) (by omega)
    · exact ⟨cb', k5 (by rw [HC8.out]; exact set_at (by simp [zs]) (by omega)) (by omega) (by omega) (by omega) (by omega) (by omega)⟩
    · exact ⟨cl, k5 (k8 q1 (by omega) (by omega) (by omega)) (by omega) (by omega) (by omega) (by omega) (by omega)⟩
    · exact ⟨_, set_ne (set_at (by simp [Z8.out]) (by omega)) (by omega)⟩
    · exact ⟨ll, k5 (k8 q3 (by omega) (by omega) (by omega)) (by omega) (by omega) (by omega) (by omega) (by omega)⟩
    · exact set_at (by simp [Z8.out]) (by omega)
    · exact k5 (by rw [HC8.out]; exact set_ne (set_ne (set_at zs (by omega)) (by omega)) (by omega)) (by omega) (by omega) (by omega) (by omega) (by omega)
    · exact k5 (k8 HS.out.to (by omega) (by omega) (by omega)) (by omega) (by omega) (by omega) (by omega) (by omega)
    · exact k5 (k8 HS.out.tr (by omega) (by omega) (by omega)) (by omega) (by omega) (by omega) (by omega) (by omega)
    · exact k5 (by rw [HC8.out]; exact set_ne (set_at (by simp [zs]) (by omega)) (by omega)) (by omega) (by omega) (by omega) (by omega) (by omega)
    · exact ⟨te, k5 (k8 q4 (by omega) (by omega) (by omega)) (by omega) (by omega) (by omega) (by omega) (by omega)⟩
    · exact k5 (k8 HS.out.err (by omega) (by omega) (by omega)) (by omega) (by omega) (by omega) (by omega) (by omega)
    · exact ⟨pf, k5 (k8 q5 (by omega) (by omega) (by omega)) (by omega) (by omega) (by omega) (by omega) (by omega)⟩
    · exact ⟨po, k5 (k8 q6 (by omega) (by omega) (by omega)) (by omega) (by omega) (by omega) (by omega) (by omega)⟩
    · exact ⟨pl, k5 (k8 q7 (by omega) (by omega) (by omega)) (by omega) (by omega) (by omega) (by omega) (by omega)⟩
    · exact ⟨pc, k5 (k8 q8 (by omega) (by omega) (by omega)) (by omega) (by omega) (by omega) (by omega) (by omega)⟩
  · rcases h with h | h
    · exact HX3.out.2.2.1 h
    · exact HX3.out.2.2.2.1 h
  · (repeat rw [Array.getElem?_setIfInBounds_ne (by omega)])
    exact P8.out _ (by omega) (by omega) (by omega)
end Go.Proofs.YtbepocojafbbbaaGreatDoor
