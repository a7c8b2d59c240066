/- The parser of expressions on the few forms that are needed: members and primaries. -/
import Derived.Test.YtbepocojafbbbaaGreatDoorPc
namespace Go.Proofs.YtbepocojafbbbaaGreatDoor
open Go.RowKit
set_option maxRecDepth 100000

theorem member_pass (X : PX) (k k' : Nat) (t : TypeId) (x : Value) (h1 : (X.tx k' == [46]) = false) (h2 : (X.tx k' == [91]) = false) (h : OKx 260 X k t x k') :
    OKx 252 X k t x k' := by
  intro w hp
  have H := Lib.hid h
  clear h
  go_enter Tryz.func252, Tryz.ntmps252
  go_wp2_with fail
  refine (H.out _ (hp.ex ((Ex.refl _ _).alloc _))).mono ?_
  rintro e w1 ⟨rfl, hp1, hx1⟩
  obtain ⟨c1, f1⟩ := res_cell hp hx1
  have hE1 := ((Ex.refl (On X.b) w).alloc (.cells #[.nilIface] 296)).trans hx1
  have n0 := hp.ne_ w.heap.size (Nat.le_refl _)
  have s1 := some_lt c1
  go_wp2_with fail
  refine wp_loop_once ?_
  go_wp2_with fail
  refine (access_no X k' t x h1 h2 _ (hp1.ex ((Ex.refl _ _).alloc _))).mono ?_
  rintro e w2 ⟨rfl, hx2⟩
  have hx12 := ((Ex.refl No w1).alloc _).trans hx2
  have c2 := hx12.got c1 no_
  have f2 := hx12.thaw c1 f1 no_
  have r2 := hx2.got (new_cell w1 #[.iface t x] 296 0) no_
  have z2 := hx2.thaw (new_cell w1 #[.iface t x] 296 0) (new_free _ _ _ _) no_
  have l2 := some_lt c2
  have m2 := some_lt r2
  have hp2 := hp1.ex hx12
  have hE2 := hE1.no hx12
  go_wp2
  have N1 := node_end' hp hp2 hE2 w1.heap.size 0 (Nat.le_of_lt s1) (.iface t x)
  have N2 := node_end' hp N1.1 N1.2 w.heap.size 0 (Nat.le_refl _) (.iface t x)
  exact bodyPost_ret (v := .tuple #[.agg #[.iface t x], .nilIface]) (by simp [results, Tryz.results252, go_sem, c2]) rfl ⟨rfl, N2⟩

theorem member_name (X : PX) (k k' : Nat) (t : TypeId) (x : Value) (h1 : (X.tx k' == [46]) = true) (hty : (X.tok (X.nx k')).ty = 1) (h2 : (X.tx (X.nx (X.nx k')) == [40]) = false)
    (h3 : (X.tx (X.nx (X.nx k')) == [46]) = false) (h4 : (X.tx (X.nx (X.nx k')) == [91]) = false) (h : OKx 260 X k t x k') :
    OKx 252 X k 187 (.agg #[.iface t x, .string (X.tok (X.nx k')).tx]) (X.nx (X.nx k')) := by
  intro w hp
  have H := Lib.hid h
  clear h
  go_enter Tryz.func252, Tryz.ntmps252
  go_wp2_with fail
  refine (H.out _ (hp.ex ((Ex.refl _ _).alloc _))).mono ?_
  rintro e w1 ⟨rfl, hp1, hx1⟩
  obtain ⟨c1, f1⟩ := res_cell hp hx1
  have hE1 := ((Ex.refl (On X.b) w).alloc (.cells #[.nilIface] 296)).trans hx1
  have n0 := hp.ne_ w.heap.size (Nat.le_refl _)
  have s1 := some_lt c1
  go_wp2_with fail
  refine wp_loop_rounds 2 ?_
  rw [rounds_succ]
  go_wp2_with fail
  refine (access_name X k' t x h1 hty h2 _ (hp1.ex ((Ex.refl _ _).alloc _))).mono ?_
  rintro e w2 ⟨rfl, hp2, hx2⟩
  have hx12 := ((Ex.refl (On X.b) w1).alloc _).trans hx2
  have n1 := hp1.ne_ w1.heap.size (Nat.le_refl _)
  have c2 := hx12.got c1 n0
  have f2 := hx12.thaw c1 f1 n0
  have r2 := hx2.got (new_cell w1 #[.iface t x] 296 0) n1
  have z2 := hx2.thaw (new_cell w1 #[.iface t x] 296 0) (new_free _ _ _ _) n1
  have l2 := some_lt c2
  have m2 := some_lt r2
  have hE2 := hE1.trans hx12
  go_wp2_with fail
  rw [rounds_succ]
  have M := node_end' hp1 hp2 hx12 w1.heap.size 0 (Nat.le_refl _) (.iface 187 (.agg #[.iface t x, .string (X.tok (X.nx k')).tx]))
  have cs : (w2.setCell ⟨w1.heap.size, 0, none⟩ (.iface 187 (.agg #[.iface t x, .string (X.tok (X.nx k')).tx]))).cell? ⟨w.heap.size, 0, none⟩ = some .nilIface := by
    rw [World.cell?_setCell_other _ _ _ _ (fun e => by have := congrArg Addr.block e; simp at this; omega)]; exact c2
  have rs : (w2.setCell ⟨w1.heap.size, 0, none⟩ (.iface 187 (.agg #[.iface t x, .string (X.tok (X.nx k')).tx]))).cell? ⟨w1.heap.size, 0, none⟩ = some (.iface 187 (.agg #[.iface t x, .string (X.tok (X.nx k')).tx])) :=
    World.cell?_setCell_same _ _ _ r2
  have fs : (w2.setCell ⟨w1.heap.size, 0, none⟩ (.iface 187 (.agg #[.iface t x, .string (X.tok (X.nx k')).tx]))).frozen? ⟨w.heap.size, 0, none⟩ = false := by simp [f2]
  have zs : (w2.setCell ⟨w1.heap.size, 0, none⟩ (.iface 187 (.agg #[.iface t x, .string (X.tok (X.nx k')).tx]))).frozen? ⟨w1.heap.size, 0, none⟩ = false := by simp [z2]
  have C := Lib.hid cs
  have R := Lib.hid rs
  have F := Lib.hid fs
  have Z := Lib.hid zs
  clear cs rs fs zs
  go_wp2_with fail
  refine (access_no X (X.nx (X.nx k')) _ _ h3 h4 _ M.1).mono ?_
  rintro e w3 ⟨rfl, hx3⟩
  have c3 := hx3.got C.out no_
  have f3 := hx3.thaw C.out F.out no_
  have r3 := hx3.got R.out no_
  have z3 := hx3.thaw R.out Z.out no_
  have l3 := some_lt c3
  have m3 := some_lt r3
  have hp3 := M.1.ex hx3
  have hE3 := (hE1.trans M.2).no hx3
  go_wp2
  have N1 := node_end' hp hp3 hE3 w1.heap.size 0 (Nat.le_of_lt s1) (.iface 187 (.agg #[.iface t x, .string (X.tok (X.nx k')).tx]))
  have N2 := node_end' hp N1.1 N1.2 w.heap.size 0 (Nat.le_refl _) (.iface 187 (.agg #[.iface t x, .string (X.tok (X.nx k')).tx]))
  exact bodyPost_ret (v := .tuple #[.agg #[.iface 187 (.agg #[.iface t x, .string (X.tok (X.nx k')).tx])], .nilIface]) (by simp [results, Tryz.results252, go_sem, c3]) rfl ⟨rfl, N2⟩

theorem primary_ctx (X : PX) (k : Nat) (hty : (X.tok k).ty = 1) (h1 : (X.tx k == [99, 111, 110, 116, 101, 120, 116]) = true) (h2 : (X.tx (X.nx k) == [58, 58]) = false) (h3 : (X.tx (X.nx k) == [40]) = false) :
    OKx 260 X k 179 (.agg #[.string ctxB]) (X.nx k) := by
  intro w hp
  have fT := field_text
  go_enter Tryz.func260, Tryz.ntmps260
  go_wp2_with fail
  refine (advance_spec X k _ (hp.ex (((Ex.refl _ _).alloc _).alloc _))).mono ?_
  rintro e w1 ⟨rfl, hp1, hx1⟩
  have n0 := hp.ne_ w.heap.size (Nat.le_refl _)
  have n1 := hp.ne_ (w.heap.size + 1) (Nat.le_succ _)
  have c1 := hx1.got (p := ⟨w.heap.size, 0, none⟩) (v := .nilIface) (by simp [go_sem]) n0
  have f1 := hx1.thaw (p := ⟨w.heap.size, 0, none⟩) (v := .nilIface) (by simp [go_sem]) (by simp [go_sem]) n0
  have d1 := hx1.got (p := ⟨w.heap.size + 1, 0, none⟩) (v := .nilIface) (by simp [go_sem]) n1
  have g1 := hx1.thaw (p := ⟨w.heap.size + 1, 0, none⟩) (v := .nilIface) (by simp [go_sem]) (by simp [go_sem]) n1
  have hE1 := ((((Ex.refl (On X.b) w).alloc (.cells #[.nilIface] 296)).alloc (.cells #[.nilIface] 296)).trans hx1)
  rcases ht : X.tok k with ⟨ty, fn, o, l, c, tx⟩
  simp only [PX.tx, ht] at hty h1
  subst hty
  simp only [TokC.val]
  clear ht
  have q1 : (tx.toList == [116, 114, 117, 101]) = false := by rw [beq_iff_eq.1 h1]; rfl
  have q2 : (tx.toList == [102, 97, 108, 115, 101]) = false := by rw [beq_iff_eq.1 h1]; rfl
  have q3 : (tx.toList == [112, 114, 105, 110, 99, 105, 112, 97, 108]) = false := by rw [beq_iff_eq.1 h1]; rfl
  have q4 : (tx.toList == [97, 99, 116, 105, 111, 110]) = false := by rw [beq_iff_eq.1 h1]; rfl
  have q5 : (tx.toList == [114, 101, 115, 111, 117, 114, 99, 101]) = false := by rw [beq_iff_eq.1 h1]; rfl
  go_wp2_with (first | (go_at_call 249; go_in) | (go_at_call 145; go_in) | (go_at_call 141; go_in))
  have hA : ∀ o : Obj, Ex No w1 ((((w1.alloc o).alloc o).alloc o).alloc o) := fun o => ((((Ex.refl No w1).alloc _).alloc _).alloc _).alloc _
  refine (peek_spec X (X.nx k) _ (hp1.ex (hA _))).mono ?_
  rintro e w2 ⟨rfl, hx2⟩
  have hx12 := (hA _).trans hx2
  have t2 := hx2.got (p := ⟨w1.heap.size, 5, none⟩) (v := .string tx) (by simp [go_sem]) no_
  have c2 := hx12.got c1 no_
  have f2 := hx12.thaw c1 f1 no_
  have d2 := hx12.got d1 no_
  have g2 := hx12.thaw d1 g1 no_
  have hp2 := hp1.ex hx12
  have hE2 := hE1.no hx12
  have u2 := some_lt t2
  have l2 := some_lt c2
  have m2 := some_lt d2
  rcases ht : X.tok (X.nx k) with ⟨ty', fn', o', l', c', tx'⟩
  simp only [PX.tx, ht] at h2 h3
  simp only [TokC.val]
  clear ht
  go_wp2_with fail
  refine (context_spec _).mono ?_
  rintro e w3 ⟨rfl, hx3⟩
  have hx23 := ((Ex.refl No w2).alloc _).trans hx3
  have c3 := hx23.got c2 no_
  have f3 := hx23.thaw c2 f2 no_
  have d3 := hx23.got d2 no_
  have g3 := hx23.thaw d2 g2 no_
  have l3 := some_lt c3
  have m3 := some_lt d3
  have N1 := node_end' hp (hp2.ex hx23) (hE2.no hx23) (w.heap.size + 1) 0 (Nat.le_succ _) (.iface 179 (.agg #[.string ctxB]))
  have N2 := node_end' hp N1.1 N1.2 w.heap.size 0 (Nat.le_refl _) (.iface 179 (.agg #[.string ctxB]))
  go_wp2_with fail
  exact bodyPost_ret (v := .tuple #[.agg #[.iface 179 (.agg #[.string ctxB])], .nilIface]) (by simp [results, Tryz.results260, go_sem, c3]) rfl ⟨rfl, N2⟩

theorem primary_paren (X : PX) (k k' : Nat) (t : TypeId) (x : Value) (hty : (X.tok k).ty = 5) (h1 : (X.tx k == [40]) = true) (h2 : X.tx k' = [41]) (h : OKx 157 X (X.nx k) t x k') :
    OKx 260 X k t x (X.nx k') := by
  intro w hp
  have fT := field_text
  have H := Lib.hid h
  clear h
  go_enter Tryz.func260, Tryz.ntmps260
  go_wp2_with fail
  refine (advance_spec X k _ (hp.ex (((Ex.refl _ _).alloc _).alloc _))).mono ?_
  rintro e w1 ⟨rfl, hp1, hx1⟩
  have n0 := hp.ne_ w.heap.size (Nat.le_refl _)
  have n1 := hp.ne_ (w.heap.size + 1) (Nat.le_succ _)
  have c1 := hx1.got (p := ⟨w.heap.size, 0, none⟩) (v := .nilIface) (by simp [go_sem]) n0
  have f1 := hx1.thaw (p := ⟨w.heap.size, 0, none⟩) (v := .nilIface) (by simp [go_sem]) (by simp [go_sem]) n0
  have d1 := hx1.got (p := ⟨w.heap.size + 1, 0, none⟩) (v := .nilIface) (by simp [go_sem]) n1
  have g1 := hx1.thaw (p := ⟨w.heap.size + 1, 0, none⟩) (v := .nilIface) (by simp [go_sem]) (by simp [go_sem]) n1
  have hE1 := ((((Ex.refl (On X.b) w).alloc (.cells #[.nilIface] 296)).alloc (.cells #[.nilIface] 296)).trans hx1)
  rcases ht : X.tok k with ⟨ty, fn, o, l, c, tx⟩
  simp only [PX.tx, ht] at hty h1
  subst hty
  simp only [TokC.val]
  clear ht
  have q1 : (tx.toList == [116, 114, 117, 101]) = false := by rw [beq_iff_eq.1 h1]; rfl
  have q2 : (tx.toList == [102, 97, 108, 115, 101]) = false := by rw [beq_iff_eq.1 h1]; rfl
  go_wp2_with (first | (go_at_call 249; go_in) | (go_at_call 145; go_in) | (go_at_call 141; go_in))
  have hA : ∀ o : Obj, Ex No w1 ((((w1.alloc o).alloc o).alloc o).alloc o) := fun o => ((((Ex.refl No w1).alloc _).alloc _).alloc _).alloc _
  refine (H.out _ (hp1.ex (hA _))).mono ?_
  rintro e w2 ⟨rfl, hp2, hx2⟩
  have hx12 := (hA _).of_no.trans hx2
  have c2 := hx12.got c1 n0
  have f2 := hx12.thaw c1 f1 n0
  have d2 := hx12.got d1 n1
  have g2 := hx12.thaw d1 g1 n1
  have hE2 := hE1.trans hx12
  go_wp2_with fail
  refine (exact_ok X k' _ _ (hp2.ex ((Ex.refl _ _).alloc _)) (by show X.tx k' = _; rw [h2]; simp [go_sem])).mono ?_
  rintro e w3 ⟨rfl, hp3, hx3⟩
  have hx23 := ((Ex.refl (On X.b) w2).alloc _).trans hx3
  have c3 := hx23.got c2 n0
  have f3 := hx23.thaw c2 f2 n0
  have d3 := hx23.got d2 n1
  have g3 := hx23.thaw d2 g2 n1
  have e3 := hx3.got (new_cell w2 #[.iface t x] 296 0) (hp2.ne_ _ (Nat.le_refl _))
  have hE3 := hE2.trans hx23
  have N1 := node_end' hp hp3 hE3 (w.heap.size + 1) 0 (Nat.le_succ _) (.iface t x)
  have N2 := node_end' hp N1.1 N1.2 w.heap.size 0 (Nat.le_refl _) (.iface t x)
  go_wp2_with fail
  exact bodyPost_ret (v := .tuple #[.agg #[.iface t x], .nilIface]) (by simp [results, Tryz.results260, go_sem, c3]) rfl ⟨rfl, N2⟩

theorem and_two (X : PX) (k k1 k2 : Nat) (t u : TypeId) (x y : Value) (h1 : (X.tx k1 == [38, 38]) = true) (h2 : (X.tx k2 == [38, 38]) = false)
    (h : OKx 210 X k t x k1) (h' : OKx 210 X (X.nx k1) u y k2) :
    OKx 198 X k 254 (.agg #[.iface t x, .iface u y]) k2 := by
  intro w hp
  have fT := field_text
  have H := Lib.hid h
  have H' := Lib.hid h'
  clear h h'
  go_enter Tryz.func198, Tryz.ntmps198
  go_wp2_with fail
  refine (H.out _ (hp.ex ((Ex.refl _ _).alloc _))).mono ?_
  rintro e w2 ⟨rfl, hp2, hx2⟩
  have n0 := hp.ne_ w.heap.size (Nat.le_refl _)
  obtain ⟨c2, f2⟩ := res_cell hp hx2
  have s2 := some_lt c2
  have hE2 := ((Ex.refl (On X.b) w).alloc (.cells #[.nilIface] 296)).trans hx2
  go_wp2_with fail
  refine wp_loop_rounds 2 ?_
  rw [rounds_succ]
  go_wp2_with fail
  refine (peek_spec X k1 _ (hp2.ex ((Ex.refl _ _).alloc _))).mono ?_
  rintro e w3 ⟨rfl, hx3⟩
  rcases ht : X.tok k1 with ⟨ty, fn, o, l, c, tx⟩
  simp only [PX.tx, ht] at h1
  simp only [TokC.val]
  clear ht
  have hx23 := ((Ex.refl No w2).alloc _).trans hx3
  have c3 := hx23.got c2 no_
  have f3 := hx23.thaw c2 f2 no_
  have d3 := hx3.got (new_cell w2 #[.iface t x] 296 0) no_
  have g3 := hx3.thaw (new_cell w2 #[.iface t x] 296 0) (new_free _ _ _ _) no_
  have hp3 := hp2.ex hx23
  have hE3 := hE2.no hx23
  have n1 := hp2.ne_ w2.heap.size (Nat.le_refl _)
  go_wp2_with fail
  refine (advance_spec X k1 _ hp3).mono ?_
  rintro e w4 ⟨rfl, hp4, hx4⟩
  have c4 := hx4.got c3 n0
  have f4 := hx4.thaw c3 f3 n0
  have d4 := hx4.got d3 n1
  have g4 := hx4.thaw d3 g3 n1
  have hE4 := hE3.trans hx4
  go_wp2_with fail
  refine (H'.out _ hp4).mono ?_
  rintro e w5 ⟨rfl, hp5, hx5⟩
  have c5 := hx5.got c4 n0
  have f5 := hx5.thaw c4 f4 n0
  have d5 := hx5.got d4 n1
  have g5 := hx5.thaw d4 g4 n1
  have hE5 := hE4.trans hx5
  have l5 := some_lt c5
  have m5 := some_lt d5
  go_wp2_with fail
  refine (bAnd_spec _ _ _ _ _).mono ?_
  rintro e w6 ⟨rfl, hx6⟩
  have hx56 := ((Ex.refl No w5).alloc _).trans hx6
  have c6 := hx56.got c5 no_
  have f6 := hx56.thaw c5 f5 no_
  have d6 := hx56.got d5 no_
  have g6 := hx56.thaw d5 g5 no_
  have l6 := some_lt c6
  have m6 := some_lt d6
  have hp6 := hp5.ex hx56
  have hE6 := hE5.no hx56
  go_wp2_with fail
  rw [rounds_succ]
  have M := node_end' hp hp6 hE6 w2.heap.size 0 (Nat.le_of_lt s2) (.iface 254 (.agg #[.iface t x, .iface u y]))
  have cs : (w6.setCell ⟨w2.heap.size, 0, none⟩ (.iface 254 (.agg #[.iface t x, .iface u y]))).cell? ⟨w.heap.size, 0, none⟩ = some .nilIface := by
    rw [World.cell?_setCell_other _ _ _ _ (fun e => by have := congrArg Addr.block e; simp at this; omega)]; exact c6
  have rs : (w6.setCell ⟨w2.heap.size, 0, none⟩ (.iface 254 (.agg #[.iface t x, .iface u y]))).cell? ⟨w2.heap.size, 0, none⟩ = some (.iface 254 (.agg #[.iface t x, .iface u y])) :=
    World.cell?_setCell_same _ _ _ d6
  have fs : (w6.setCell ⟨w2.heap.size, 0, none⟩ (.iface 254 (.agg #[.iface t x, .iface u y]))).frozen? ⟨w.heap.size, 0, none⟩ = false := by simp [f6]
  have C := Lib.hid cs
  have R := Lib.hid rs
  have F := Lib.hid fs
  clear cs rs fs
  go_wp2_with fail
  refine (peek_spec X k2 _ M.1).mono ?_
  rintro e w7 ⟨rfl, hx7⟩
  rcases ht : X.tok k2 with ⟨ty', fn', o', l', c', tx'⟩
  simp only [PX.tx, ht] at h2
  simp only [TokC.val]
  clear ht
  have c7 := hx7.got C.out no_
  have f7 := hx7.thaw C.out F.out no_
  have r7 := hx7.got R.out no_
  have l7 := some_lt c7
  have N := node_end' hp (M.1.ex hx7) (M.2.no hx7) w.heap.size 0 (Nat.le_refl _) (.iface 254 (.agg #[.iface t x, .iface u y]))
  go_wp2
  exact bodyPost_ret (v := .tuple #[.agg #[.iface 254 (.agg #[.iface t x, .iface u y])], .nilIface]) (by simp [results, Tryz.results198, go_sem, c7]) rfl ⟨rfl, N⟩
end Go.Proofs.YtbepocojafbbbaaGreatDoor
