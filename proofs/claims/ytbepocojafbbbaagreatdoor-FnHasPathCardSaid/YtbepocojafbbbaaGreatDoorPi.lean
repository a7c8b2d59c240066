/- The parser on the tokens of the two texts. -/
import Derived.Test.YtbepocojafbbbaaGreatDoorPh
import Derived.Test.YtbepocojafbbbaaGreatDoorTs
namespace Go.Proofs.YtbepocojafbbbaaGreatDoor
open Go.RowKit
set_option maxRecDepth 100000

theorem relation_has2 (X : PX) (k k' : Nat) (t : TypeId) (x : Value) (h1 : (X.tx k' == [104, 97, 115]) = true) (hty : (X.tok (X.nx k')).ty = 1) (hdot : (X.tx (X.nx (X.nx k')) == [46]) = true)
    (hty2 : (X.tok (X.nx (X.nx (X.nx k')))).ty = 1) (hdot2 : (X.tx (X.nx (X.nx (X.nx (X.nx k')))) == [46]) = false) (h : OKx 216 X k t x k') :
    OKx 210 X k 254 (.agg #[.iface 186 (.agg #[.iface t x, .string (X.tok (X.nx k')).tx]), .iface 186 (.agg #[.iface 187 (.agg #[.iface t x, .string (X.tok (X.nx k')).tx]), .string (X.tok (X.nx (X.nx (X.nx k')))).tx])]) (X.nx (X.nx (X.nx (X.nx k')))) := by
  intro w hp
  have fT := field_text
  have H := Lib.hid h
  clear h
  go_enter Tryz.func210, Tryz.ntmps210
  go_wp2_with fail
  refine (H.out _ (hp.ex ((Ex.refl _ _).alloc _))).mono ?_
  rintro e w2 ⟨rfl, hp2, hx2⟩
  go_wp2_with fail
  refine (peek_spec X k' _ (hp2.ex ((Ex.refl _ _).alloc _))).mono ?_
  rintro e w3 ⟨rfl, hx3⟩
  rcases ht : X.tok k' with ⟨ty, fn, o, l, c, tx⟩
  simp only [PX.tx, ht] at h1
  simp only [TokC.val]
  clear ht
  have d0 := hx3.got (new_cell w2 #[.iface t x] 296 0) no_
  have hE := (hx2.alloc _).no hx3
  have hp3 := (hp2.ex ((Ex.refl _ _).alloc _)).ex hx3
  obtain ⟨c0, f0⟩ := res_cell hp hE
  have hbd := some_lt c0
  have hbd2 := some_lt d0
  go_wp2_with fail
  refine (advance_spec X k' _ (hp3.ex ((Ex.refl _ _).alloc _))).mono ?_
  rintro e w4 ⟨rfl, hp4, hx4⟩
  have hx34 := ((Ex.refl (On X.b) w3).alloc _).trans hx4
  have hE4 := hE.trans hx34
  obtain ⟨c4, f4⟩ := res_cell hp hE4
  have l4 := some_lt c4
  have d4 := hx34.got d0 (hp2.ne_ _ (Nat.le_refl _))
  have m4 := some_lt d4
  go_wp2_with fail
  refine (has_two X (X.nx k') t x hty hdot hty2 hdot2 _ hp4).mono ?_
  rintro e w5 ⟨rfl, hp5, hx5⟩
  have hE5 := hE4.trans hx5
  obtain ⟨c5, f5⟩ := res_cell hp hE5
  have l5 := some_lt c5
  go_wp2
  exact bodyPost_ret (v := .tuple #[.agg #[.iface 254 (.agg #[.iface 186 (.agg #[.iface t x, .string (X.tok (X.nx k')).tx]), .iface 186 (.agg #[.iface 187 (.agg #[.iface t x, .string (X.tok (X.nx k')).tx]), .string (X.tok (X.nx (X.nx (X.nx k')))).tx])])], .nilIface]) (by simp [results, Tryz.results210, go_sem, c5]) rfl ⟨rfl, node_end hp hp5 hE5 _⟩

theorem tok_of {X : PX} {Ls : List (Int × ByteArray)} (h : tks X.toks = Ls) (j : Nat) (hj : j < Ls.length) : (X.tok j).ty = Ls[j].1 ∧ (X.tok j).tx = Ls[j].2 := by
  subst h
  have hj' : j < X.toks.length := by simpa [tks] using hj
  simp [PX.tok, tks, hj', List.getD]
theorem nx_of {X : PX} {Ls : List (Int × ByteArray)} (h : tks X.toks = Ls) (j : Nat) (hj : j + 1 < Ls.length) : X.nx j = j + 1 := by
  have : X.n = Ls.length := by rw [← h]; simp [PX.n, tks]
  unfold PX.nx; rw [if_pos (by omega)]

def ba (l : List UInt8) : ByteArray := ⟨l.toArray⟩
theorem ba_toList (l : List UInt8) : (ba l).toList = l := by
  rw [ByteArray.toList_eq]
  simp [ba]
def head10 : List (Int × ByteArray) := [(1, ba [112, 101, 114, 109, 105, 116]), (5, ba [40]), (1, ba [112, 114, 105, 110, 99, 105, 112, 97, 108]), (5, ba [44]), (1, ba [97, 99, 116, 105, 111, 110]), (5, ba [44]), (1, ba [114, 101, 115, 111, 117, 114, 99, 101]), (5, ba [41]), (1, ba [119, 104, 101, 110]), (5, ba [123])]
def ctxL : List UInt8 := [99, 111, 110, 116, 101, 120, 116]
def hasL : List UInt8 := [104, 97, 115]
def toks1 (a b : ByteArray) : List (Int × ByteArray) := head10 ++ [(1, ba ctxL), (3, ba hasL), (1, a), (5, ba [46]), (1, b), (5, ba [125]), (5, ⟨#[59]⟩)]
def toks2 (a b : ByteArray) : List (Int × ByteArray) := head10 ++ [(5, ba [40]), (1, ba ctxL), (3, ba hasL), (1, a), (5, ba [41]), (5, ba [38, 38]), (5, ba [40]), (1, ba ctxL), (5, ba [46]), (1, a), (3, ba hasL), (1, b), (5, ba [41]), (5, ba [125]), (5, ⟨#[59]⟩)]
def ctxN : Value := .iface 179 (.agg #[.string ctxB])
def bothN (a b : ByteArray) : Value := .agg #[.iface 186 (.agg #[ctxN, .string a]), .iface 186 (.agg #[.iface 187 (.agg #[ctxN, .string a]), .string b])]

theorem sum_of (X : PX) (k k' : Nat) (t : TypeId) (x : Value) (l l' : List UInt8) (hk : X.tx k = l) (hk' : X.tx k' = l') (e1 : (l == [45]) = false) (e2 : (l == [33]) = false) (e3 : (l' == [42]) = false) (e4 : (l' == [43]) = false) (e5 : (l' == [45]) = false)
    (h : OKx 252 X k t x k') : OKx 216 X k t x k' := by
  subst hk hk'
  exact add_pass X k k' t x e4 e5 (mult_pass X k k' t x e3 (unary_pass X k k' t x e1 e2 h))
theorem expr_of (X : PX) (k k' : Nat) (t : TypeId) (x : Value) (l l' : List UInt8) (hk : X.tx k = l) (hk' : X.tx k' = l') (e1 : (l == [105, 102]) = false) (e2 : (l' == [38, 38]) = false) (e3 : (l' == [124, 124]) = false)
    (h : OKx 210 X k t x k') : OKx 157 X k t x k' := by
  subst hk hk'
  exact expression_pass X k k' t x e1 (or_pass X k k' t x e3 (and_pass X k k' t x e2 h))
theorem rel_of (X : PX) (k k' : Nat) (t : TypeId) (x : Value) (l' : List UInt8) (hk' : X.tx k' = l') (e : (l' == [104, 97, 115]) = false ∧ (l' == [108, 105, 107, 101]) = false ∧ (l' == [105, 115]) = false ∧ (l' == [60]) = false ∧ (l' == [60, 61]) = false ∧ (l' == [62]) = false ∧ (l' == [62, 61]) = false ∧
    (l' == [33, 61]) = false ∧ (l' == [61, 61]) = false ∧ (l' == [105, 110]) = false) (h : OKx 216 X k t x k') : OKx 210 X k t x k' := by
  subst hk'
  obtain ⟨a, b, c, d, e, f, g, i, j, k⟩ := e
  exact relation_pass X _ _ t x a b c d e f g i j k h

structure Tk (X : PX) (j : Nat) (ty : Int) (l : ByteArray) : Prop where
  ty : (X.tok j).ty = ty
  tx : (X.tok j).tx = l
theorem Tk.at {X : PX} {j : Nat} {ty : Int} {l : List UInt8} (h : Tk X j ty (ba l)) : X.tx j = l := by unfold PX.tx; rw [h.tx]; exact ba_toList l

theorem head_of {X : PX} {k' : Nat} (n : ∀ j, j < 11 → X.nx j = j + 1) (t0 : X.tx 0 = [112, 101, 114, 109, 105, 116]) (t1 : X.tx 1 = [40]) (t2 : X.tx 2 = [112, 114, 105, 110, 99, 105, 112, 97, 108]) (t3 : X.tx 3 = [44]) (t4 : X.tx 4 = [97, 99, 116, 105, 111, 110])
    (t5 : X.tx 5 = [44]) (t6 : X.tx 6 = [114, 101, 115, 111, 117, 114, 99, 101]) (t7 : X.tx 7 = [41]) (t8 : X.tx 8 = [119, 104, 101, 110]) (t9 : X.tx 9 = [123]) (u0 : X.tx k' = [125]) (u1 : X.tx (X.nx k') = [59]) : Head X 0 k' ∧ k10 X 0 = 10 := by
  have n0 := n 0 (by omega)
  have n1 := n 1 (by omega)
  have n2 := n 2 (by omega)
  have n3 := n 3 (by omega)
  have n4 := n 4 (by omega)
  have n5 := n 5 (by omega)
  have n6 := n 6 (by omega)
  have n7 := n 7 (by omega)
  have n8 := n 8 (by omega)
  have n9 := n 9 (by omega)
  simp only [Nat.reduceAdd] at n0 n1 n2 n3 n4 n5 n6 n7 n8 n9
  refine ⟨⟨by rw [t0]; rfl, ?_, ?_, ?_, ?_, ?_, ?_, ?_, ?_, ?_, u0, u1⟩, ?_⟩
  all_goals simp only [n0, n1, n2, n3, n4, n5, n6, n7, n8, n9, t1, t2, t3, t4, t5, t6, t7, t8, t9, k10]

theorem parses1 (a b : ByteArray) : Parses (toks1 a b) 254 (bothN a b) := by
  intro X hX
  have n : ∀ j, j < 17 → X.nx j = j + 1 := fun j hj => nx_of hX j (by simp [toks1, head10]; omega)
  have q : ∀ j (hj : j < (toks1 a b ++ [(0, (⟨#[]⟩ : ByteArray))]).length), Tk X j (toks1 a b ++ [(0, (⟨#[]⟩ : ByteArray))])[j].1 (toks1 a b ++ [(0, (⟨#[]⟩ : ByteArray))])[j].2 := fun j hj => ⟨(tok_of hX j hj).1, (tok_of hX j hj).2⟩
  have hl : (toks1 a b ++ [(0, (⟨#[]⟩ : ByteArray))]).length = 18 := rfl
  have h0 : Tk X 0 1 (ba [112, 101, 114, 109, 105, 116]) := q 0 (by omega)
  have h1 : Tk X 1 5 (ba [40]) := q 1 (by omega)
  have h2 : Tk X 2 1 (ba [112, 114, 105, 110, 99, 105, 112, 97, 108]) := q 2 (by omega)
  have h3 : Tk X 3 5 (ba [44]) := q 3 (by omega)
  have h4 : Tk X 4 1 (ba [97, 99, 116, 105, 111, 110]) := q 4 (by omega)
  have h5 : Tk X 5 5 (ba [44]) := q 5 (by omega)
  have h6 : Tk X 6 1 (ba [114, 101, 115, 111, 117, 114, 99, 101]) := q 6 (by omega)
  have h7 : Tk X 7 5 (ba [41]) := q 7 (by omega)
  have h8 : Tk X 8 1 (ba [119, 104, 101, 110]) := q 8 (by omega)
  have h9 : Tk X 9 5 (ba [123]) := q 9 (by omega)
  have h10 : Tk X 10 1 (ba ctxL) := q 10 (by omega)
  have h11 : Tk X 11 3 (ba hasL) := q 11 (by omega)
  have h12 : Tk X 12 1 a := q 12 (by omega)
  have h13 : Tk X 13 5 (ba [46]) := q 13 (by omega)
  have h14 : Tk X 14 1 b := q 14 (by omega)
  have h15 : Tk X 15 5 (ba [125]) := q 15 (by omega)
  have h16 : Tk X 16 5 (ba [59]) := q 16 (by omega)
  clear q hl
  have n10 : X.nx 10 = 11 := n 10 (by omega)
  have n11 : X.nx 11 = 12 := n 11 (by omega)
  have n12 : X.nx 12 = 13 := n 12 (by omega)
  have n13 : X.nx 13 = 14 := n 13 (by omega)
  have n14 : X.nx 14 = 15 := n 14 (by omega)
  have n15 : X.nx 15 = 16 := n 15 (by omega)
  obtain ⟨hh, hk⟩ := head_of (X := X) (k' := 15) (fun j hj => n j (by omega)) h0.at h1.at h2.at h3.at h4.at h5.at h6.at h7.at h8.at h9.at h15.at (by rw [n15]; exact h16.at)
  refine ⟨15, hh, ?_⟩
  rw [hk]
  have p := primary_ctx X 10 h10.ty (by rw [h10.at]; rfl) (by rw [n10, h11.at]; rfl) (by rw [n10, h11.at]; rfl)
  rw [n10] at p
  have p2 := sum_of X 10 11 _ _ ctxL hasL h10.at h11.at rfl rfl rfl rfl rfl (member_pass X 10 11 _ _ (by rw [h11.at]; rfl) (by rw [h11.at]; rfl) p)
  have p3 := relation_has2 X 10 11 _ _ (by rw [h11.at]; rfl) (by rw [n11]; exact h12.ty) (by rw [n11, n12, h13.at]; rfl) (by rw [n11, n12, n13]; exact h14.ty) (by rw [n11, n12, n13, n14, h15.at]; rfl) p2
  rw [n11, n12, n13, n14, h12.tx, h14.tx] at p3
  exact expr_of X 10 15 _ _ ctxL [125] h10.at h15.at rfl rfl rfl p3

theorem parses2 (a b : ByteArray) : Parses (toks2 a b) 254 (bothN a b) := by
  intro X hX
  have n : ∀ j, j < 25 → X.nx j = j + 1 := fun j hj => nx_of hX j (by simp [toks2, head10]; omega)
  have q : ∀ j (hj : j < (toks2 a b ++ [(0, (⟨#[]⟩ : ByteArray))]).length), Tk X j (toks2 a b ++ [(0, (⟨#[]⟩ : ByteArray))])[j].1 (toks2 a b ++ [(0, (⟨#[]⟩ : ByteArray))])[j].2 := fun j hj => ⟨(tok_of hX j hj).1, (tok_of hX j hj).2⟩
  have hl : (toks2 a b ++ [(0, (⟨#[]⟩ : ByteArray))]).length = 26 := rfl
  have h0 : Tk X 0 1 (ba [112, 101, 114, 109, 105, 116]) := q 0 (by omega)
  have h1 : Tk X 1 5 (ba [40]) := q 1 (by omega)
  have h2 : Tk X 2 1 (ba [112, 114, 105, 110, 99, 105, 112, 97, 108]) := q 2 (by omega)
  have h3 : Tk X 3 5 (ba [44]) := q 3 (by omega)
  have h4 : Tk X 4 1 (ba [97, 99, 116, 105, 111, 110]) := q 4 (by omega)
  have h5 : Tk X 5 5 (ba [44]) := q 5 (by omega)
  have h6 : Tk X 6 1 (ba [114, 101, 115, 111, 117, 114, 99, 101]) := q 6 (by omega)
  have h7 : Tk X 7 5 (ba [41]) := q 7 (by omega)
  have h8 : Tk X 8 1 (ba [119, 104, 101, 110]) := q 8 (by omega)
  have h9 : Tk X 9 5 (ba [123]) := q 9 (by omega)
  have h10 : Tk X 10 5 (ba [40]) := q 10 (by omega)
  have h11 : Tk X 11 1 (ba ctxL) := q 11 (by omega)
  have h12 : Tk X 12 3 (ba hasL) := q 12 (by omega)
  have h13 : Tk X 13 1 a := q 13 (by omega)
  have h14 : Tk X 14 5 (ba [41]) := q 14 (by omega)
  have h15 : Tk X 15 5 (ba [38, 38]) := q 15 (by omega)
  have h16 : Tk X 16 5 (ba [40]) := q 16 (by omega)
  have h17 : Tk X 17 1 (ba ctxL) := q 17 (by omega)
  have h18 : Tk X 18 5 (ba [46]) := q 18 (by omega)
  have h19 : Tk X 19 1 a := q 19 (by omega)
  have h20 : Tk X 20 3 (ba hasL) := q 20 (by omega)
  have h21 : Tk X 21 1 b := q 21 (by omega)
  have h22 : Tk X 22 5 (ba [41]) := q 22 (by omega)
  have h23 : Tk X 23 5 (ba [125]) := q 23 (by omega)
  have h24 : Tk X 24 5 (ba [59]) := q 24 (by omega)
  clear q hl
  have n10 : X.nx 10 = 11 := n 10 (by omega)
  have n11 : X.nx 11 = 12 := n 11 (by omega)
  have n12 : X.nx 12 = 13 := n 12 (by omega)
  have n13 : X.nx 13 = 14 := n 13 (by omega)
  have n14 : X.nx 14 = 15 := n 14 (by omega)
  have n15 : X.nx 15 = 16 := n 15 (by omega)
  have n16 : X.nx 16 = 17 := n 16 (by omega)
  have n17 : X.nx 17 = 18 := n 17 (by omega)
  have n18 : X.nx 18 = 19 := n 18 (by omega)
  have n19 : X.nx 19 = 20 := n 19 (by omega)
  have n20 : X.nx 20 = 21 := n 20 (by omega)
  have n21 : X.nx 21 = 22 := n 21 (by omega)
  have n22 : X.nx 22 = 23 := n 22 (by omega)
  have n23 : X.nx 23 = 24 := n 23 (by omega)
  obtain ⟨hh, hk⟩ := head_of (X := X) (k' := 23) (fun j hj => n j (by omega)) h0.at h1.at h2.at h3.at h4.at h5.at h6.at h7.at h8.at h9.at h23.at (by rw [n23]; exact h24.at)
  refine ⟨23, hh, ?_⟩
  rw [hk]
  have p := primary_ctx X 11 h11.ty (by rw [h11.at]; rfl) (by rw [n11, h12.at]; rfl) (by rw [n11, h12.at]; rfl)
  rw [n11] at p
  have p2 := sum_of X 11 12 _ _ ctxL hasL h11.at h12.at rfl rfl rfl rfl rfl (member_pass X 11 12 _ _ (by rw [h12.at]; rfl) (by rw [h12.at]; rfl) p)
  have p3 := relation_has X 11 12 _ _ (by rw [h12.at]; rfl) (by rw [n12]; exact h13.ty) (by rw [n12, n13, h14.at]; rfl) p2
  rw [n12, n13, h13.tx] at p3
  have p4 := primary_paren X 10 14 _ _ h10.ty (by rw [h10.at]; rfl) h14.at (by rw [n10]; exact expr_of X 11 14 _ _ ctxL [41] h11.at h14.at rfl rfl rfl p3)
  rw [n14] at p4
  have p5 := rel_of X 10 15 _ _ [38, 38] h15.at ⟨rfl, rfl, rfl, rfl, rfl, rfl, rfl, rfl, rfl, rfl⟩ (sum_of X 10 15 _ _ [40] [38, 38] h10.at h15.at rfl rfl rfl rfl rfl (member_pass X 10 15 _ _ (by rw [h15.at]; rfl) (by rw [h15.at]; rfl) p4))
  have r := primary_ctx X 17 h17.ty (by rw [h17.at]; rfl) (by rw [n17, h18.at]; rfl) (by rw [n17, h18.at]; rfl)
  rw [n17] at r
  have r1 := member_name X 17 18 _ _ (by rw [h18.at]; rfl) (by rw [n18]; exact h19.ty) (by rw [n18, n19, h20.at]; rfl) (by rw [n18, n19, h20.at]; rfl) (by rw [n18, n19, h20.at]; rfl) r
  rw [n18, n19, h19.tx] at r1
  have r2 := sum_of X 17 20 _ _ ctxL hasL h17.at h20.at rfl rfl rfl rfl rfl r1
  have r3 := relation_has X 17 20 _ _ (by rw [h20.at]; rfl) (by rw [n20]; exact h21.ty) (by rw [n20, n21, h22.at]; rfl) r2
  rw [n20, n21, h21.tx] at r3
  have r4 := primary_paren X 16 22 _ _ h16.ty (by rw [h16.at]; rfl) h22.at (by rw [n16]; exact expr_of X 17 22 _ _ ctxL [41] h17.at h22.at rfl rfl rfl r3)
  rw [n22] at r4
  have r5 := rel_of X 16 23 _ _ [125] h23.at ⟨rfl, rfl, rfl, rfl, rfl, rfl, rfl, rfl, rfl, rfl⟩ (sum_of X 16 23 _ _ [40] [125] h16.at h23.at rfl rfl rfl rfl rfl (member_pass X 16 23 _ _ (by rw [h23.at]; rfl) (by rw [h23.at]; rfl) r4))
  have s := and_two X 10 15 23 _ _ _ _ (by rw [h15.at]; rfl) (by rw [h23.at]; rfl) p5 (by rw [n15]; exact r5)
  exact expression_pass X 10 23 _ _ (by rw [h10.at]; rfl) (or_pass X 10 23 _ _ (by rw [h23.at]; rfl) s)
end Go.Proofs.YtbepocojafbbbaaGreatDoor
