/- The law, walked. -/
import Derived.Test.YtbepocojafbbbaaGreatDoorLx
import Derived.Test.YtbepocojafbbbaaGreatDoorTu
namespace Go.Proofs.YtbepocojafbbbaaGreatDoor
open Go.RowKit
set_option maxRecDepth 100000

def ctxE : E := .mk 2 ctxB []
def bothE (a b : ByteArray) : E := .mk 5 ⟨#[]⟩ [.mk 13 a [ctxE], .mk 13 b [.mk 23 a [ctxE]]]
theorem plain_both (a b : ByteArray) (w : World) : ∀ W, Ex No w W → Calls Tryz.prog 46 #[.iface 254 (bothN a b)] W (PE (bothE a b) W) := by
  intro W _
  have pc : ∀ W, Calls Tryz.prog 46 #[ctxN] W (PE ctxE W) := fun W => plain_var ctxB W
  have p1 : ∀ W, Calls Tryz.prog 46 #[.iface 186 (.agg #[ctxN, .string a])] W (PE (.mk 13 a [ctxE]) W) := fun W => plain_has 179 (.agg #[.string ctxB]) a ctxE W (fun W' _ => pc W')
  have p2 : ∀ W, Calls Tryz.prog 46 #[.iface 187 (.agg #[ctxN, .string a])] W (PE (.mk 23 a [ctxE]) W) := fun W => plain_access 179 (.agg #[.string ctxB]) a ctxE W (fun W' _ => pc W')
  have p3 : ∀ W, Calls Tryz.prog 46 #[.iface 186 (.agg #[.iface 187 (.agg #[ctxN, .string a]), .string b])] W (PE (.mk 13 b [.mk 23 a [ctxE]]) W) := fun W => plain_has 187 (.agg #[ctxN, .string a]) b (.mk 23 a [ctxE]) W (fun W' _ => p2 W')
  exact plain_and 186 186 _ _ (.mk 13 a [ctxE]) (.mk 13 b [.mk 23 a [ctxE]]) W (fun W' _ => p1 W') (fun W' _ => p3 W')
theorem simple_ctx : Simple ctxE := .mk _ _ _ rfl rfl rfl (by simp) (fun j hj => by simp at hj)
theorem simple_one (op : Int) (s : ByteArray) (e : E) (h1 : (op == 1) = false) (h15 : (op == 15) = false) (h30 : (op == 30) = false) (h : Simple e) : Simple (.mk op s [e]) :=
  .mk op s [e] h1 h15 h30 (by simp) (fun j hj => by obtain rfl : j = 0 := by simpa using hj
                                                    exact h)
theorem simple_both (a b : ByteArray) : Simple (bothE a b) :=
  .mk _ _ _ rfl rfl rfl (by simp) (fun j hj => by
    match j, hj with
    | 0, _ => exact simple_one 13 a _ rfl rfl rfl simple_ctx
    | 1, _ => exact simple_one 13 b _ rfl rfl rfl (simple_one 23 a _ rfl rfl rfl simple_ctx))

theorem ascii_of {T : List UInt8} (h : ∀ y ∈ T, y.toNat ≠ 0 ∧ y.toNat < 128) : Ascii T := by
  intro i hi
  unfold chr
  have e : T.getD i 0 = T[i] := by simp [List.getD, hi]
  rw [e]
  exact h _ (List.getElem_mem hi)
theorem chr_lt6 {T : List UInt8} (h : T.take 7 = [112, 101, 114, 109, 105, 116, 32]) (j : Nat) (hj : j < 7) : chr T j = (([112, 101, 114, 109, 105, 116, 32] : List UInt8).getD j 0).toNat := by
  unfold chr
  rw [← h]
  simp [List.getD, hj]
theorem txt_of {T : List UInt8} {rest : List (Int × ByteArray)} (h : T.take 7 = [112, 101, 114, 109, 105, 116, 32]) (hl : T.length ≤ 1000) (hl2 : 7 ≤ T.length) (ha : ∀ y ∈ T, y.toNat ≠ 0 ∧ y.toNat < 128) (hr : Lex T 6 rest) : Txt T 6 rest := by
  have k := chr_lt6 h
  refine ⟨by omega, hl, ascii_of ha, by rw [k 0 (by omega)]; rfl, by omega, by omega, by rw [k 0 (by omega)]; rfl, fun j h1 h2 => ?_, by rw [k 6 (by omega)]; rfl, hr⟩
  rw [k j (by omega)]
  match j, h1, h2 with
  | 1, _, _ | 2, _, _ | 3, _, _ | 4, _, _ | 5, _, _ => rfl
theorem cut6 {T : List UInt8} (h : T.take 7 = [112, 101, 114, 109, 105, 116, 32]) : cut T 0 6 = ba [112, 101, 114, 109, 105, 116] := by
  unfold cut ba
  have : T.take 6 = (T.take 7).take 6 := by rw [List.take_take]; rfl
  simp only [List.drop_zero, Nat.sub_zero]
  rw [this, h]; rfl
theorem dig_id {D : List UInt8} (h : ∀ y ∈ D, 48 ≤ y ∧ y ≤ 57) : (∀ y ∈ D, identB (y.toNat : Nat) false = true) ∧ (∀ y ∈ D, y ≠ 95) ∧ (∀ y ∈ D, y.toNat ≠ 0 ∧ y.toNat < 128) := by
  have k : ∀ y ∈ D, 48 ≤ y.toNat ∧ y.toNat ≤ 57 := fun y hy => ⟨by have := (h y hy).1; rw [UInt8.le_iff_toNat_le] at this; exact this, by have := (h y hy).2; rw [UInt8.le_iff_toNat_le] at this; exact this⟩
  refine ⟨fun y hy => ?_, fun y hy e => ?_, fun y hy => ?_⟩
  · have := k y hy
    simp [identB, digitB]; omega
  · have := k y hy
    rw [e] at this; simp at this
  · have := k y hy
    omega

theorem inside_at (w : World) (text : ByteArray) (T : List UInt8) (L : List (Int × ByteArray)) (a b : ByteArray) (ad : Addr) (hT : (preB ++ text ++ postB).data.toList = T) (h7 : T.take 7 = [112, 101, 114, 109, 105, 116, 32]) (hl : T.length ≤ 900) (hl2 : 7 ≤ T.length)
    (ha : ∀ y ∈ T, y.toNat ≠ 0 ∧ y.toNat < 128) (hL : L = (1, ba [112, 101, 114, 109, 105, 116]) :: L.tail) (hLl : L.length ≤ 100) (hr : Lex T 6 L.tail) (hP : Parses L 254 (bothN a b)) (hG : w.cell? ⟨0, 0, none⟩ = some (.iface 341 (.pointer (some ad)))) :
    Calls Tryz.prog 10 #[.string text] w (PE (bothE a b) w) := by
  have hx := txt_of h7 (by omega) hl2 ha hr
  have hsz : text.size ≤ 900 := by
    have e0 : ∀ x : ByteArray, x.data.toList.length = x.size := fun x => Array.length_toList
    have e := e0 (preB ++ text ++ postB)
    rw [hT, ByteArray.size_append, ByteArray.size_append] at e
    omega
  have hc := cut6 h7
  have hp : Parses ((if reserved (cut T 0 6) then 3 else 1, cut T 0 6) :: L.tail) 254 (bothN a b) := by
    rw [hc, show reserved (ba [112, 101, 114, 109, 105, 116]) = false from by rw [res_lit]; rfl]
    have e : ((if false = true then (3 : Int) else 1), ba [112, 101, 114, 109, 105, 116]) :: L.tail = L := hL.symm
    rw [e]; exact hP
  subst hT
  exact inside_spec w text hsz ad 6 L.tail hx 254 (bothN a b) (bothE a b) (by simp; omega) hG hp (plain_both a b w)

def aB (d : ByteArray) : ByteArray := { data := #[97] } ++ d
def bB (d : ByteArray) : ByteArray := { data := #[95] } ++ d
def text1 (d e : ByteArray) : ByteArray := { data := #[99, 111, 110, 116, 101, 120, 116, 32, 104, 97, 115, 32] } ++ aB d ++ { data := #[46] } ++ bB e
def text2 (d e : ByteArray) : ByteArray := { data := #[40, 99, 111, 110, 116, 101, 120, 116, 32, 104, 97, 115, 32] } ++ aB d ++ { data := #[41, 32, 38, 38, 32, 40, 99, 111, 110, 116, 101, 120, 116, 46] } ++ aB d ++ { data := #[32, 104, 97, 115, 32] } ++ bB e ++ { data := #[41] }
theorem text1_T (d e : ByteArray) : (preB ++ text1 d e ++ postB).data.toList = T1 d.data.toList e.data.toList := by
  simp [text1, aB, bB, T1, preB, postB]
theorem text2_T (d e : ByteArray) : (preB ++ text2 d e ++ postB).data.toList = T2 d.data.toList e.data.toList := by
  simp [text2, aB, bB, T2, preB, postB]
theorem asc (l : List UInt8) (h : (l.all fun y => y.toNat != 0 && decide (y.toNat < 128)) = true) : ∀ y ∈ l, y.toNat ≠ 0 ∧ y.toNat < 128 := fun y hy => by
  have := List.all_eq_true.1 h y hy
  simpa using this
theorem asc_cons (x : UInt8) (l : List UInt8) (hx : x.toNat ≠ 0 ∧ x.toNat < 128) (h : ∀ y ∈ l, y.toNat ≠ 0 ∧ y.toNat < 128) : ∀ y ∈ x :: l, y.toNat ≠ 0 ∧ y.toNat < 128 := fun y hy => by
  rcases List.mem_cons.1 hy with rfl | hy
  · exact hx
  · exact h y hy
theorem inside1 (w : World) (d e : ByteArray) (ad : Addr) (hd : Dig d) (he : Dig e) (hd3 : d.size ≤ 3) (he3 : e.size ≤ 3) (hG : w.cell? ⟨0, 0, none⟩ = some (.iface 341 (.pointer (some ad)))) :
    Calls Tryz.prog 10 #[.string (text1 d e)] w (PE (bothE (ba (97 :: d.data.toList)) (ba (95 :: e.data.toList))) w) := by
  obtain ⟨d1, d2, d3⟩ := dig_id hd
  obtain ⟨e1, e2, e3⟩ := dig_id he
  have hdl : d.data.toList.length ≤ 3 := by simpa using hd3
  have hel : e.data.toList.length ≤ 3 := by simpa using he3
  refine inside_at w _ _ (toks1 (ba (97 :: d.data.toList)) (ba (95 :: e.data.toList))) _ _ ad (text1_T d e) rfl ?_ ?_ ?_ rfl (by simp [toks1, head10]) (lex1 _ _ d1 e1 e2) (parses1 _ _) hG
  · simp only [T1, List.length_append, List.length_cons, List.length_nil]; omega
  · simp only [T1, List.length_append, List.length_cons, List.length_nil]; omega
  · intro y hy
    simp only [T1, List.mem_append] at hy
    rcases hy with hy | hy | hy | hy | hy | hy
    · exact asc _ (by decide) y hy
    · exact asc _ (by decide) y hy
    · exact asc_cons _ _ (by decide) d3 y hy
    · exact asc _ (by decide) y hy
    · exact asc_cons _ _ (by decide) e3 y hy
    · exact asc _ (by decide) y hy
theorem inside2 (w : World) (d e : ByteArray) (ad : Addr) (hd : Dig d) (he : Dig e) (hd3 : d.size ≤ 3) (he3 : e.size ≤ 3) (hG : w.cell? ⟨0, 0, none⟩ = some (.iface 341 (.pointer (some ad)))) :
    Calls Tryz.prog 10 #[.string (text2 d e)] w (PE (bothE (ba (97 :: d.data.toList)) (ba (95 :: e.data.toList))) w) := by
  obtain ⟨d1, d2, d3⟩ := dig_id hd
  obtain ⟨e1, e2, e3⟩ := dig_id he
  have hdl : d.data.toList.length ≤ 3 := by simpa using hd3
  have hel : e.data.toList.length ≤ 3 := by simpa using he3
  refine inside_at w _ _ (toks2 (ba (97 :: d.data.toList)) (ba (95 :: e.data.toList))) _ _ ad (text2_T d e) rfl ?_ ?_ ?_ rfl (by simp [toks2, head10]) (lex2 _ _ d1 e1 e2) (parses2 _ _) hG
  · simp only [T2, List.length_append, List.length_cons, List.length_nil]; omega
  · simp only [T2, List.length_append, List.length_cons, List.length_nil]; omega
  · intro y hy
    simp only [T2, List.mem_append] at hy
    rcases hy with hy | hy | hy | hy | hy | hy | hy | hy
    · exact asc _ (by decide) y hy
    · exact asc _ (by decide) y hy
    · exact asc_cons _ _ (by decide) d3 y hy
    · exact asc _ (by decide) y hy
    · exact asc_cons _ _ (by decide) d3 y hy
    · exact asc _ (by decide) y hy
    · exact asc_cons _ _ (by decide) e3 y hy
    · exact asc _ (by decide) y hy

def Yes (w : World) (e' : Ending) (w' : World) : Prop := e' = .returned (.bool true) ∧ Ex No w w'
theorem law_spec (w : World) (f s : Nat) (hf : f < 256) (hs : s < 256) (ad : Addr) (hG : w.cell? ⟨0, 0, none⟩ = some (.iface 341 (.pointer (some ad)))) :
    Calls Tryz.prog 3 #[.int .u8 f, .int .u8 s] w (Yes w) := by
  have HG := Lib.hid hG
  clear hG
  go_enter Tryz.func3, Tryz.ntmps3
  go_wp2_with fail
  refine (digits_spec f hf _).mono ?_
  rintro e' w1 ⟨⟨d, rfl, hd, hd1, hd3⟩, hx1⟩
  go_wp2_with fail
  refine (digits_spec s hs _).mono ?_
  rintro e' w2 ⟨⟨e, rfl, he, he1, he3⟩, hx2⟩
  have hx02 : Ex No w w2 := hx1.trans hx2
  have HX2 := Lib.hid hx02
  obtain ⟨B, hB⟩ : ∃ B, B = bothE (ba (97 :: d.data.toList)) (ba (95 :: e.data.toList)) := ⟨_, rfl⟩
  have hop : B.op = 5 := by rw [hB]; rfl
  have hs5 : B.s = ⟨#[]⟩ := by rw [hB]; rfl
  have HB := Lib.hid hB
  have HI1 := Lib.hid (fun (W : World) (hW : Ex No w W) => inside1 W d e ad hd he hd3 he3 (hW.got HG.out no_))
  have HI2 := Lib.hid (fun (W : World) (hW : Ex No w W) => inside2 W d e ad hd he hd3 he3 (hW.got HG.out no_))
  have HO := Lib.hid (And.intro hop hs5)
  rw [← hB] at HI1 HI2
  clear hx1 hx2 hx02 hB hop hs5 hd he hd1 he1
  go_wp2_with fail
  refine (HI1.out _ HX2.out).mono ?_
  rintro e' w3 ⟨A1, n1, c1, rfl, hER1, hx3⟩
  have HX3 := Lib.hid (HX2.out.trans hx3)
  have HE1 := Lib.hid hER1
  rw [HO.out.1, HO.out.2]
  simp only [xc]
  clear hx3 hER1
  go_wp2_with fail
  refine (HI2.out _ (HX3.out.alloc _)).mono ?_
  rintro e' w4 ⟨A2, n2, c2, rfl, hER2, hx4⟩
  have hx34 := ((Ex.refl No w3).alloc _).trans hx4
  have hBx := (Blk.new w3 (xc 5 ⟨#[]⟩ A1 n1 c1) 30).ex hx4 no_
  have bx := hBx.cell
  have lx := hBx.lt
  have HE1' := Lib.hid (HE1.out.keep (F' := fun _ => True) hx34 (fun _ _ => no_) (fun _ _ _ => trivial))
  have HE2 := Lib.hid (hER2.keep (F' := fun _ => True) (Ex.refl No w4) (fun _ _ => no_) (fun _ _ _ => trivial))
  have HX4 := Lib.hid (HX3.out.trans hx34)
  rw [HO.out.1, HO.out.2]
  simp only [xc] at bx ⊢
  clear hx34 hBx hER2 hx4
  go_wp2_with fail
  have hsame := same_spec (SizeOf.sizeOf B + 1) B (by omega) (by rw [HB.out]; exact simple_both _ _)
  rw [HO.out.1, HO.out.2] at hsame
  refine (hsame _ (fun _ => True) (fun _ => True) A1 A2 n1 n2 c1 c2 (HE1'.out.keep ((Ex.refl No _).alloc _) (fun _ _ => no_) (fun _ _ h => h)) (HE2.out.keep ((Ex.refl No _).alloc _) (fun _ _ => no_) (fun _ _ h => h))).mono ?_
  rintro e' w5 ⟨rfl, hx5⟩
  clear hsame
  have HX5 := Lib.hid ((HX4.out.alloc _).trans hx5)
  clear hx5
  go_wp2
  go_ret
  exact ⟨rfl, HX5.out⟩
end Go.Proofs.YtbepocojafbbbaaGreatDoor
