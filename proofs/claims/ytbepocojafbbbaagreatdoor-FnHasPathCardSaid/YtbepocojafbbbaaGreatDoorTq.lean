/- The tokenizer: all tokens of a text. -/
import Derived.Test.YtbepocojafbbbaaGreatDoorTp
namespace Go.Proofs.YtbepocojafbbbaaGreatDoor
open Go.RowKit
set_option maxRecDepth 100000

theorem Tryz.info154 : (Tryz.prog.info? 154).map (fun i => (i.zero, i.size, i.bytes)) = some (some (.agg zt), 6, 64) := by kernel_rfl
theorem eql_nil88 (w : World) : (binOp .eql 88 .nilIface .nilIface).run Tryz.prog w = .ok (.bool true) w := by kernel_rfl
theorem neq_nil88 (w : World) : (binOp .neq 88 .nilIface .nilIface).run Tryz.prog w = .ok (.bool false) w := by kernel_rfl

theorem Lex.ne0 {T : List UInt8} {q : Nat} {l : List (Int × ByteArray)} (h : Lex T q l) : ∀ p ∈ l, p.1 ≠ 0 := by
  induction h with
  | ident q i m rest _ _ _ _ _ _ _ _ _ ih =>
    intro p hp
    rcases List.mem_cons.1 hp with rfl | hp
    · show (if reserved (cut T i m) = true then (3 : Int) else 1) ≠ 0
      split <;> omega
    · exact ih p hp
  | one q i m rest _ _ _ _ _ _ _ ih =>
    intro p hp
    rcases List.mem_cons.1 hp with rfl | hp
    · show (5 : Int) ≠ 0
      omega
    · exact ih p hp
  | two q i m rest _ _ _ _ _ _ _ _ ih =>
    intro p hp
    rcases List.mem_cons.1 hp with rfl | hp
    · show (5 : Int) ≠ 0
      omega
    · exact ih p hp
  | last q i _ _ _ _ _ =>
    intro p hp
    rcases List.mem_cons.1 hp with rfl | hp
    · show (5 : Int) ≠ 0
      omega
    · simp at hp

theorem Lex.len {T : List UInt8} {q : Nat} {l : List (Int × ByteArray)} (h : Lex T q l) : q + l.length ≤ T.length := by
  induction h with
  | ident q i m rest _ _ _ _ _ _ _ _ _ ih => simp only [List.length_cons]; omega
  | one q i m rest _ _ _ _ _ _ _ ih => simp only [List.length_cons]; omega
  | two q i m rest _ _ _ _ _ _ _ _ ih => simp only [List.length_cons]; omega
  | last q i _ _ _ _ _ => simp only [List.length_cons, List.length_nil]; omega
def tks (l : List TokC) : List (Int × ByteArray) := l.map fun t => (t.ty, t.tx)
def rows6 (l : List TokC) : List Value := l.flatMap fun t => t.cells.toList
theorem rows6_length (l : List TokC) : (rows6 l).length = l.length * 6 := by
  induction l with
  | nil => rfl
  | cons t l ih =>
    have e : rows6 (t :: l) = t.cells.toList ++ rows6 l := rfl
    rw [e, List.length_append, ih]; simp [TokC.cells]; omega

/-- Where the tokenizer stands: the token that has been read last, and what follows. -/
def Phs (b bb : Nat) (T : List UInt8) (z : Value) (rb : Array Value) (L : List (Int × ByteArray)) (done : List TokC) (cur : TokC) (w : World) : Prop :=
  (cur.ty ≠ 0 ∧ ∃ rest, L = tks done ++ (cur.ty, cur.tx) :: rest ∧ Ph b bb T z rb w rest) ∨ (cur.ty = 0 ∧ L = tks done ∧ Fz b w)
theorem Phs.keep {b bb : Nat} {T : List UInt8} {z : Value} {rb : Array Value} {L : List (Int × ByteArray)} {done : List TokC} {cur : TokC} {w w' : World} {S : Nat → Prop} (h : Phs b bb T z rb L done cur w) (hx : Ex S w w') (hn : ¬ S b) (hn2 : ¬ S bb) :
    Phs b bb T z rb L done cur w' := by
  rcases h with ⟨h1, rest, h2, h3⟩ | ⟨h1, h2, h3⟩
  · exact Or.inl ⟨h1, rest, h2, h3.keep hx hn hn2⟩
  · exact Or.inr ⟨h1, h2, h3.keep hx hn⟩
theorem Phs.err {b bb : Nat} {T : List UInt8} {z : Value} {rb : Array Value} {L : List (Int × ByteArray)} {done : List TokC} {cur : TokC} {w : World} (h : Phs b bb T z rb L done cur w) : w.cell? ⟨b, 1039, none⟩ = some .nilIface := by
  rcases h with ⟨h1, rest, h2, h3⟩ | ⟨h1, h2, cs, A, c, tp, te, hB, hS⟩
  · cases h3 with
    | go q _ h hR hL => obtain ⟨cs, tp, hB, hS, _⟩ := h.cells; exact (hB.cell 1039).trans hS.err
    | fin cs g hB hS hch => exact (hB.cell 1039).trans hS.err
  · exact (hB.cell 1039).trans hS.err

def RI (w : World) (bb : Nat) (T : List UInt8) (z : Value) (rb : Array Value) (L : List (Int × ByteArray)) (v p : Value) (wr : World) : Prop :=
  ∃ (done : List TokC) (cur : TokC) (r6 cap : Nat) (A : Option Addr), v = .slice A done.length cap ∧ p = .pointer (some ⟨r6, 0, none⟩) ∧ wr.ownsRow (w.heap.size + 1) 154 6 (.slice A done.length cap) done.length (rows6 done) ∧
    Blk wr r6 cur.cells 154 ∧ w.heap.size + 1 ≤ r6 ∧ (Value.slice A done.length cap).ownBlock ≠ some r6 ∧ Ex (On bb) w wr ∧ Phs w.heap.size bb T z rb L done cur wr

theorem RI.len {w wr : World} {bb : Nat} {T : List UInt8} {z : Value} {rb : Array Value} {L : List (Int × ByteArray)} {done : List TokC} {cur : TokC} (h : Phs w.heap.size bb T z rb L done cur wr) : done.length ≤ L.length := by
  rcases h with ⟨_, rest, h, _⟩ | ⟨_, h, _⟩
  · rw [h]; simp [tks]
  · rw [h]; simp [tks]
theorem rows6_snoc (l : List TokC) (t : TokC) : rows6 (l ++ [t]) = rows6 l ++ t.cells.toList := by simp [rows6, List.flatMap_append]
/-- A round: the token is appended, the next one is read. -/
theorem RI.step {w wr w1 w2 w3 : World} {bb r7 cap g' cap' : Nat} {T : List UInt8} {z : Value} {rb : Array Value} {L : List (Int × ByteArray)} {A : Option Addr} {done : List TokC} {cur t : TokC}
    (hbb : bb < w.heap.size) (hE : Ex (On bb) w wr) (hlt : w.heap.size < wr.heap.size) (hx1 : Ex (fun i => (Value.slice A done.length cap).ownBlock = some i) wr w1) (hO : wr.ownsRow (w.heap.size + 1) 154 6 (.slice A done.length cap) done.length (rows6 done))
    (ho' : w1.ownsRow (w.heap.size + 1) 154 6 (.slice (some ⟨g', 0, none⟩) (done.length + 1) cap') (done.length + 1) (rows6 done ++ cur.cells.toList)) (hg1 : g' < w1.heap.size)
    (hr7 : r7 = w1.heap.size) (hx2 : Ex No w1 w2) (hx3 : Ex (Tw w.heap.size bb) w2 w3) {rest : List (Int × ByteArray)} (hL : L = tks done ++ (cur.ty, cur.tx) :: rest) (hL0 : ∀ p ∈ L, p.1 ≠ 0) (ha : After w.heap.size bb T z rb w3 t rest)
    (W : World) (hW : Ex (On r7) w3 W) (hC : Blk W r7 t.cells 154) : RI w bb T z rb L (.slice (some ⟨g', 0, none⟩) (done.length + 1) cap') (.pointer (some ⟨r7, 0, none⟩)) W := by
  have e : (done ++ [cur]).length = done.length + 1 := by simp
  have hbase : w.heap.size + 1 ≤ g' := by
    rcases ho'.2 with ⟨h, _⟩ | ⟨g, c, cur, hv, hb, _⟩
    · cases h
    · injection hv with h1 h2 h3; injection h1 with h1; injection h1 with h1 h4; omega
  have s1 := hx1.size
  have hbW : ¬ On r7 w.heap.size := by unfold On; omega
  have hbbW : ¬ On r7 bb := by unfold On; omega
  refine ⟨done ++ [cur], t, r7, cap', some ⟨g', 0, none⟩, by rw [e], rfl, ?_, hC, by omega, ?_, ?_, ?_⟩
  · rw [e, rows6_snoc]
    have a1 := own_ex ho' hx2 (fun _ _ => no_)
    have a2 := own_ex a1 hx3 (fun b hb' => by simp [Value.ownBlock] at hb'; subst hb'; unfold Tw; omega)
    exact own_ex a2 hW (fun b hb' => by simp [Value.ownBlock] at hb'; subst hb'; unfold On; omega)
  · rw [e]; simp [Value.ownBlock]; omega
  · have b1 := hE.trans' hx1 (fun i hi h => by have := own_from hO (h.symm); omega)
    have b2 := b1.no hx2
    have b3 := b2.trans' hx3 (fun i hi h => by rcases h with h | h; omega; exact h)
    exact b3.trans' hW (fun i hi h => by unfold On at h; omega)
  · have hL' : L = tks (done ++ [cur]) ++ rest := by rw [hL]; simp [tks]
    cases rest with
    | nil => exact Or.inr ⟨ha.1, by rw [hL']; simp, ha.2.keep hW hbW⟩
    | cons p r => exact Or.inl ⟨by rw [ha.1]; exact hL0 p (by rw [hL']; simp), r, by rw [hL', ha.1, ha.2.1], ha.2.2.keep hW hbW hbbW⟩

/-- What the tokenizer answers. -/
def Toks (w : World) (bb : Nat) (L : List (Int × ByteArray)) (e' : Ending) (w' : World) : Prop :=
  ∃ (ts : List TokC) (g cap : Nat), e' = .returned (.tuple #[.slice (some ⟨g, 0, none⟩) ts.length cap, .nilIface]) ∧ tks ts = L ++ [(0, ⟨#[]⟩)] ∧
    w'.ownsRow w.heap.size 154 6 (.slice (some ⟨g, 0, none⟩) ts.length cap) ts.length (rows6 ts) ∧ Ex (On bb) w w'

set_option maxHeartbeats 2000000 in
theorem reader_spec (w : World) (bb tb c : Nat) (ad : Addr) (T : List UInt8) (m : Nat) (rest : List (Int × ByteArray)) (hR : Blk w bb #[.slice (some ⟨tb, 0, none⟩) T.length c, .int .i64 0, .int .i8 0] 239) (hnt : tb ≠ bb)
    (ht : ∀ i, i < T.length → w.cell? ⟨tb, i, none⟩ = some (.int .u8 (T.getD i 0).toNat)) (hG : w.cell? ⟨0, 0, none⟩ = some (.iface 341 (.pointer (some ad)))) (hbb : bb ≠ 0) (h4 : 4 ≤ T.length) (hsh : T.length ≤ 1000) (hA : Ascii T) (hi : whiteB (chr T 0) = false)
    (h1 : 0 < m) (h2 : m < T.length) (h3 : identB (chr T 0) true = true) (hid : ∀ j, 0 < j → j < m → identB (chr T j) false = true) (h5 : identB (chr T m) false = false) (hlex : Lex T m rest) :
    Calls Tryz.prog 57 #[.iface 223 (.pointer (some ⟨bb, 0, none⟩))] w (Toks w bb ((if reserved (cut T 0 m) then 3 else 1, cut T 0 m) :: rest)) := by
  obtain ⟨i0, hi0, hz0, hz1, hz2⟩ := info_parts Tryz.info154
  have hw0 := some_lt hG
  have hwb := hR.lt
  have hne : w.heap.size ≠ bb := by omega
  have hb0 : w.heap.size ≠ 0 := by simp at hw0; omega
  have e0 := eql_nil88
  have e1 := neq_nil88
  obtain ⟨L, hL⟩ : ∃ L, L = ((if reserved (cut T 0 m) then 3 else 1 : Int), cut T 0 m) :: rest := ⟨_, rfl⟩
  rw [← hL]
  have hL0 : ∀ p ∈ L, p.1 ≠ 0 := by
    rw [hL]
    intro p hp
    rcases List.mem_cons.1 hp with rfl | hp
    · show (if reserved (cut T 0 m) = true then (3 : Int) else 1) ≠ 0
      split <;> omega
    · exact hlex.ne0 p hp
  have HL := Lib.hid (And.intro hL hL0)
  have HR := Lib.hid hR
  have HT := Lib.hid ht
  have HGG := Lib.hid hG
  have HLEX := Lib.hid (And.intro hlex (And.intro hi (And.intro h3 (And.intro hid h5))))
  clear hL hL0 hR ht hG hlex hi h3 hid h5
  go_enter Tryz.func57, Tryz.ntmps57
  go_wp2_with fail
  refine (init_spec _ w.heap.size 223 _ (Blk.new w Tryz.zeroCells241 241)).mono ?_
  rintro e' w1 ⟨rfl, hx1, cs1, hB1, hS1, hz1', hc1⟩
  have hx01 : Ex No w w1 := ((Ex.refl No w).alloc _).trans' hx1 (fun i hi h => by unfold On at h; omega)
  go_wp2_with fail
  refine (tok_first w1 w.heap.size bb tb c cs1 T m _ rfl hB1 hS1 hz1' hc1 (HR.out.ex hx01 no_) hne hnt (fun i hi => hx01.got (HT.out i hi) no_) (by have := some_lt (HT.out 0 (by omega)); simp at this; omega) h4 hsh hA HLEX.out.2.1 h1 h2 HLEX.out.2.2.1 HLEX.out.2.2.2.1 HLEX.out.2.2.2.2 _ rfl).mono ?_
  rintro e' w2 ⟨t, rfl, hty, htx, hx2, hat, hR2⟩
  have hx02 : Ex (On bb) w w2 := hx01.of_no.trans' hx2 (fun i hi h => by rcases h with h | h; omega; exact h)
  have hph : Phs w.heap.size bb T (.iface 223 (.pointer (some ⟨bb, 0, none⟩))) #[.slice (some ⟨tb, 0, none⟩) T.length c, .int .i64 T.length, .int .i8 (-1)] L [] t w2 :=
    Or.inl ⟨by have := HL.out.2 (t.ty, t.tx) (by rw [HL.out.1, hty, htx]; simp); exact this, rest, by rw [HL.out.1, hty, htx]; rfl, .go m _ hat hR2 HLEX.out.1⟩
  obtain ⟨ty, fn, o, l, cc, tx⟩ := t
  have HP := Lib.hid hph
  have HX := Lib.hid hx02
  have hs2 := hx02.size
  have hb2 : w.heap.size < w2.heap.size := by have := hB1.lt; have := hx2.size; omega
  clear hx1 hB1 hS1 hz1' hc1 hx01 hty htx hx2 hat hR2 hx02 hph
  simp only [TokC.val]
  go_wp2_with fail
  go_loopw [4, 6] (RI w bb T (.iface 223 (.pointer (some ⟨bb, 0, none⟩))) #[.slice (some ⟨tb, 0, none⟩) T.length c, .int .i64 T.length, .int .i8 (-1)] L) (fun v _ _ => match v with | .slice _ n _ => L.length + 1 - n | _ => 0)
  case atStart =>
    refine ⟨[], ⟨ty, fn, o, l, cc, tx⟩, w2.heap.size, 0, none, rfl, rfl, World.ownsRow_nil _ _ _ _, Blk.new w2 _ 154, by omega, by simp [Value.ownBlock], HX.out.alloc _, HP.out.keep ((Ex.refl No _).alloc _) no_ no_⟩
  case round =>
    obtain ⟨done, cur, r6, cap, A, rfl, rfl, hO, hC, hr6, hor6, hE, hP⟩ := hrel
    have c1039 := hP.err
    have ltb := some_lt c1039
    obtain ⟨ty', fn', o', l', cc', tx'⟩ := cur
    have cr := hC.cell
    have lr := hC.lt
    have hlen := RI.len hP
    have hLl : L.length ≤ 1000 := by rw [HL.out.1]; have := HLEX.out.1.len; simp only [List.length_cons]; omega
    have HO := Lib.hid hO
    have HC := Lib.hid hC
    have HE := Lib.hid hE
    have HPP := Lib.hid hP
    simp only [TokC.cells] at cr
    clear hO hC hE hP
    by_cases hz : ty' = 0
    · subst hz
      obtain ⟨hLd, cs, Ao, co, tpo, teo, hBs, hSs⟩ : L = tks done ∧ Fz w.heap.size wr := by
        rcases HPP.out with ⟨h, _⟩ | ⟨_, h1, h2⟩
        · exact absurd rfl h
        · exact ⟨h1, h2⟩
      obtain ⟨fn, q1⟩ := hSs.pfn
      obtain ⟨o, q2⟩ := hSs.po
      obtain ⟨l, q3⟩ := hSs.pl
      obtain ⟨pc, q4⟩ := hSs.pc
      have d0 := (hBs.cell 1040).trans q1
      have d1 := (hBs.cell 1041).trans q2
      have d2 := (hBs.cell 1042).trans q3
      have d3 := (hBs.cell 1043).trans q4
      have HLD := Lib.hid hLd
      clear hLd hBs hSs q1 q2 q3 q4
      go_wp2_with (at_builtin; refine wpList_append_lies _ rfl (.tmp 29) (.tmp 33) 135 rfl (w.heap.size + 1) 154 i0 (.agg zt) 6 64 (by kernel_rfl) hi0 hz0 hz1 hz2 rfl (by decide) _ done.length (rows6 done) rfl ?ho ⟨wr.heap.size, 0, none⟩ 1 1 [.int .i64 0, .string fn, .int .i64 o, .int .i64 l, .int .i64 pc, .string ⟨#[]⟩] rfl rfl ?hn ?h1 (by decide) (by unfold maxLen; omega) (by omega) ?hb _ rfl ?_)
      case ho => exact own_ex HO.out ((Ex.refl No _).alloc _) (fun _ _ => no_)
      case h1 => exact ⟨rfl, rfl, rfl, rfl, rfl, rfl⟩
      case hb => omega
      intro g' cap' w' ho' hg' hgo hlt'
      have hx1 : Ex (fun i => (Value.slice A done.length cap).ownBlock = some i) wr w' := ((Ex.refl _ _).alloc _).grown hg' (fun k hk _ => hk.symm)
      have HH := Lib.hid (And.intro hx1 ho')
      clear hx1 ho' hg' hgo hlt'
      go_wp2
      go_ret2
      have e : (done ++ [(⟨0, fn, o, l, pc, ⟨#[]⟩⟩ : TokC)]).length = done.length + 1 := by simp
      refine ⟨done ++ [⟨0, fn, o, l, pc, ⟨#[]⟩⟩], g', cap', by rw [e]; rfl, ?_, ?_, ?_⟩
      · rw [HLD.out]; simp [tks]
      · rw [e, rows6_snoc]
        have h := HH.out.2
        obtain ⟨hl, hr⟩ := h
        refine ⟨hl, ?_⟩
        rcases hr with hr | ⟨g, cap, cur, hv, hb, k⟩
        · exact Or.inl hr
        · exact Or.inr ⟨g, cap, cur, hv, by omega, k⟩
      · exact HE.out.trans' HH.out.1 (fun i hi h => by have := own_from HO.out (h.symm); omega)
    · have hz' : (ty' == 0) = false := by simpa using hz
      have hz2' : (ty' != 0) = true := by simpa using hz
      go_wp2_with (at_builtin; refine wpList_append_lies _ rfl (.tmp 19) (.tmp 21) 135 rfl (w.heap.size + 1) 154 i0 (.agg zt) 6 64 (by kernel_rfl) hi0 hz0 hz1 hz2 rfl (by decide) _ done.length (rows6 done) rfl ?ho2 ⟨wr.heap.size, 0, none⟩ 1 1 [.int .i64 ty', .string fn', .int .i64 o', .int .i64 l', .int .i64 cc', .string tx'] rfl rfl ?hn2 ?h12 (by decide) (by unfold maxLen; omega) (by omega) ?hb2 _ rfl ?_)
      case ho2 => exact own_ex HO.out ((Ex.refl No _).alloc _) (fun _ _ => no_)
      case h12 => exact ⟨rfl, rfl, rfl, rfl, rfl, rfl⟩
      case hb2 => omega
      intro g' cap' w' ho' hg' hgo hlt'
      have hx1 : Ex (fun i => (Value.slice A done.length cap).ownBlock = some i) wr w' := ((Ex.refl _ _).alloc _).grown hg' (fun k hk _ => hk.symm)
      have hC' := Blk.grown (HC.out.ex ((Ex.refl No _).alloc _) no_) hg' hor6
      have cr' := hC'.cell
      have lr' := hC'.lt
      simp only [TokC.cells] at cr'
      have hbx : ¬ (Value.slice A done.length cap).ownBlock = some w.heap.size := own_ne HO.out (by omega)
      have hbbx : ¬ (Value.slice A done.length cap).ownBlock = some bb := own_ne HO.out (by omega)
      have h0x : ¬ (Value.slice A done.length cap).ownBlock = some 0 := own_ne HO.out (by omega)
      have hG' := hx1.got (HE.out.got HGG.out (fun h => hbb h.symm)) h0x
      obtain ⟨rest', hL', hph⟩ : ∃ rest', L = tks done ++ (ty', tx') :: rest' ∧ Ph w.heap.size bb T (.iface 223 (.pointer (some ⟨bb, 0, none⟩))) #[.slice (some ⟨tb, 0, none⟩) T.length c, .int .i64 T.length, .int .i8 (-1)] w' rest' := by
        rcases HPP.out.keep hx1 hbx hbbx with ⟨_, rest', h1, h2⟩ | ⟨h1, _⟩
        · exact ⟨rest', h1, h2⟩
        · exact absurd h1 hz
      have HH := Lib.hid (And.intro hx1 (And.intro ho' (And.intro hlt' (And.intro hL' (And.intro hph hG')))))
      clear hx1 ho' hlt' hL' hph hG' hg' hgo hC' cr lr
      go_wp2_with fail
      refine (next_step _ w.heap.size bb tb c ad T _ rest' rfl hA hne hb0 hbb (((Ex.refl No _).alloc _).got HH.out.2.2.2.2.2 no_) (HH.out.2.2.2.2.1.keep ((Ex.refl No _).alloc _) no_ no_)).mono ?_
      rintro e' w3 ⟨t, rfl, hx3, ha⟩
      have hr7b : ¬ Tw w.heap.size bb w'.heap.size := by have := HE.out.size; have := HH.out.1.size; unfold Tw; omega
      have hB7 := (Blk.new w' #[.int .i64 ty', .string fn', .int .i64 o', .int .i64 l', .int .i64 cc', .string tx'] 154).ex hx3 hr7b
      have c7 := hB7.cell
      have f7 := hB7.free
      have l7 := hB7.lt
      have HX3 := Lib.hid (And.intro hx3 (And.intro ha hB7))
      clear hx3 ha hB7 hr7b cr'
      obtain ⟨ty2, fn2, o2, l2, cc2, tx2⟩ := t
      simp only [TokC.val]
      go_wp2_with fail
      go_roundw
      case rel =>
        exact RI.step (cur := ⟨ty', fn', o', l', cc', tx'⟩) (t := ⟨ty2, fn2, o2, l2, cc2, tx2⟩) (by omega) HE.out ltb HH.out.1 HO.out HH.out.2.1 HH.out.2.2.1 rfl ((Ex.refl No _).alloc _) HX3.out.1 HH.out.2.2.2.1 HL.out.2 HX3.out.2.1 _ ((((((((Ex.refl _ _).own _ _).own _ _).own _ _).own _ _).own _ _).own _ _))
          ((((((HX3.out.2.2.set 0 _).set 1 _).set 2 _).set 3 _).set 4 _).set 5 _)
      case measure =>
        have := HH.out.2.2.2.1
        have : L.length = done.length + (1 + rest'.length) := by rw [this]; simp [tks]; omega
        show L.length + 1 - (done.length + 1) < L.length + 1 - done.length
        omega
end Go.Proofs.YtbepocojafbbbaaGreatDoor
