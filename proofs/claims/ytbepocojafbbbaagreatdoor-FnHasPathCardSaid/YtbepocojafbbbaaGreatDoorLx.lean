/- The tokens of the two texts. -/
import Derived.Test.YtbepocojafbbbaaGreatDoorPi
namespace Go.Proofs.YtbepocojafbbbaaGreatDoor
open Go.RowKit
set_option maxRecDepth 100000

theorem chr_drop {T S : List UInt8} {q : Nat} (h : T.drop q = S) (j : Nat) : chr T (q + j) = (S.getD j 0).toNat := by
  subst h
  unfold chr
  simp [List.getD, List.getElem?_drop]
theorem len_drop {T S : List UInt8} {q : Nat} (h : T.drop q = S) (hS : 0 < S.length) : T.length = q + S.length := by
  subst h
  simp at hS ⊢; omega
theorem drop_more {T S r : List UInt8} {q n : Nat} (h : T.drop q = S) (hr : S.drop n = r) : T.drop (q + n) = r := by
  subst h hr
  rw [List.drop_drop]
theorem cut_ba {T u r : List UInt8} {q n : Nat} (h : T.drop q = u ++ r) (hn : n = u.length) : cut T q (q + n) = ba u := by
  unfold cut ba
  rw [h, hn]
  have : q + u.length - q = u.length := by omega
  rw [this]; simp

theorem lex_id {T : List UInt8} {q : Nat} (ws w r : List UInt8) (x c : UInt8) (rest : List (Int × ByteArray)) (hS : T.drop q = ws ++ (x :: w) ++ c :: r) (h1 : ∀ y ∈ ws, whiteB (y.toNat : Nat) = true) (h2 : whiteB (x.toNat : Nat) = false)
    (h3 : identB (x.toNat : Nat) true = true) (h4 : ∀ y ∈ w, identB (y.toNat : Nat) false = true) (h5 : identB (c.toNat : Nat) false = false) (ty : Int) (hty : (if reserved (ba (x :: w)) then 3 else 1) = ty) (hr : ∀ q', T.drop q' = c :: r → Lex T q' rest) : Lex T q ((ty, ba (x :: w)) :: rest) := by
  have hl := len_drop hS (by simp; omega)
  simp only [List.length_append, List.length_cons] at hl
  have k := chr_drop hS
  have hd : T.drop (q + ws.length) = (x :: w) ++ c :: r := drop_more hS (by simp)
  have hc := cut_ba hd (n := w.length + 1) (by simp)
  have hn : T.drop (q + ws.length + (w.length + 1)) = c :: r := drop_more hd (by simp)
  have e : (ty, ba (x :: w)) = (if reserved (cut T (q + ws.length) (q + ws.length + (w.length + 1))) then (3 : Int) else 1, cut T (q + ws.length) (q + ws.length + (w.length + 1))) := by rw [hc, hty]
  rw [e]
  have kd := chr_drop hd
  refine .ident q (q + ws.length) (q + ws.length + (w.length + 1)) rest (by omega) (fun j a b => ?_) ?_ (by omega) (by omega) ?_ (fun j a b => ?_) ?_ (hr _ hn)
  · have := k (j - q)
    rw [show q + (j - q) = j by omega] at this
    rw [this]
    have hj : j - q < ws.length := by omega
    have : (ws ++ (x :: w) ++ c :: r).getD (j - q) 0 = ws[j - q] := by simp [List.getD, List.getElem?_append, hj]
    rw [this]
    exact h1 _ (List.getElem_mem hj)
  · have := kd 0
    rw [Nat.add_zero] at this
    rw [this]; exact h2
  · have := kd 0
    rw [Nat.add_zero] at this
    rw [this]; exact h3
  · obtain ⟨i, rfl⟩ : ∃ i, j = q + ws.length + (i + 1) := ⟨j - (q + ws.length) - 1, by omega⟩
    rw [kd (i + 1)]
    have hi : i < w.length := by omega
    have : ((x :: w) ++ c :: r).getD (i + 1) 0 = w[i] := by simp [List.getD, List.getElem?_append, hi]
    rw [this]
    exact h4 _ (List.getElem_mem hi)
  · rw [kd (w.length + 1)]
    have : ((x :: w) ++ c :: r).getD (w.length + 1) 0 = c := by simp [List.getD]
    rw [this]; exact h5

theorem lex_1 {T : List UInt8} {q : Nat} (ws r : List UInt8) (x c : UInt8) (rest : List (Int × ByteArray)) (hS : T.drop q = ws ++ [x] ++ c :: r) (h1 : ∀ y ∈ ws, whiteB (y.toNat : Nat) = true) (h2 : whiteB (x.toNat : Nat) = false)
    (h3 : x.toNat = 40 ∨ x.toNat = 41 ∨ x.toNat = 44 ∨ x.toNat = 123 ∨ x.toNat = 125 ∨ x.toNat = 46) (hr : ∀ q', T.drop q' = c :: r → Lex T q' rest) : Lex T q ((5, ba [x]) :: rest) := by
  have hl := len_drop hS (by simp; omega)
  simp only [List.length_append, List.length_cons, List.length_nil] at hl
  have k := chr_drop hS
  have hd : T.drop (q + ws.length) = [x] ++ c :: r := drop_more hS (by simp)
  have hc := cut_ba hd (n := 1) (by simp)
  have hn : T.drop (q + ws.length + 1) = c :: r := drop_more hd (by simp)
  have kd := chr_drop hd 0
  rw [Nat.add_zero] at kd
  have kd' : chr T (q + ws.length) = x.toNat := by rw [kd]; rfl
  rw [← hc]
  refine .one q (q + ws.length) (q + ws.length + 1) rest (by omega) (fun j a b => ?_) (by rw [kd']; exact h2) rfl (by omega) (by rw [kd']; exact h3) (hr _ hn)
  have := k (j - q)
  rw [show q + (j - q) = j by omega] at this
  rw [this]
  have hj : j - q < ws.length := by omega
  have : (ws ++ [x] ++ c :: r).getD (j - q) 0 = ws[j - q] := by simp [List.getD, List.getElem?_append, hj]
  rw [this]
  exact h1 _ (List.getElem_mem hj)

theorem lex_2 {T : List UInt8} {q : Nat} (ws r : List UInt8) (c : UInt8) (rest : List (Int × ByteArray)) (hS : T.drop q = ws ++ [38, 38] ++ c :: r) (h1 : ∀ y ∈ ws, whiteB (y.toNat : Nat) = true)
    (hr : ∀ q', T.drop q' = c :: r → Lex T q' rest) : Lex T q ((5, ba [38, 38]) :: rest) := by
  have hl := len_drop hS (by simp; omega)
  simp only [List.length_append, List.length_cons, List.length_nil] at hl
  have k := chr_drop hS
  have hd : T.drop (q + ws.length) = [38, 38] ++ c :: r := drop_more hS (by simp)
  have hc := cut_ba hd (n := 2) (by simp)
  have hn : T.drop (q + ws.length + 2) = c :: r := drop_more hd (by simp)
  have kd := chr_drop hd 0
  have kd1 := chr_drop hd 1
  rw [Nat.add_zero] at kd
  have kd' : chr T (q + ws.length) = 38 := by rw [kd]; rfl
  have kd1' : chr T (q + ws.length + 1) = 38 := by rw [kd1]; rfl
  rw [← hc]
  refine .two q (q + ws.length) (q + ws.length + 2) rest (by omega) (fun j a b => ?_) (by rw [kd']; rfl) rfl (by omega) kd' kd1' (hr _ hn)
  have := k (j - q)
  rw [show q + (j - q) = j by omega] at this
  rw [this]
  have hj : j - q < ws.length := by omega
  have : (ws ++ [38, 38] ++ c :: r).getD (j - q) 0 = ws[j - q] := by simp [List.getD, List.getElem?_append, hj]
  rw [this]
  exact h1 _ (List.getElem_mem hj)
theorem lex_end {T : List UInt8} {q : Nat} (hS : T.drop q = [59]) : Lex T q [(5, ⟨#[59]⟩)] := by
  have hl := len_drop hS (by simp)
  have kd := chr_drop hS 0
  rw [Nat.add_zero] at kd
  have kd' : chr T q = 59 := by rw [kd]; rfl
  exact .last q q (Nat.le_refl _) (fun j a b => by omega) (by rw [kd']; rfl) (by simpa using hl) kd'

theorem toList_lit (l : List UInt8) : (⟨l.toArray⟩ : ByteArray).toList = l := ba_toList l
theorem res_lit (l : List UInt8) : reserved (ba l) = ([[116, 114, 117, 101], [102, 97, 108, 115, 101], [105, 102], [116, 104, 101, 110], [101, 108, 115, 101], [105, 110], [108, 105, 107, 101], [104, 97, 115], [105, 115], [95, 95, 99, 101, 100, 97, 114]].any fun s => l == s) := by
  unfold reserved words
  rw [ba_toList]
  have k : ∀ l : List UInt8, (⟨l.toArray⟩ : ByteArray).toList = l := toList_lit
  simp only [List.any_cons, List.any_nil, k [116, 114, 117, 101], k [102, 97, 108, 115, 101], k [105, 102], k [116, 104, 101, 110], k [101, 108, 115, 101], k [105, 110], k [108, 105, 107, 101], k [104, 97, 115], k [105, 115], k [95, 95, 99, 101, 100, 97, 114]]
theorem res_a (D : List UInt8) : reserved (ba (97 :: D)) = false := by rw [res_lit]; simp
theorem res_b (E : List UInt8) (_h : ∀ y ∈ E, identB (y.toNat : Nat) false = true) (h0 : ∀ y ∈ E, y ≠ 95) : reserved (ba (95 :: E)) = false := by
  rw [res_lit]
  cases E with
  | nil => rfl
  | cons y E =>
    have := h0 y (by simp)
    simp [this]
theorem lex_from (T : List UInt8) (q : Nat) (S : List UInt8) (l : List (Int × ByteArray)) (h : T.drop q = S) (k : ∀ q', T.drop q' = S → Lex T q' l) : Lex T q l := k q h

def T1 (D E : List UInt8) : List UInt8 := [112, 101, 114, 109, 105, 116, 32, 40, 112, 114, 105, 110, 99, 105, 112, 97, 108, 44, 32, 97, 99, 116, 105, 111, 110, 44, 32, 114, 101, 115, 111, 117, 114, 99, 101, 41, 32, 119, 104, 101, 110, 32, 123] ++ ([99, 111, 110, 116, 101, 120, 116, 32, 104, 97, 115, 32] ++ ((97 :: D) ++ ([46] ++ ((95 :: E) ++ [125, 59]))))
theorem lex1 (D E : List UInt8) (hD : ∀ y ∈ D, identB (y.toNat : Nat) false = true) (hE : ∀ y ∈ E, identB (y.toNat : Nat) false = true) (hE0 : ∀ y ∈ E, y ≠ 95) : Lex (T1 D E) 6 (toks1 (ba (97 :: D)) (ba (95 :: E))).tail := by
  have hq : (T1 D E).drop 6 = [32] ++ [40] ++ 112 :: (T1 D E).drop 9 := rfl
  refine lex_from (T1 D E) 6 _ _ hq (fun q hq => ?_)
  refine lex_1 [32] _ 40 _ _ hq (by decide) (by decide) (by decide) (fun q hq => ?_)
  refine lex_id [] [114, 105, 110, 99, 105, 112, 97, 108] _ 112 _ _ hq (by decide) (by decide) (by decide) (by decide) (by decide) 1 (by rw [res_lit]; rfl) (fun q hq => ?_)
  refine lex_1 [] _ 44 _ _ hq (by decide) (by decide) (by decide) (fun q hq => ?_)
  refine lex_id [32] [99, 116, 105, 111, 110] _ 97 _ _ hq (by decide) (by decide) (by decide) (by decide) (by decide) 1 (by rw [res_lit]; rfl) (fun q hq => ?_)
  refine lex_1 [] _ 44 _ _ hq (by decide) (by decide) (by decide) (fun q hq => ?_)
  refine lex_id [32] [101, 115, 111, 117, 114, 99, 101] _ 114 _ _ hq (by decide) (by decide) (by decide) (by decide) (by decide) 1 (by rw [res_lit]; rfl) (fun q hq => ?_)
  refine lex_1 [] _ 41 _ _ hq (by decide) (by decide) (by decide) (fun q hq => ?_)
  refine lex_id [32] [104, 101, 110] _ 119 _ _ hq (by decide) (by decide) (by decide) (by decide) (by decide) 1 (by rw [res_lit]; rfl) (fun q hq => ?_)
  refine lex_1 [32] _ 123 _ _ hq (by decide) (by decide) (by decide) (fun q hq => ?_)
  refine lex_id [] [111, 110, 116, 101, 120, 116] _ 99 _ _ hq (by decide) (by decide) (by decide) (by decide) (by decide) 1 (by rw [res_lit]; rfl) (fun q hq => ?_)
  refine lex_id [32] [97, 115] _ 104 _ _ hq (by decide) (by decide) (by decide) (by decide) (by decide) 3 (by rw [res_lit]; rfl) (fun q hq => ?_)
  refine lex_id [32] D _ 97 _ _ hq (by decide) (by decide) (by decide) hD (by decide) 1 (by rw [res_a]; rfl) (fun q hq => ?_)
  refine lex_1 [] _ 46 _ _ hq (by decide) (by decide) (by decide) (fun q hq => ?_)
  refine lex_id [] E _ 95 _ _ hq (by decide) (by decide) (by decide) hE (by decide) 1 (by rw [res_b E hE hE0]; rfl) (fun q hq => ?_)
  refine lex_1 [] _ 125 _ _ hq (by decide) (by decide) (by decide) (fun q hq => ?_)
  exact lex_end hq

def T2 (D E : List UInt8) : List UInt8 := [112, 101, 114, 109, 105, 116, 32, 40, 112, 114, 105, 110, 99, 105, 112, 97, 108, 44, 32, 97, 99, 116, 105, 111, 110, 44, 32, 114, 101, 115, 111, 117, 114, 99, 101, 41, 32, 119, 104, 101, 110, 32, 123] ++ ([40, 99, 111, 110, 116, 101, 120, 116, 32, 104, 97, 115, 32] ++ ((97 :: D) ++ ([41, 32, 38, 38, 32, 40, 99, 111, 110, 116, 101, 120, 116, 46] ++ ((97 :: D) ++ ([32, 104, 97, 115, 32] ++ ((95 :: E) ++ [41, 125, 59]))))))
theorem lex2 (D E : List UInt8) (hD : ∀ y ∈ D, identB (y.toNat : Nat) false = true) (hE : ∀ y ∈ E, identB (y.toNat : Nat) false = true) (hE0 : ∀ y ∈ E, y ≠ 95) : Lex (T2 D E) 6 (toks2 (ba (97 :: D)) (ba (95 :: E))).tail := by
  have hq : (T2 D E).drop 6 = [32] ++ [40] ++ 112 :: (T2 D E).drop 9 := rfl
  refine lex_from (T2 D E) 6 _ _ hq (fun q hq => ?_)
  refine lex_1 [32] _ 40 _ _ hq (by decide) (by decide) (by decide) (fun q hq => ?_)
  refine lex_id [] [114, 105, 110, 99, 105, 112, 97, 108] _ 112 _ _ hq (by decide) (by decide) (by decide) (by decide) (by decide) 1 (by rw [res_lit]; rfl) (fun q hq => ?_)
  refine lex_1 [] _ 44 _ _ hq (by decide) (by decide) (by decide) (fun q hq => ?_)
  refine lex_id [32] [99, 116, 105, 111, 110] _ 97 _ _ hq (by decide) (by decide) (by decide) (by decide) (by decide) 1 (by rw [res_lit]; rfl) (fun q hq => ?_)
  refine lex_1 [] _ 44 _ _ hq (by decide) (by decide) (by decide) (fun q hq => ?_)
  refine lex_id [32] [101, 115, 111, 117, 114, 99, 101] _ 114 _ _ hq (by decide) (by decide) (by decide) (by decide) (by decide) 1 (by rw [res_lit]; rfl) (fun q hq => ?_)
  refine lex_1 [] _ 41 _ _ hq (by decide) (by decide) (by decide) (fun q hq => ?_)
  refine lex_id [32] [104, 101, 110] _ 119 _ _ hq (by decide) (by decide) (by decide) (by decide) (by decide) 1 (by rw [res_lit]; rfl) (fun q hq => ?_)
  refine lex_1 [32] _ 123 _ _ hq (by decide) (by decide) (by decide) (fun q hq => ?_)
  refine lex_1 [] _ 40 _ _ hq (by decide) (by decide) (by decide) (fun q hq => ?_)
  refine lex_id [] [111, 110, 116, 101, 120, 116] _ 99 _ _ hq (by decide) (by decide) (by decide) (by decide) (by decide) 1 (by rw [res_lit]; rfl) (fun q hq => ?_)
  refine lex_id [32] [97, 115] _ 104 _ _ hq (by decide) (by decide) (by decide) (by decide) (by decide) 3 (by rw [res_lit]; rfl) (fun q hq => ?_)
  refine lex_id [32] D _ 97 _ _ hq (by decide) (by decide) (by decide) hD (by decide) 1 (by rw [res_a]; rfl) (fun q hq => ?_)
  refine lex_1 [] _ 41 _ _ hq (by decide) (by decide) (by decide) (fun q hq => ?_)
  refine lex_2 [32] _ _ _ hq (by decide) (fun q hq => ?_)
  refine lex_1 [32] _ 40 _ _ hq (by decide) (by decide) (by decide) (fun q hq => ?_)
  refine lex_id [] [111, 110, 116, 101, 120, 116] _ 99 _ _ hq (by decide) (by decide) (by decide) (by decide) (by decide) 1 (by rw [res_lit]; rfl) (fun q hq => ?_)
  refine lex_1 [] _ 46 _ _ hq (by decide) (by decide) (by decide) (fun q hq => ?_)
  refine lex_id [] D _ 97 _ _ hq (by decide) (by decide) (by decide) hD (by decide) 1 (by rw [res_a]; rfl) (fun q hq => ?_)
  refine lex_id [32] [97, 115] _ 104 _ _ hq (by decide) (by decide) (by decide) (by decide) (by decide) 3 (by rw [res_lit]; rfl) (fun q hq => ?_)
  refine lex_id [32] E _ 95 _ _ hq (by decide) (by decide) (by decide) hE (by decide) 1 (by rw [res_b E hE hE0]; rfl) (fun q hq => ?_)
  refine lex_1 [] _ 41 _ _ hq (by decide) (by decide) (by decide) (fun q hq => ?_)
  refine lex_1 [] _ 125 _ _ hq (by decide) (by decide) (by decide) (fun q hq => ?_)
  exact lex_end hq
end Go.Proofs.YtbepocojafbbbaaGreatDoor
