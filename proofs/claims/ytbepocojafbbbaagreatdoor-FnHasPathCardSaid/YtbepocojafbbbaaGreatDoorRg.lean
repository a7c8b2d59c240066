/- A region that draws its order, by an invariant over what has been done. -/
import Derived.Test.YtbepocojafbbbaaGreatDoorBase
namespace Go.Proofs.YtbepocojafbbbaaGreatDoor
open Go.RowKit

def falses (l : List Bool) : Nat := (l.filter (fun b => !b)).length
theorem falses_set (l : List Bool) (i : Nat) (h : l[i]? = some false) : falses (l.set i true) + 1 = falses l := by
  induction l generalizing i with
  | nil => simp at h
  | cons b l ih =>
    cases i with
    | zero => simp at h; subst h; simp [falses]
    | succ i =>
      simp at h
      have := ih i h
      cases b <;> simp_all [falses]
theorem falses_none (l : List Bool) (h : falses l = 0) (i : Nat) (hi : i < l.length) : l[i]? = some true := by
  unfold falses at h
  rw [List.length_eq_zero_iff, List.filter_eq_nil_iff] at h
  rw [List.getElem?_eq_getElem hi]
  have := h l[i] (List.getElem_mem hi)
  simpa using this

def Done (L : Nat → Bool) : List Edge → Prop
  | [] => True
  | e :: r => (Region.binds .any e = true → L e.on = true) ∧ Done L r
theorem Done.of (L : Nat → Bool) : ∀ l : List Edge, (∀ e ∈ l, Region.binds .any e = true → L e.on = true) → Done L l
  | [], _ => trivial
  | e :: r, h => ⟨h e (by simp), Done.of L r (fun x hx => h x (by simp [hx]))⟩

/-- What an invariant owes at each operation. -/
def stepAll (P : Program) (ops : Array Oper) (Q : Exit → Act → World → Prop) (I : (Nat → Bool) → Act → World → Prop) : Nat → List Oper → Prop
  | _, [] => True
  | k, o :: rest => (∀ L a w, I L a w → L k = false → Done L o.after.toList → ∀ K : Act → World → Prop, (∀ a' w', I (fun j => if j = k then true else L j) a' w' → K a' w') →
      if Region.wanted o (yielded ops a.tmps) then o.wp P a w K Q else K (a.put o.dst undef) w) ∧ stepAll P ops Q I (k + 1) rest

theorem stepAll_get {P : Program} {ops : Array Oper} {Q : Exit → Act → World → Prop} {I : (Nat → Bool) → Act → World → Prop} : ∀ (l : List Oper) (k : Nat), stepAll P ops Q I k l → ∀ i o, l[i]? = some o →
    ∀ L a w, I L a w → L (k + i) = false → Done L o.after.toList → ∀ K : Act → World → Prop, (∀ a' w', I (fun j => if j = k + i then true else L j) a' w' → K a' w') →
      if Region.wanted o (yielded ops a.tmps) then o.wp P a w K Q else K (a.put o.dst undef) w
  | [], _, _, i, o, h => by simp at h
  | o :: r, k, hs, 0, o', h => by simp at h; subst h; exact hs.1
  | o :: r, k, hs, i + 1, o', h => by
    have := stepAll_get r (k + 1) hs.2 i o' (by simpa using h)
    have e : k + 1 + i = k + (i + 1) := by omega
    rw [e] at this
    exact this

theorem wpAny_inv {P : Program} {ops : Array Oper} {Q : Exit → Act → World → Prop} (I : (Nat → Bool) → Act → World → Prop)
    (hlt : (List.range ops.size).all (fun i => ((ops[i]?).map (fun o => o.after.all (fun e => decide (e.on < i)))).getD true) = true)
    (hs : stepAll P ops Q I 0 ops.toList) (hd : ∀ L a w, I L a w → (∀ i, i < ops.size → L i = true) → Q .normal a w) :
    ∀ (fuel : Nat) (listed : Array Bool) (a : Act) (w : World), listed.size = ops.size → falses listed.toList = fuel → I (fun i => listed.getD i false) a w → wpAny P .any ops Q fuel listed a w := by
  intro fuel
  have hall : ∀ listed : Array Bool, listed.size = ops.size → Region.ready .any ops listed = [] → ∀ i, i < ops.size → listed.getD i false = true := by
    intro listed hsz hr i
    induction i using Nat.strongRecOn with
    | _ i ih =>
      intro hi
      by_cases hc : listed.getD i false = true
      · exact hc
      · exfalso
        have hgt : listed.getD i true = false := by
          rw [Array.getD, dif_pos (by omega)] at hc ⊢
          simpa using hc
        have ho : ops[i]? = some ops[i] := Array.getElem?_eq_getElem hi
        have : i ∈ Region.ready .any ops listed := by
          rw [mem_ready]
          refine ⟨hgt, ops[i], ho, fun e he _ => ?_⟩
          have hl := List.all_eq_true.1 hlt i (by simpa using hi)
          rw [ho] at hl
          simp only [Option.map_some, Option.getD_some] at hl
          have := Array.all_eq_true_iff_forall_mem.1 hl e he
          have := of_decide_eq_true this
          exact ih e.on this (by omega)
        rw [hr] at this
        cases this
  induction fuel with
  | zero =>
    intro listed a w hsz hf hI
    have ht : ∀ i, i < ops.size → listed.getD i false = true := fun i hi => by
      have := falses_none listed.toList hf i (by simp; omega)
      simp at this
      simp [Array.getD, hsz, hi] 
      have h2 := (Array.getElem?_eq_some_iff.1 this).2
      exact h2
    refine ⟨?_, hd _ a w hI ht⟩
    rw [List.eq_nil_iff_forall_not_mem]
    intro i hi
    obtain ⟨h0, o, ho, _⟩ := mem_ready.1 hi
    have hil := (Array.getElem?_eq_some_iff.1 ho).1
    have := ht i hil
    rw [Array.getD, dif_pos (by omega)] at this h0
    rw [this] at h0; cases h0
  | succ fuel ih =>
    intro listed a w hsz hf hI
    refine ⟨fun hr => hd _ a w hI (hall listed hsz hr), fun i hi => ?_⟩
    obtain ⟨h0, o, ho, hpre⟩ := mem_ready.1 hi
    have hil := (Array.getElem?_eq_some_iff.1 ho).1
    have h0' : listed.getD i false = false := by
      rw [Array.getD, dif_pos (by omega)] at h0 ⊢; exact h0
    unfold wpOp
    rw [ho]
    have hset : ∀ a' w', I (fun j => if j = i then true else listed.getD j false) a' w' → wpAny P .any ops Q fuel (listed.setIfInBounds i true) a' w' := by
      intro a' w' h'
      refine ih _ a' w' (by simpa using hsz) ?_ ?_
      · have hg : listed.toList[i]? = some false := by
          rw [Array.getD, dif_pos (by omega)] at h0
          rw [List.getElem?_eq_getElem (by simp; omega)]
          simpa using h0
        have := falses_set listed.toList i hg
        have e : (listed.setIfInBounds i true).toList = listed.toList.set i true := by simp
        rw [e]; omega
      · have e : (fun j => (listed.setIfInBounds i true).getD j false) = (fun j => if j = i then true else listed.getD j false) := by
          funext j
          by_cases hj : j = i
          · subst hj; simp [Array.getD, hsz, hil]
          · rw [if_neg hj, getD_set_ne false (fun e => hj e.symm)]
        rw [e]; exact h'
    have hg := stepAll_get ops.toList 0 hs i o (by simpa using ho) _ a w hI (by simpa using h0') (Done.of _ _ (fun e he hb => hpre e (by simpa using he) hb)) (wpAny P .any ops Q fuel (listed.setIfInBounds i true)) (fun a' w' h' => hset a' w' (by simpa using h'))
    dsimp only
    split
    · rename_i hw; rw [if_pos hw] at hg; exact Or.inl hg
    · rename_i hw; rw [if_neg hw] at hg; exact hg

theorem wp_region_inv {P : Program} {ops : Array Oper} {Q : Exit → Act → World → Prop} {id : Nat} {a : Act} {w : World} (I : (Nat → Bool) → Act → World → Prop) (hm : P.follows .mixedOrders = true)
    (hlt : (List.range ops.size).all (fun i => ((ops[i]?).map (fun o => o.after.all (fun e => decide (e.on < i)))).getD true) = true)
    (h0 : I (fun _ => false) a w.drew) (hs : stepAll P ops Q I 0 ops.toList) (hd : ∀ L a w, I L a w → (∀ i, i < ops.size → L i = true) → Q .normal a w) : (Code.region id ops true).wp P Q a w := by
  refine wp_region_any hm (wpAny_inv I hlt hs hd ops.size (Array.replicate ops.size false) a _ (by simp) (by simp [falses]) ?_)
  have e : (fun i => (Array.replicate ops.size false).getD i false) = fun _ => false := by
    funext i; simp only [Array.getD]; split <;> simp
  rw [e]; exact h0
end Go.Proofs.YtbepocojafbbbaaGreatDoor
