/-
  ONE ROW BEARS THE NAME OF io.EOF's TYPE: by one pass over the table of types.
-/
import Derived.Test.YtbepocojafbbbaaGreatDoorRows
import Derived.ProofKit
import Derived.LaidLaws
namespace Go.Proofs.YtbepocojafbbbaaGreatDoor
open Go.RowKit

def linB (sn nm : String) (e0 tp : Nat) (i : TypeInfo) (u : Nat) : Bool :=
  match i.desc with
  | .named n _ => n != sn && (n != nm || Nat.beq u e0)
  | .pointer e => !Nat.beq e e0 || Nat.beq u tp
  | .bool | .int _ | .float _ | .string => i.str != sn && i.str != nm
  | _ => true

theorem rows_of_lin {P : Program} {nm : String} {e0 tp : TypeId} (h : (P.types.toList.zipIdx.all fun x => linB ("*" ++ nm) nm e0 tp x.1 x.2) = true) (hstar : nm.toList.head? ≠ some '*') 
    (u : TypeId) (hu : P.typeName? 3 u = some ("*" ++ nm)) : u = tp := by
  have lin : ∀ (i : TypeInfo) (u : Nat), u < P.types.size → P.info? u = some i → linB ("*" ++ nm) nm e0 tp i u = true := fun i u hl hi => by
    have e : P.types[u]? = some i := by
      unfold Tables.info? at hi
      rwa [if_pos hl] at hi
    exact List.all_eq_true.1 h (i, u) (List.mem_zipIdx_iff_getElem?.2 (by simpa using e))
  have star : ∀ s : String, "*" ++ s ≠ nm := fun s e => hstar (by rw [← e]; simp [String.toList_append])
  have two : ∀ e, P.typeName? 2 e = some nm → e < P.types.size → e = e0 := fun e he hl => by
    unfold Program.typeName? at he
    cases hi : P.info? e with
    | none => simp [hi] at he
    | some i =>
      have hb := lin i e hl hi
      unfold linB at hb
      cases hd : i.desc <;> simp only [hi, hd] at he hb <;> try cases he
      all_goals first
        | (simp only [Option.map_eq_some_iff] at he; obtain ⟨_, _, hs⟩ := he; exact absurd hs (star _))
        | (split at he <;> first | (cases he; done) | (simp at he; simp [he] at hb; done) | (simp at he; simp [he] at hb; exact hb.2))
  refine typeName_ptr_named (nm := nm) ?_ ?_ hstar u hu
  · refine List.all_eq_true.2 fun u hm => ?_
    have hl := List.mem_range.1 hm
    by_cases hn : P.typeName? 3 u = some ("*" ++ nm)
    · suffices u = tp by simp [this]
      unfold Program.typeName? at hn
      cases hi : P.info? u with
      | none => simp [hi] at hn
      | some i =>
        have hb := lin i u hl hi
        unfold linB at hb
        cases hd : i.desc <;> simp only [hi, hd] at hn hb <;> try cases hn
        case pointer e =>
          simp only [Option.map_eq_some_iff] at hn
          obtain ⟨n', hn', hs⟩ := hn
          obtain rfl := star_append_inj hs
          by_cases he : e < P.types.size
          · obtain rfl := two e hn' he
            simp at hb
            exact hb
          · exfalso
            unfold Program.typeName? at hn'
            cases hj : P.info? e with
            | none => simp [hj] at hn'
            | some j =>
              have hb' := Tables.info?_beyond he hj
              simp only [hj] at hn'
              cases hd' : j.desc <;> simp only [hd', TypeDesc.tableOnly] at hn' hb' <;> try cases hb'
              all_goals try cases hn'
              simp only [Option.map_eq_some_iff] at hn'
              obtain ⟨n'', _, hs'⟩ := hn'
              exact star _ hs'
        all_goals (split at hn <;> first | (cases hn; done) | (simp at hn; simp [hn] at hb; done))
    · simp [hn]
  · refine List.all_eq_true.2 fun e hm => ?_
    have hl := List.mem_range.1 hm
    by_cases hn : P.typeName? 2 e = some nm
    · have hn' := hn
      unfold Program.typeName? at hn
      cases hi : P.info? e with
      | none => simp [hi] at hn
      | some i =>
        have hb := lin i e hl hi
        unfold linB at hb
        cases hd : i.desc <;> simp only [hi, hd] at hn hb <;> try cases hn
        case named => simp [hd]
        case pointer =>
          simp only [Option.map_eq_some_iff] at hn; obtain ⟨_, _, hs⟩ := hn; exact absurd hs (star _)
        all_goals (split at hn <;> first | (cases hn; done) | (simp at hn; simp [hn] at hb; done))
    · simp [hn]

theorem eofStar : "*" ++ "errors.errorString" = "*errors.errorString" := by decide
theorem row341 (u : TypeId) (h : Tryz.prog.typeName? 3 u = some "*errors.errorString") : u = 341 :=
  rows_of_lin (nm := "errors.errorString") (e0 := 343) (by rw [eofStar]; kernel_rfl) (by decide) u (by rw [eofStar]; exact h)
end Go.Proofs.YtbepocojafbbbaaGreatDoor
