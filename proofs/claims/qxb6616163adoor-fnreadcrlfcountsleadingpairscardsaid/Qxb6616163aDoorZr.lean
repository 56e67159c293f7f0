import Derived.Test.Qxb6616163aDoorRw
import Derived.Lib.LazyBuf
namespace Go.Proofs.Qxb6616163aDoor.rd
open Go.ChangeShapes Go.WideShapes Go.ChangeAt Go.RowKit

theorem bytes_yes (s : ByteArray) (w : World) (h : (s.size : Int) ≤ 1048576) : Calls Tryd.prog 4 #[.string s] w fun e w' => e = .returned (.bool true) ∧ w = w' := by
  go_enter Tryd.func4, Tryd.ntmps4
  go_wp2
  go_ret
  exact ⟨rfl, rfl⟩
theorem bytes_no (s : ByteArray) (w : World) (h : ¬ (s.size : Int) ≤ 1048576) : Calls Tryd.prog 4 #[.string s] w fun e w' => e = .returned (.bool false) ∧ w = w' := by
  go_enter Tryd.func4, Tryd.ntmps4
  go_wp2
  go_ret
  exact ⟨rfl, rfl⟩

/-- What is left of s from p on. -/
def tail (s : ByteArray) (p : Nat) : ByteArray := ⟨(s.data.toList.drop p).toArray⟩

theorem conv (s : ByteArray) (p g cap : Nat) (data : List Value) (w1 : World) (_hle : p ≤ s.size) (h1 : w1.heap[g]? = some (.cells data.toArray 5 (0, 0))) (h2 : data.take (s.size - p) = seg s p (s.size - p)) :
    (convert 30 9 (.slice (some ⟨g, 0, none⟩) (s.size - p) cap)).run Tryd.prog w1 = .ok (.string (tail s p)) w1 := by
  have hs := Lib.size_eq s
  have hcv := run_convert_bytes_arg (P := Tryd.prog) w1 30 5 Tryd.underlying30 Tryd.underlying5 g 0 (s.size - p) cap ((s.data.toList.drop p).map fun b => (b.toNat : Int)) (by rw [List.length_map, List.length_drop, hs]) (fun i hi => by
    have h4 := cell_of_row w1 g i _ 5 (0, 0) h1
    rw [Nat.zero_add, h4]
    have h5 : (data.take (s.size - p))[i]? = data[i]? := by rw [List.getElem?_take, if_pos hi]
    have h6 : i < (s.data.toList.drop p).length := by rw [List.length_drop]; omega
    rw [List.getElem?_toArray, ← h5, h2]
    unfold seg Lib.byteCells
    rw [List.getElem?_map, List.getElem?_take, if_pos hi, List.getElem?_eq_getElem h6, List.getD, List.getElem?_map, List.getElem?_eq_getElem h6]
    rfl) 9 Tryd.underlying9
  rw [Lib.Lz.strOfNums_map] at hcv
  exact hcv

/-- ZZrest: all that is left, as a string. -/
theorem rest (bR bS bB p : Nat) (s : ByteArray) (ae : Addr) (w : World) (hst : St bR bS bB s p w) (hb : ∀ x ∈ [bR, bS, bB], 4 ≤ x ∧ x < w.heap.size) (he : w.cell? ⟨0, 0, none⟩ = some (errV ae)) :
    Calls Tryd.prog 7 #[.pointer (some ⟨bR, 0, none⟩)] w fun e w' => e = .returned (.string (tail s p)) ∧ Grw [bR, bS, bB] w w' := by
  have HH := hid (And.intro hst (And.intro hb he))
  have hle := hst.le
  clear hst hb he
  go_enter Tryd.func7, Tryd.ntmps7
  go_wp2_with fail
  refine (readAll bR bS bB p s ae w HH.out.1 HH.out.2.1 HH.out.2.2).mono ?_
  rintro e w1 ⟨g, cap, data, rfl, h1, h2, h3⟩
  have hcv := conv s p g cap data w1 hle h1 h2
  have H3 := hid h3
  clear h1 h2 h3
  go_wp2
  go_ret
  exact ⟨rfl, H3.out⟩
end Go.Proofs.Qxb6616163aDoor.rd
