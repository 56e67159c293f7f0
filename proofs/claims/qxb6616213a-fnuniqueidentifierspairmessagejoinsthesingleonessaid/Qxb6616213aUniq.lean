import Derived.Test.Qxb6616213aRows
import Derived.Test.Qxb6616213aShelf
import Derived.WalkKit
import Derived.ProofKit
import Derived.OpenShut
import Derived.ShutString
import Derived.ChangeOld
import Derived.Below
import Derived.Handy
import Derived.WalkSpells
namespace Go.Proofs.Qxb6616213a.uniq
open Go.ChangeShapes Go.WideShapes Go.ChangeAt Go.RowKit
theorem hid {p : Prop} (h : p) : Hid p := h
theorem info9 : (Try.prog.info? 9).map (fun i => (i.zero, i.size, i.bytes)) = some (some (.string ⟨#[]⟩), 1, 16) := by kernel_rfl
/-- issuerUniqueID -/
abbrev sI : ByteArray := { data := #[105, 115, 115, 117, 101, 114, 85, 110, 105, 113, 117, 101, 73, 68] }
/-- subjectUniqueID -/
abbrev sS : ByteArray := { data := #[115, 117, 98, 106, 101, 99, 116, 85, 110, 105, 113, 117, 101, 73, 68] }
/-- uniqueIdentifiers where neither is there: nil. -/
theorem ids_none (b : Nat) (w : World) (hi : w.cell? ⟨b, 27, none⟩ = some (.pointer none)) (hs : w.cell? ⟨b, 28, none⟩ = some (.pointer none)) :
    Calls Try.prog 25 #[.pointer (some ⟨b, 0, none⟩)] w fun e w' => e = .returned (.slice none 0 0) ∧ w = w' := by
  go_enter Try.func25, Try.ntmps25
  go_wp2
  go_ret
  exact ⟨rfl, rfl⟩
theorem one_cell (w : World) (x : Value) (t : TypeId) : ∀ j u, [x][j]? = some u → (w.alloc (.cells #[x] t)).cell? ((⟨w.heap.size, 0, none⟩ : Addr).add j) = some u := by
  intro j u hj
  match j, hj with
  | 0, hj => simp at hj; subst hj; simp [Addr.add]
theorem below1 {w w1 : World} {o : Obj} {v : Value} {B n : Nat} {xs : List Value} (hown : (w.alloc o).ownsRow B 9 1 v n xs) (hB : w.heap.size ≤ B) (hg : (w.alloc o).grownBy w1 v.ownBlock) : Below w.heap.size w w1 :=
  ((Below.refl _ _).alloc (Nat.le_refl _) o).grown hg (by rw [World.size_alloc]; omega) (fun k hk => by have := (hown.lt k hk).1; omega)
/-- uniqueIdentifiers where the issuer's alone is there. -/
theorem ids_I (b : Nat) (a : Addr) (w : World) (hi : w.cell? ⟨b, 27, none⟩ = some (.pointer (some a))) (hs : w.cell? ⟨b, 28, none⟩ = some (.pointer none)) :
    Calls Try.prog 25 #[.pointer (some ⟨b, 0, none⟩)] w fun e w' => ∃ v, e = .returned v ∧ w'.ownsRow w.heap.size 9 1 v 1 [.string sI] ∧ Below w.heap.size w w' := by
  obtain ⟨i0, h1, hz0, hz1, hz2⟩ := info_parts info9
  have HI : Hid (Try.prog.info? 9 = some i0 ∧ i0.zero = some (.string ⟨#[]⟩) ∧ i0.size = 1 ∧ i0.bytes = 16) := ⟨h1, hz0, hz1, hz2⟩
  have hb : b < w.heap.size := block_lt_of_cell hi
  clear h1 hz0 hz1 hz2
  go_enter Try.func25, Try.ntmps25
  go_wp2_with (at_builtin; refine wpList_append_own _ rfl (.tmp 9) (.tmp 10) 50 rfl w.heap.size 9 i0 (.string ⟨#[]⟩) 1 16 Try.underlying50 HI.out.1 HI.out.2.1 HI.out.2.2.1 HI.out.2.2.2 rfl (by decide) _ 0 _ rfl (World.ownsRow_nil _ _ _ _) ⟨w.heap.size, 0, none⟩ 1 1 [.string sI] rfl rfl (by exact one_cell w _ _) (by simp [Value.oneCell']) (by decide) (by decide) (by rw [World.size_alloc]; omega) ?_)
  intro v1 w1 hown hgrow _
  have hbl : Below w.heap.size w w1 := below1 (World.ownsRow_nil _ _ _ _) (Nat.le_refl _) hgrow
  have HB := hid hbl
  have HO : Hid (w1.ownsRow w.heap.size 9 1 v1 1 [.string sI]) := hid (by simpa using hown)
  have hc : w1.cell? ⟨b, 28, none⟩ = some (.pointer none) := by rw [hbl.cell (p := ⟨b, 28, none⟩) hb, hs]
  clear hbl hown hgrow
  go_wp2
  go_ret
  exact ⟨v1, rfl, HO.out, HB.out⟩
/-- uniqueIdentifiers where the subject's alone is there. -/
theorem ids_S (b : Nat) (a : Addr) (w : World) (hi : w.cell? ⟨b, 27, none⟩ = some (.pointer none)) (hs : w.cell? ⟨b, 28, none⟩ = some (.pointer (some a))) :
    Calls Try.prog 25 #[.pointer (some ⟨b, 0, none⟩)] w fun e w' => ∃ v, e = .returned v ∧ w'.ownsRow w.heap.size 9 1 v 1 [.string sS] ∧ Below w.heap.size w w' := by
  obtain ⟨i0, h1, hz0, hz1, hz2⟩ := info_parts info9
  have HI : Hid (Try.prog.info? 9 = some i0 ∧ i0.zero = some (.string ⟨#[]⟩) ∧ i0.size = 1 ∧ i0.bytes = 16) := ⟨h1, hz0, hz1, hz2⟩
  clear h1 hz0 hz1 hz2
  go_enter Try.func25, Try.ntmps25
  go_wp2_with (at_builtin; refine wpList_append_own _ rfl (.tmp 17) (.tmp 18) 50 rfl w.heap.size 9 i0 (.string ⟨#[]⟩) 1 16 Try.underlying50 HI.out.1 HI.out.2.1 HI.out.2.2.1 HI.out.2.2.2 rfl (by decide) _ 0 _ rfl (World.ownsRow_nil _ _ _ _) ⟨w.heap.size, 0, none⟩ 1 1 [.string sS] rfl rfl (by exact one_cell w _ _) (by simp [Value.oneCell']) (by decide) (by decide) (by rw [World.size_alloc]; omega) ?_)
  intro v1 w1 hown hgrow _
  have HB := hid (below1 (World.ownsRow_nil _ _ _ _) (Nat.le_refl _) hgrow)
  have HO : Hid (w1.ownsRow w.heap.size 9 1 v1 1 [.string sS]) := hid (by simpa using hown)
  clear hown hgrow
  go_wp2
  go_ret
  exact ⟨v1, rfl, HO.out, HB.out⟩
/-- uniqueIdentifiers where both are there. -/
theorem ids_IS (b : Nat) (a a' : Addr) (w : World) (hi : w.cell? ⟨b, 27, none⟩ = some (.pointer (some a))) (hs : w.cell? ⟨b, 28, none⟩ = some (.pointer (some a'))) :
    Calls Try.prog 25 #[.pointer (some ⟨b, 0, none⟩)] w fun e w' => ∃ v, e = .returned v ∧ w'.ownsRow w.heap.size 9 1 v 2 [.string sI, .string sS] ∧ Below w.heap.size w w' := by
  obtain ⟨i0, h1, hz0, hz1, hz2⟩ := info_parts info9
  have HI : Hid (Try.prog.info? 9 = some i0 ∧ i0.zero = some (.string ⟨#[]⟩) ∧ i0.size = 1 ∧ i0.bytes = 16) := ⟨h1, hz0, hz1, hz2⟩
  have hb : b < w.heap.size := block_lt_of_cell hi
  clear h1 hz0 hz1 hz2
  go_enter Try.func25, Try.ntmps25
  go_wp2_with (at_builtin; refine wpList_append_own _ rfl (.tmp 9) (.tmp 10) 50 rfl w.heap.size 9 i0 (.string ⟨#[]⟩) 1 16 Try.underlying50 HI.out.1 HI.out.2.1 HI.out.2.2.1 HI.out.2.2.2 rfl (by decide) _ 0 _ rfl (World.ownsRow_nil _ _ _ _) ⟨w.heap.size, 0, none⟩ 1 1 [.string sI] rfl rfl (by exact one_cell w _ _) (by simp [Value.oneCell']) (by decide) (by decide) (by rw [World.size_alloc]; omega) ?_)
  intro v1 w1 hown hgrow _
  have hbl : Below w.heap.size w w1 := below1 (World.ownsRow_nil _ _ _ _) (Nat.le_refl _) hgrow
  have HB := hid hbl
  have hsz := hbl.size
  have HO : Hid (w1.ownsRow w.heap.size 9 1 v1 1 [.string sI]) := hid (by simpa using hown)
  have hc : w1.cell? ⟨b, 28, none⟩ = some (.pointer (some a')) := by rw [hbl.cell (p := ⟨b, 28, none⟩) hb, hs]
  clear hbl hown hgrow
  go_wp2_with (at_builtin; refine wpList_append_own _ rfl (.tmp 17) (.tmp 18) 50 rfl w.heap.size 9 i0 (.string ⟨#[]⟩) 1 16 Try.underlying50 HI.out.1 HI.out.2.1 HI.out.2.2.1 HI.out.2.2.2 rfl (by decide) v1 1 _ rfl (HO.out.alloc _) ⟨w1.heap.size, 0, none⟩ 1 1 [.string sS] rfl rfl (by exact one_cell w1 _ _) (by simp [Value.oneCell']) (by decide) (by decide) (by rw [World.size_alloc]; omega) ?_)
  intro v2 w2 hown2 hgrow2 _
  have HB2 := hid ((HB.out.alloc hsz _).grown hgrow2 (by rw [World.size_alloc]; omega) (fun k hk => (HO.out.lt k hk).1))
  have HO2 : Hid (w2.ownsRow w.heap.size 9 1 v2 2 [.string sI, .string sS]) := hid (by simpa using hown2)
  clear hown2 hgrow2
  go_wp2
  go_ret
  exact ⟨v2, rfl, HO2.out, HB2.out⟩

/-- ' and ' -/
abbrev sAnd : ByteArray := { data := #[32, 97, 110, 100, 32] }
/-- issuerUniqueID and subjectUniqueID -/
abbrev sIS : ByteArray := { data := #[105, 115, 115, 117, 101, 114, 85, 110, 105, 113, 117, 101, 73, 68, 32, 97, 110, 100, 32, 115, 117, 98, 106, 101, 99, 116, 85, 110, 105, 113, 117, 101, 73, 68] }
abbrev sPre : ByteArray := { data := #[97, 32, 99, 101, 114, 116, 105, 102, 105, 99, 97, 116, 101, 32, 111, 102, 32, 118, 101, 114, 115, 105, 111, 110, 32, 49, 32, 104, 97, 115, 32] }
abbrev sSuf : ByteArray := { data := #[44, 32, 119, 104, 105, 99, 104, 32, 111, 110, 108, 121, 32, 118, 101, 114, 115, 105, 111, 110, 115, 32, 50, 32, 97, 110, 100, 32, 51, 32, 97, 108, 108, 111, 119] }
/-- The message round a list of names. -/
def msg (s : ByteArray) : ByteArray := sPre ++ s ++ sSuf

/-- strings.Join of an owned row of names. -/
theorem join_row (xs : List ByteArray) (r : ByteArray) (B : Nat) (v : Value) (w : World) (hown : w.ownsRow B 9 1 v xs.length (xs.map Value.string)) (hx : xs ≠ []) (hN : xs.length ≤ 140737488355328)
    (hlen : (Lib.join (xs.map (·.data.toList)) sAnd.data.toList).length ≤ 140737488355328) (hr : (⟨(Lib.join (xs.map (·.data.toList)) sAnd.data.toList).toArray⟩ : ByteArray) = r) :
    Calls Try.prog 26 #[v, .string sAnd] w fun e w' => e = .returned (.string r) ∧ Below w.heap.size w w' := by
  rcases hown.2 with ⟨_, h0⟩ | ⟨g, cap, cur, hv, _, hg, hcap, _⟩
  · exact absurd (List.eq_nil_of_length_eq_zero h0) hx
  · subst hv
    subst hr
    refine Try.strings_Join g 0 cap xs sAnd w (fun j x hj => ?_) (Array.getElem?_eq_some_iff.1 hg).1 hN hcap hlen
    have hjl : j < xs.length := (List.getElem?_eq_some_iff.1 hj).1
    rw [Nat.zero_add, hown.cellAt j (by omega)]
    simp [hj]

theorem join_I (B : Nat) (v : Value) (w : World) (hown : w.ownsRow B 9 1 v 1 [.string sI]) : Calls Try.prog 26 #[v, .string sAnd] w fun e w' => e = .returned (.string sI) ∧ Below w.heap.size w w' :=
  join_row [sI] sI B v w hown (by simp) (by decide) (by decide) (by decide)
theorem join_S (B : Nat) (v : Value) (w : World) (hown : w.ownsRow B 9 1 v 1 [.string sS]) : Calls Try.prog 26 #[v, .string sAnd] w fun e w' => e = .returned (.string sS) ∧ Below w.heap.size w w' :=
  join_row [sS] sS B v w hown (by simp) (by decide) (by decide) (by decide)
theorem join_IS (B : Nat) (v : Value) (w : World) (hown : w.ownsRow B 9 1 v 2 [.string sI, .string sS]) : Calls Try.prog 26 #[v, .string sAnd] w fun e w' => e = .returned (.string sIS) ∧ Below w.heap.size w w' :=
  join_row [sI, sS] sIS B v w hown (by simp) (by decide) (by decide +kernel) (by decide +kernel)

/-- uniqueIdentifiers, whatever is there: no name, or an owned row of the names. -/
def names (pi ps : Option Addr) : List ByteArray := (if pi.isSome then [sI] else []) ++ (if ps.isSome then [sS] else [])
def joined (pi ps : Option Addr) : ByteArray := if pi.isSome then (if ps.isSome then sIS else sI) else sS
theorem ids_any (b : Nat) (pi ps : Option Addr) (w : World) (hi : w.cell? ⟨b, 27, none⟩ = some (.pointer pi)) (hs : w.cell? ⟨b, 28, none⟩ = some (.pointer ps)) (hne : (pi.isSome || ps.isSome) = true) :
    Calls Try.prog 25 #[.pointer (some ⟨b, 0, none⟩)] w fun e w' => ∃ g cap n, e = .returned (.slice (some ⟨g, 0, none⟩) (n + 1) cap) ∧ Below w.heap.size w w' ∧ (n + 1 = (names pi ps).length) ∧
      w'.ownsRow w.heap.size 9 1 (.slice (some ⟨g, 0, none⟩) (n + 1) cap) (names pi ps).length ((names pi ps).map Value.string) := by
  have fin : ∀ (n : Nat) (xs : List Value) (e : Ending) (w' : World), (∃ v, e = .returned v ∧ w'.ownsRow w.heap.size 9 1 v (n + 1) xs ∧ Below w.heap.size w w') → ∃ g cap, e = .returned (.slice (some ⟨g, 0, none⟩) (n + 1) cap) ∧ Below w.heap.size w w' ∧ w'.ownsRow w.heap.size 9 1 (.slice (some ⟨g, 0, none⟩) (n + 1) cap) (n + 1) xs := by
    rintro n xs e w' ⟨v, rfl, ho, hb⟩
    rcases ho.2 with ⟨_, h0⟩ | ⟨g, cap, cur, hv, _⟩
    · omega
    · subst hv
      exact ⟨g, cap, rfl, hb, ho⟩
  cases pi with
  | none =>
    cases ps with
    | none => simp at hne
    | some s => exact (ids_S b s w hi hs).mono fun e w' h => by obtain ⟨g, cap, h1, h2, h3⟩ := fin 0 _ e w' h; exact ⟨g, cap, 0, h1, h2, rfl, h3⟩
  | some i =>
    cases ps with
    | none => exact (ids_I b i w hi hs).mono fun e w' h => by obtain ⟨g, cap, h1, h2, h3⟩ := fin 0 _ e w' h; exact ⟨g, cap, 0, h1, h2, rfl, h3⟩
    | some s => exact (ids_IS b i s w hi hs).mono fun e w' h => by obtain ⟨g, cap, h1, h2, h3⟩ := fin 1 _ e w' h; exact ⟨g, cap, 1, h1, h2, rfl, h3⟩
theorem joined_size (pi ps : Option Addr) : (joined pi ps).size ≤ 34 := by
  have h1 : sI.size ≤ 34 := by decide
  have h2 : sS.size ≤ 34 := by decide
  have h3 : sIS.size ≤ 34 := by decide
  cases pi <;> cases ps <;> assumption
theorem join_any (pi ps : Option Addr) (B : Nat) (v : Value) (w : World) (hown : w.ownsRow B 9 1 v (names pi ps).length ((names pi ps).map Value.string)) (hne : (pi.isSome || ps.isSome) = true) :
    Calls Try.prog 26 #[v, .string sAnd] w fun e w' => e = .returned (.string (joined pi ps)) ∧ Below w.heap.size w w' := by
  cases pi with
  | none =>
    cases ps with
    | none => simp at hne
    | some s => exact join_S B v w hown
  | some i =>
    cases ps with
    | none => exact join_I B v w hown
    | some s => exact join_IS B v w hown

/-- ZZcheckUniqueIdentifiersVersion: no name: no message. -/
theorem chk_none (b : Nat) (w : World) (hi : w.cell? ⟨b, 27, none⟩ = some (.pointer none)) (hs : w.cell? ⟨b, 28, none⟩ = some (.pointer none)) :
    Calls Try.prog 11 #[.pointer (some ⟨b, 0, none⟩)] w fun e w' => e = .returned (.slice none 0 0) ∧ w = w' := by
  go_enter Try.func11, Try.ntmps11
  go_wp2_with (first | (go_at_call 25; refine (ids_none b _ hi hs).mono ?_; rintro e w' ⟨rfl, rfl⟩) | go_in)
  go_ret
  exact ⟨rfl, rfl⟩
/-- Another version than 1: no message. -/
theorem chk_ver (b : Nat) (pi ps : Option Addr) (ver : Int) (w : World) (hi : w.cell? ⟨b, 27, none⟩ = some (.pointer pi)) (hs : w.cell? ⟨b, 28, none⟩ = some (.pointer ps)) (hv : w.cell? ⟨b, 2, none⟩ = some (.int .i64 ver)) (hne : (pi.isSome || ps.isSome) = true) (h1 : (ver != 1) = true) :
    Calls Try.prog 21 #[.pointer (some ⟨b, 0, none⟩)] w fun e w' => e = .returned (.slice none 0 0) ∧ Below w.heap.size w w' := by
  have HI := hid hi
  have HS := hid hs
  have HN := hid hne
  have HV := hid hv
  have hb : b < w.heap.size := block_lt_of_cell hi
  clear hi hs hne hv
  go_enter Try.func21, Try.ntmps21
  go_wp2_with fail
  refine (ids_any b pi ps w HI.out HS.out HN.out).mono ?_
  rintro e w1 ⟨g, cap, n, rfl, hbl, hn, hown⟩
  have HB := hid hbl
  have hv : w1.cell? ⟨b, 2, none⟩ = some (.int .i64 ver) := by rw [hbl.cell (p := ⟨b, 2, none⟩) hb, HV.out]
  have hl : ((((n + 1 : Nat) : Int)) == 0) = false := beq_eq_false_iff_ne.2 (by omega)
  have hl2 : ((n : Int) + 1 == 0) = false := beq_eq_false_iff_ne.2 (by omega)
  clear hbl hn hown
  go_wp2
  go_ret
  exact ⟨rfl, HB.out⟩
/-- Version 1: the message. -/
theorem chk_one (b : Nat) (pi ps : Option Addr) (ver : Int) (w : World) (hi : w.cell? ⟨b, 27, none⟩ = some (.pointer pi)) (hs : w.cell? ⟨b, 28, none⟩ = some (.pointer ps)) (hv : w.cell? ⟨b, 2, none⟩ = some (.int .i64 ver)) (hne : (pi.isSome || ps.isSome) = true) (h1 : (ver != 1) = false) :
    Calls Try.prog 21 #[.pointer (some ⟨b, 0, none⟩)] w fun e w' => ∃ g, e = .returned (.slice (some ⟨g, 0, none⟩) 1 1) ∧ w'.cell? ⟨g, 0, none⟩ = some (.string (msg (joined pi ps))) ∧ g < w'.heap.size ∧ Below w.heap.size w w' := by
  have HI := hid hi
  have HS := hid hs
  have HN := hid hne
  have HV := hid hv
  have hb : b < w.heap.size := block_lt_of_cell hi
  clear hi hs hne hv
  go_enter Try.func21, Try.ntmps21
  go_wp2_with fail
  refine (ids_any b pi ps w HI.out HS.out HN.out).mono ?_
  rintro e w1 ⟨g, cap, n, rfl, hbl, hn, hown⟩
  have HB := hid hbl
  have HO := hid hown
  have hv : w1.cell? ⟨b, 2, none⟩ = some (.int .i64 ver) := by rw [hbl.cell (p := ⟨b, 2, none⟩) hb, HV.out]
  have hl : ((((n + 1 : Nat) : Int)) == 0) = false := beq_eq_false_iff_ne.2 (by omega)
  have hl2 : ((n : Int) + 1 == 0) = false := beq_eq_false_iff_ne.2 (by omega)
  clear hbl hn hown
  go_wp2_with fail
  refine (join_any pi ps _ _ w1 HO.out HN.out).mono ?_
  rintro e w2 ⟨rfl, hbl2⟩
  have HB2 := hid (HB.out.trans (hbl2.mono HB.out.size))
  clear hbl2
  have hjs := joined_size pi ps
  go_wp2
  go_ret
  refine ⟨w2.heap.size, rfl, ?_, by simp, HB2.out.alloc HB2.out.size _⟩
  simp [msg]
/-- The same of ZZcheckUniqueIdentifiersVersion. -/
theorem zchk_ver (b : Nat) (pi ps : Option Addr) (ver : Int) (w : World) (hi : w.cell? ⟨b, 27, none⟩ = some (.pointer pi)) (hs : w.cell? ⟨b, 28, none⟩ = some (.pointer ps)) (hv : w.cell? ⟨b, 2, none⟩ = some (.int .i64 ver)) (hne : (pi.isSome || ps.isSome) = true) (h1 : (ver != 1) = true) :
    Calls Try.prog 11 #[.pointer (some ⟨b, 0, none⟩)] w fun e w' => e = .returned (.slice none 0 0) ∧ Below w.heap.size w w' := by
  have HC := hid (And.intro hi (And.intro hs (And.intro hv (And.intro hne h1))))
  clear hi hs hv hne h1
  go_enter Try.func11, Try.ntmps11
  go_wp2_with fail
  refine (chk_ver b pi ps ver w HC.out.1 HC.out.2.1 HC.out.2.2.1 HC.out.2.2.2.1 HC.out.2.2.2.2).mono ?_
  rintro e w1 ⟨rfl, hbl⟩
  have HB := hid hbl
  clear hbl
  go_wp2
  go_ret
  exact ⟨rfl, HB.out⟩
theorem zchk_one (b : Nat) (pi ps : Option Addr) (ver : Int) (w : World) (hi : w.cell? ⟨b, 27, none⟩ = some (.pointer pi)) (hs : w.cell? ⟨b, 28, none⟩ = some (.pointer ps)) (hv : w.cell? ⟨b, 2, none⟩ = some (.int .i64 ver)) (hne : (pi.isSome || ps.isSome) = true) (h1 : (ver != 1) = false) :
    Calls Try.prog 11 #[.pointer (some ⟨b, 0, none⟩)] w fun e w' => ∃ g, e = .returned (.slice (some ⟨g, 0, none⟩) 1 1) ∧ w'.cell? ⟨g, 0, none⟩ = some (.string (msg (joined pi ps))) ∧ g < w'.heap.size ∧ Below w.heap.size w w' := by
  have HC := hid (And.intro hi (And.intro hs (And.intro hv (And.intro hne h1))))
  clear hi hs hv hne h1
  go_enter Try.func11, Try.ntmps11
  go_wp2_with fail
  refine (chk_one b pi ps ver w HC.out.1 HC.out.2.1 HC.out.2.2.1 HC.out.2.2.2.1 HC.out.2.2.2.2).mono ?_
  rintro e w1 ⟨g, rfl, h2, h3, hbl⟩
  have HB := hid (And.intro h2 (And.intro h3 hbl))
  clear h2 h3 hbl
  go_wp2
  go_ret
  exact ⟨g, rfl, HB.out.1, HB.out.2.1, HB.out.2.2⟩

/-- Does sub stand in s at k? -/
def hit (s sub : ByteArray) (k : Nat) : Bool := (s.extract k (k + sub.size)).toList == sub.toList
def First (s sub : ByteArray) (r : Int) : Prop :=
  (r = -1 ∧ ∀ k, k + sub.size ≤ s.size → hit s sub k = false) ∨ ∃ i : Nat, r = i ∧ i + sub.size ≤ s.size ∧ hit s sub i = true ∧ ∀ k, k < i → hit s sub k = false
theorem first_hit {s sub : ByteArray} {r : Int} {k : Nat} (h : First s sub r) (hno : ∀ j, j < k → hit s sub j = false) (hle : k + sub.size ≤ s.size) (hk : hit s sub k = true) : (k : Int) = r := by
  rcases h with ⟨_, h⟩ | ⟨i, rfl, h1, h2, h3⟩
  · rw [h k hle] at hk; cases hk
  · rcases Nat.lt_trichotomy i k with hlt | rfl | hgt
    · rw [hno i hlt] at h2; cases h2
    · rfl
    · rw [h3 k hgt] at hk; cases hk
theorem first_no {s sub : ByteArray} {r : Int} {k : Nat} (h : First s sub r) (hno : ∀ j, j < k → hit s sub j = false) (hle : ¬ k + sub.size ≤ s.size) : -1 = r := by
  rcases h with ⟨rfl, _⟩ | ⟨i, rfl, h1, h2, h3⟩
  · rfl
  · rw [hno i (by omega)] at h2; cases h2
theorem ret_int {a b : Int} (h : a = b) : Ending.returned (.int .i64 a) = .returned (.int .i64 b) := by rw [h]
set_option maxHeartbeats 400000 in
/-- indexOf: the first place, or -1. -/
theorem index_any (s sub : ByteArray) (w : World) (hs : s.size ≤ 1000) (hb : sub.size ≤ 1000) (r : Int) (hr : First s sub r) :
    Calls Try.prog 12 #[.string s, .string sub] w fun e w' => e = .returned (.int .i64 r) ∧ w = w' := by
  have HR := hid hr
  have hs' : (s.size : Int) ≤ 1000 := by omega
  have hb' : (sub.size : Int) ≤ 1000 := by omega
  clear hr hs hb
  go_enter Try.func12, Try.ntmps12
  go_wp2
  go_loop [5] (fun i => ∃ k : Nat, k ≤ s.size + 1 ∧ i = .int .i64 k ∧ ∀ j, j < k → hit s sub j = false) (fun i => s.size + 2 - (intOf i).toNat)
  case atStart => exact ⟨0, Nat.zero_le _, rfl, fun j hj => absurd hj (Nat.not_lt_zero _)⟩
  case round =>
    obtain ⟨k, hk, rfl, hno⟩ := hrel
    have HNO := hid hno
    clear hno
    by_cases hlt : (k : Int) + (sub.size : Int) ≤ (s.size : Int)
    · rcases Bool.eq_false_or_eq_true ((s.extract k (k + sub.size)).toList == sub.toList) with hh | hh
      · go_wp2
        go_ret
        exact ⟨ret_int (first_hit HR.out HNO.out (by omega) hh), rfl⟩
      · go_wp2
        go_round
        case rel =>
          refine ⟨k + 1, by omega, by go_num, fun j hj => ?_⟩
          rcases Nat.lt_or_ge j k with h | h
          · exact HNO.out j h
          · obtain rfl : j = k := by omega
            exact hh
        case measure => simp [intOf]; omega
    · go_wp2
      go_ret
      exact ⟨ret_int (first_no HR.out HNO.out (by omega)), rfl⟩

/-! ### The messages -/
/-- The issuer's message, the subject's, both's: not to be opened by the walk. -/
def mI : ByteArray := msg sI
def mS : ByteArray := msg sS
def mB : ByteArray := msg sIS
theorem mI_size : mI.size = 80 := by decide +kernel
theorem f1 : First mI sI 31 := .inr ⟨31, rfl, by decide +kernel, by decide +kernel, by decide +kernel⟩
theorem f2 : First mI sS (-1) := by
  refine .inl ⟨rfl, fun k hk => ?_⟩
  have h : k < 66 := by rw [mI_size] at hk; have : sS.size = 15 := by decide
                        omega
  have hall : ∀ k, k < 66 → hit mI sS k = false := by decide +kernel
  exact hall k h
theorem f3 : First (mI.extract 45 80) sI (-1) := by
  refine .inl ⟨rfl, fun k hk => ?_⟩
  have h : k < 22 := by
    have h1 : (mI.extract 45 80).size = 35 := by decide +kernel
    have h2 : sI.size = 14 := by decide
    omega
  have hall : ∀ k, k < 22 → hit (mI.extract 45 80) sI k = false := by decide +kernel
  exact hall k h
theorem f4 : (mS.toList == (mI.extract 0 31 ++ sS ++ mI.extract 45 80).toList) = true := by decide +kernel
theorem f5 : (mB.toList == (mI.extract 0 31 ++ sIS ++ mI.extract 45 80).toList) = true := by decide +kernel
end Go.Proofs.Qxb6616213a.uniq
