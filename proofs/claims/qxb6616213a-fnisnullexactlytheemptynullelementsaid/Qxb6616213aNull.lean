import Derived.Test.Qxb6616213aEncLong
namespace Go.Proofs.Qxb6616213a.enc
open Go.ChangeShapes Go.WideShapes Go.ChangeAt Go.RowKit
/-- What isNull answers of the bytes ds. -/
def nullB (ds : List Int) : Bool := (strOfNums ds).toList == (strOfNums [5, 0]).toList
theorem nullB_long (ds : List Int) (h : 3 ≤ ds.length) : nullB ds = false := by
  unfold nullB
  rw [beq_eq_false_iff_ne]
  intro e
  have := congrArg List.length e
  simp [ByteArray.toList_eq, strOfNums_data] at this
  omega
theorem nullB_short (id : Int) (h0 : 0 ≤ id) (h1 : id ≤ 255) : nullB [id, 0] = (id == 5) := by
  unfold nullB
  rw [ByteArray.toList_eq, ByteArray.toList_eq, strOfNums_data, strOfNums_data, Bool.eq_iff_iff, beq_iff_eq, beq_iff_eq]
  constructor
  · intro h
    simp at h
    have := congrArg UInt8.toNat h
    simp at this
    omega
  · rintro rfl
    rfl

set_option maxRecDepth 100000 in
/-- isNull of a row of bytes. -/
theorem null_row (g k cap : Nat) (ds : List Int) (B : Nat) (w : World) (hown : w.ownsRow B 5 1 (.slice (some ⟨g, 0, none⟩) k cap) k (ds.map (Value.int .u8))) :
    Calls Try.prog 9 #[.slice (some ⟨g, 0, none⟩) k cap] w fun e w' => e = .returned (.bool (nullB ds)) ∧ Below w.heap.size w w' := by
  have hk : ds.length = k := by simpa using hown.1
  have h1 : (convert 22 9 (.slice (some ⟨g, 0, none⟩) k cap)).run Try.prog (w.alloc (.cells #[.int .u8 5, .int .u8 0] 5)) = .ok (.string (strOfNums ds)) (w.alloc (.cells #[.int .u8 5, .int .u8 0] 5)) :=
    run_convert_bytes_arg _ 22 5 Try.underlying22 Try.underlying5 g 0 k cap ds hk (fun i hi => by
      rw [Nat.zero_add, (hown.alloc _).cellAt i (by omega)]
      simp [List.getD, List.getElem?_eq_getElem (show i < ds.length by omega)]) 9 Try.underlying9
  have h2 : (convert 22 9 (.slice (some ⟨w.heap.size, 0, none⟩) 2 2)).run Try.prog (w.alloc (.cells #[.int .u8 5, .int .u8 0] 5)) = .ok (.string (strOfNums [5, 0])) (w.alloc (.cells #[.int .u8 5, .int .u8 0] 5)) :=
    run_convert_bytes_arg _ 22 5 Try.underlying22 Try.underlying5 w.heap.size 0 2 2 [5, 0] rfl (fun i hi => by
      match i, hi with
      | 0, _ => simp
      | 1, _ => simp) 9 Try.underlying9
  clear hown hk
  go_enter Try.func9, Try.ntmps9
  go_wp2
  go_ret
  exact ⟨rfl, (Below.refl _ _).alloc (Nat.le_refl _) _⟩
/-- The same of a value that owns a row of at least one byte. -/
theorem null_own (v : Value) (k : Nat) (ds : List Int) (B : Nat) (w : World) (hown : w.ownsRow B 5 1 v k (ds.map (Value.int .u8))) (hk : 1 ≤ k) :
    Calls Try.prog 9 #[v] w fun e w' => e = .returned (.bool (nullB ds)) ∧ Below w.heap.size w w' := by
  rcases hown.2 with ⟨_, h0⟩ | ⟨g, cap, cur, hv, _⟩
  · omega
  · subst hv
    exact null_row g k cap ds B w hown

/-- encodeElement of one part that is nil, or a row at its head. -/
theorem enc_any (tag : Int) (b n : Nat) (ao : Option Addr) (c : Nat) (zs : List Int) (w : World) (t0 : 0 ≤ tag) (t1 : tag ≤ 30) (hb : w.cell? ⟨b, 0, none⟩ = some (.slice ao n c)) (hz : zs.length = n) (hn : n ≤ 1048576)
    (ha : (ao = none ∧ n = 0 ∧ c = 0) ∨ ∃ g, ao = some ⟨g, 0, none⟩ ∧ ∀ j u, (zs.map (Value.int .u8))[j]? = some u → w.cell? ((⟨g, 0, none⟩ : Addr).add j) = some u) :
    Calls Try.prog 19 #[.int .i64 tag, .slice (some ⟨b, 0, none⟩) 1 1] w fun e w' => ∃ v k ds, e = .returned v ∧ w'.ownsRow w.heap.size 5 1 v k ((ds : List Int).map (Value.int .u8)) ∧ Below w.heap.size w w' ∧ 1 ≤ k ∧
      (nullB ds = ((tag == 5) && decide (n = 0))) := by
  by_cases h : n < 128
  · refine (enc_short tag b n ao c zs w t0 t1 hb hz h ha).mono fun e w' ⟨v, id, he, ho, hbl, i0, i1, i5⟩ => ⟨v, 2 + n, id :: (n : Int) :: zs, he, ho, hbl, by omega, ?_⟩
    by_cases h0 : n = 0
    · subst h0
      obtain rfl : zs = [] := List.eq_nil_of_length_eq_zero hz
      rw [show ((0 : Nat) : Int) = 0 from rfl, nullB_short id i0 i1, Bool.eq_iff_iff]
      simpa using i5
    · rw [nullB_long _ (by simp; omega)]
      simp [h0]
  · rcases ha with ⟨_, h0, _⟩ | ⟨g, rfl, hc⟩
    · omega
    · refine (enc_long tag b n g c zs w t0 t1 hb hz (by omega) hn hc).mono fun e w' ⟨v, k, ds, he, ho, hbl, hk⟩ => ⟨v, k, ds, he, ho, hbl, by omega, ?_⟩
      have hl : ds.length = k := by simpa using ho.1
      rw [nullB_long _ (by omega)]
      simp; omega

/-- ZZencodeElement of a content that is nil, or a row at its head. -/
theorem zenc_any (tag : Int) (n : Nat) (ao : Option Addr) (c : Nat) (zs : List Int) (w : World) (t0 : 0 ≤ tag) (t1 : tag ≤ 30) (hz : zs.length = n) (hn : n ≤ 1048576)
    (ha : (ao = none ∧ n = 0 ∧ c = 0) ∨ ∃ g, ao = some ⟨g, 0, none⟩ ∧ g < w.heap.size ∧ ∀ j u, (zs.map (Value.int .u8))[j]? = some u → w.cell? ((⟨g, 0, none⟩ : Addr).add j) = some u) :
    Calls Try.prog 8 #[.int .i64 tag, .slice ao n c] w fun e w' => ∃ v k ds, e = .returned v ∧ w'.ownsRow w.heap.size 5 1 v k ((ds : List Int).map (Value.int .u8)) ∧ Below w.heap.size w w' ∧ 1 ≤ k ∧
      (nullB ds = ((tag == 5) && decide (n = 0))) := by
  have HE : Hid ((ao = none ∧ n = 0 ∧ c = 0) ∨ ∃ g, ao = some ⟨g, 0, none⟩ ∧ ∀ j u, (zs.map (Value.int .u8))[j]? = some u → (w.alloc (.cells #[.slice ao n c] 22)).cell? ((⟨g, 0, none⟩ : Addr).add j) = some u) := by
    rcases ha with h | ⟨g, h1, h2, h3⟩
    · exact .inl h
    · refine .inr ⟨g, h1, fun j u hj => ?_⟩
      have hadd : (⟨g, 0, none⟩ : Addr).add j = ⟨g, j, none⟩ := by unfold Addr.add; split <;> simp_all
      have := h3 j u hj
      rw [hadd] at this ⊢
      rw [World.cell?_alloc_past _ _ _ h2]
      exact this
  have HZ := hid hz
  have HN := hid hn
  clear ha hz hn
  go_enter Try.func8, Try.ntmps8
  go_wp2_with fail
  refine (enc_any tag w.heap.size n ao c zs (w.alloc (.cells #[.slice ao n c] 22)) t0 t1 (by simp) HZ.out HN.out HE.out).mono ?_
  rintro e w1 ⟨v, k, ds, rfl, ho, hbl, hk, hnull⟩
  have HO := hid ho
  have HB := hid hbl
  have HK := hid hk
  have HD := hid hnull
  clear ho hbl hk hnull
  go_wp2
  go_ret
  refine ⟨v, k, ds, rfl, ownsRow_base HO.out (by rw [World.size_alloc]; omega), ?_, HK.out, HD.out⟩
  exact ((Below.refl _ _).alloc (Nat.le_refl _) _).trans (HB.out.mono (by rw [World.size_alloc]; omega))
end Go.Proofs.Qxb6616213a.enc
