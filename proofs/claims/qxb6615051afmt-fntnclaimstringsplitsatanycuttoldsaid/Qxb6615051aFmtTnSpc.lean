import Derived.Test.Qxb6615051aFmtTnErr
namespace Go.Proofs.Qxb6615051aFmt.Tn
open Go.ChangeShapes Go.WideShapes Go.ChangeAt Go.RowKit
open Go.Extern.Stop Go.Stop Go.Extern

/-- NewSPCEntry takes the code. -/
def good (s : ByteArray) : Prop := 0 < s.size ∧ ∀ i (h : i < s.size), (s[i].toNat : Int) ≤ 127

theorem empty_of {s : ByteArray} (h : s.size = 0) : s = ⟨#[]⟩ := by
  cases s with
  | mk d =>
    have : d.size = 0 := h
    rw [Array.eq_empty_of_size_eq_zero this]
theorem toList_eq (s : ByteArray) : s.toList = s.data.toList := by
  have h : ∀ (n i : Nat) (r : List UInt8), s.size - i = n → ByteArray.toList.loop s i r = r.reverse ++ s.data.toList.drop i := by
    intro n
    induction n with
    | zero =>
      intro i r hi
      unfold ByteArray.toList.loop
      rw [if_neg (by omega), List.drop_eq_nil_of_le (by rw [Array.length_toList]; show s.size ≤ i; omega), List.append_nil]
    | succ n ih =>
      intro i r hi
      unfold ByteArray.toList.loop
      have hlt : i < s.data.size := by show i < s.size; omega
      rw [if_pos (by omega), ih (i + 1) _ (by omega), List.reverse_cons, List.append_assoc]
      congr 1
      rw [List.drop_eq_getElem_cons (i := i) (by rw [Array.length_toList]; exact hlt)]
      simp [ByteArray.get!, getElem!_pos s.data i hlt]
  simpa [ByteArray.toList] using h _ 0 [] rfl
theorem not_empty {s : ByteArray} (h : 0 < s.size) : s.toList.isEmpty = false := by
  rw [toList_eq]
  cases hh : s.data.toList with
  | nil =>
    have h2 : s.data.toList.length = 0 := by rw [hh]; rfl
    rw [Array.length_toList] at h2
    have : s.size = 0 := h2
    omega
  | cons x r => rfl

set_option maxHeartbeats 1000000 in
theorem spc_good (s : ByteArray) (w : World) (hs : s.size ≤ 1048576) (hg : good s) :
    Calls Tryf.prog 22 #[.string s] w fun e w' => e = .returned (.tuple #[.agg #[.int .u8 1, .string s, .int .u64 0, .string ⟨#[]⟩], .nilIface]) ∧ Below w.heap.size w w' := by
  obtain ⟨hg0, hg1⟩ := hg
  replace hg1 := hide hg1
  have hne := not_empty hg0
  go_enter Tryf.func22, Tryf.ntmps22
  go_wp2_with fail
  go_loop [4] (fun i => ∃ q : Nat, q ≤ s.size ∧ i = .int .i64 q) (fun i => s.size - (intOf i).toNat)
  case atStart => exact ⟨0, Nat.zero_le _, rfl⟩
  case round =>
    obtain ⟨q, hq, rfl⟩ := hrel
    by_cases hlt : q < s.size
    · have hb := hg1.out q hlt
      go_wp2_with fail
      go_round
      case rel => exact ⟨q + 1, by omega, by go_num⟩
      case measure => simp [intOf]; omega
    · obtain rfl : q = s.size := by omega
      go_wp2_with fail
      refine bodyPost_ret (v := .tuple #[.agg #[.int .u8 1, .string s, .int .u64 0, .string ⟨#[]⟩], .nilIface]) (by simp [results, Tryf.results22, go_sem]) rfl ⟨rfl, ?_⟩
      repeat first
        | exact Below.refl _ _
        | refine Below.setCell ?_ (by simp) _
        | refine Below.alloc ?_ (by simp) _

theorem below_step {B : Nat} {a w w' : World} (h : Below B a w) (hB : B ≤ w.heap.size) (h2 : Below w.heap.size w w') : Below B a w' := h.trans (h2.mono hB)

set_option maxHeartbeats 1000000 in
theorem spc_empty (w : World) :
    Calls Tryf.prog 22 #[.string ⟨#[]⟩] w fun e w' => (∃ x, e = .returned (.tuple #[.agg #[.int .u8 0, .string ⟨#[]⟩, .int .u64 0, .string ⟨#[]⟩], .iface 76 x])) ∧ Below w.heap.size w w' := by
  go_enter Tryf.func22, Tryf.ntmps22
  go_wp2_with (go_at_call 30; refine (errNew _ _).mono ?_; rintro e w' ⟨rfl, rfl⟩)
  refine bodyPost_ret (v := .tuple #[.agg #[.int .u8 0, .string ⟨#[]⟩, .int .u64 0, .string ⟨#[]⟩], .iface 76 (.pointer (some ⟨w.heap.size + 1, 0, none⟩))]) (by simp [results, Tryf.results22, go_sem]) rfl ⟨⟨_, rfl⟩, ?_⟩
  repeat first
    | exact Below.refl _ _
    | refine Below.setCell ?_ (by simp) _
    | refine Below.alloc ?_ (by simp) _

set_option maxHeartbeats 1000000 in
theorem spc_bad (F : Interp) (s : ByteArray) (w : World) (hF : F.answers w.tape) (hs : s.size ≤ 1048576) (h0 : 0 < s.size) (hbad : ¬ ∀ i (h : i < s.size), (s[i].toNat : Int) ≤ 127) :
    Calls Tryf.prog 22 #[.string s] w fun e w' => (∃ x, e = .returned (.tuple #[.agg #[.int .u8 0, .string ⟨#[]⟩, .int .u64 0, .string ⟨#[]⟩], .iface 76 x])) ∧ Below w.heap.size w w' := by
  replace hbad := hide hbad
  have hne := not_empty h0
  go_enter Tryf.func22, Tryf.ntmps22
  go_wp2_with fail
  go_loop [4] (fun i => ∃ q : Nat, q ≤ s.size ∧ i = .int .i64 q ∧ Hid (∀ j (h : j < s.size), j < q → (s[j].toNat : Int) ≤ 127)) (fun i => s.size - (intOf i).toNat)
  case atStart => exact ⟨0, Nat.zero_le _, rfl, fun j _ hj => absurd hj (Nat.not_lt_zero _)⟩
  case round =>
    obtain ⟨q, hq, rfl, hall⟩ := hrel
    by_cases hlt : q < s.size
    · by_cases hb : (s[q].toNat : Int) ≤ 127
      · go_wp2_with fail
        go_round
        case rel => exact ⟨q + 1, by omega, by go_num, fun j h hj => by
          by_cases e : j = q
          · subst e; exact hb
          · exact hall.out j h (by omega)⟩
        case measure => simp [intOf]; omega
      · go_wp2_with (go_at_call 31; refine (errf F _ s _ (by exact hF) (by go_simp)).mono ?_; rintro e w' ⟨rfl, t, rfl⟩)
        refine bodyPost_ret (v := .tuple #[.agg #[.int .u8 0, .string ⟨#[]⟩, .int .u64 0, .string ⟨#[]⟩], .iface 76 (.pointer (some ⟨w.heap.size + 1 + 1, 0, none⟩))]) (by simp [results, Tryf.results22, go_sem]) rfl ⟨⟨_, rfl⟩, ?_⟩
        repeat first
          | exact Below.refl _ _
          | refine Below.drew ?_
          | refine Below.setCell ?_ (by simp) _
          | refine Below.alloc ?_ (by simp; try omega) _
    · obtain rfl : q = s.size := by omega
      exact absurd (fun i h => hall.out i h h) hbad.out
end Go.Proofs.Qxb6615051aFmt.Tn
