import Derived.Test.Qxb6614908aFmtDepVal
namespace Go.Proofs.Qxb6614908aFmt.Dep
open Go.ChangeShapes Go.WideShapes Go.ChangeAt Go.RowKit

theorem grown_refl (w : World) (row : Option Nat) : w.grownBy w row := ⟨rfl, rfl, rfl, Nat.le_refl _, fun _ _ _ => rfl⟩

theorem as_nil53 (w : World) : (Instr.typeAssert .nilIface 20 41 true).run Tryf.prog w = .ok (.tuple #[.map none, .bool false]) w := by kernel_rfl
theorem as_nil47 (w : World) : (Instr.typeAssert .nilIface 20 36 true).run Tryf.prog w = .ok (.tuple #[.slice none 0 0, .bool false]) w := by kernel_rfl
theorem as9_53 (v : Value) (w : World) : (Instr.typeAssert (.iface 9 v) 20 41 true).run Tryf.prog w = .ok (.tuple #[.map none, .bool false]) w := by kernel_rfl
theorem as9_47 (v : Value) (w : World) : (Instr.typeAssert (.iface 9 v) 20 36 true).run Tryf.prog w = .ok (.tuple #[.slice none 0 0, .bool false]) w := by kernel_rfl
theorem as4_53 (v : Value) (w : World) : (Instr.typeAssert (.iface 4 v) 20 41 true).run Tryf.prog w = .ok (.tuple #[.map none, .bool false]) w := by kernel_rfl
theorem as4_47 (v : Value) (w : World) : (Instr.typeAssert (.iface 4 v) 20 36 true).run Tryf.prog w = .ok (.tuple #[.slice none 0 0, .bool false]) w := by kernel_rfl
theorem as62_53 (v : Value) (w : World) : (Instr.typeAssert (.iface 58 v) 20 41 true).run Tryf.prog w = .ok (.tuple #[.map none, .bool false]) w := by kernel_rfl
theorem as62_47 (v : Value) (w : World) : (Instr.typeAssert (.iface 58 v) 20 36 true).run Tryf.prog w = .ok (.tuple #[.slice none 0 0, .bool false]) w := by kernel_rfl
theorem as47_53 (v : Value) (w : World) : (Instr.typeAssert (.iface 36 v) 20 41 true).run Tryf.prog w = .ok (.tuple #[.map none, .bool false]) w := by kernel_rfl
theorem as47_47 (v : Value) (w : World) : (Instr.typeAssert (.iface 36 v) 20 36 true).run Tryf.prog w = .ok (.tuple #[v, .bool true]) w := by kernel_rfl
theorem as53_53 (v : Value) (w : World) : (Instr.typeAssert (.iface 41 v) 20 41 true).run Tryf.prog w = .ok (.tuple #[v, .bool true]) w := by kernel_rfl

theorem depth_scal (v : Value) (h : Scal v) (w : World) : Calls Tryf.prog 23 #[v] w fun e w' => e = .returned (.int .i64 0) ∧ w.grownBy w' none := by
  have a1 := as_nil53; have a2 := as_nil47; have a3 := as9_53; have a4 := as9_47; have a5 := as4_53; have a6 := as4_47; have a7 := as62_53; have a8 := as62_47
  rcases h with rfl | ⟨s, rfl⟩ | ⟨b, rfl⟩ | ⟨s, rfl⟩
  · go_enter Tryf.func23, Tryf.ntmps23
    go_wp2_with fail
    go_ret
    exact ⟨rfl, grown_refl _ _⟩
  · go_enter Tryf.func23, Tryf.ntmps23
    go_wp2_with fail
    go_ret
    exact ⟨rfl, grown_refl _ _⟩
  · go_enter Tryf.func23, Tryf.ntmps23
    go_wp2_with fail
    go_ret
    exact ⟨rfl, grown_refl _ _⟩
  · go_enter Tryf.func23, Tryf.ntmps23
    go_wp2_with fail
    go_ret
    exact ⟨rfl, grown_refl _ _⟩

theorem depth_nil_list (w : World) : Calls Tryf.prog 23 #[.iface 36 (.slice none 0 0)] w fun e w' => e = .returned (.int .i64 1) ∧ w.grownBy w' none := by
  have a1 := as47_53; have a2 := as47_47
  go_enter Tryf.func23, Tryf.ntmps23
  go_wp2_with fail
  refine wp_loop_rounds 1 ?_
  rw [rounds_succ]
  go_wp2_with fail
  go_ret
  exact ⟨rfl, grown_refl _ _⟩

theorem depth_nil_map (w : World) : Calls Tryf.prog 23 #[.iface 41 (.map none)] w fun e w' => e = .returned (.int .i64 1) ∧ w.grownBy w' none := by
  have a1 := as53_53
  have r1 := run_range_nilMap (P := Tryf.prog) w 41 9 20 Tryf.underlying41
  have r2 := run_next_nilMap (P := Tryf.prog) w
  go_enter Tryf.func23, Tryf.ntmps23
  go_wp2_with fail
  refine wp_loop_rounds 1 ?_
  rw [rounds_succ]
  go_wp2_with fail
  go_ret
  exact ⟨rfl, World.grownBy_alloc _ _ _⟩

def IsMax (f : Nat → Nat) (k m : Nat) : Prop := (∀ i, i < k → f i ≤ m) ∧ (m = 0 ∨ ∃ i, i < k ∧ f i = m)
theorem isMax_zero (f : Nat → Nat) : IsMax f 0 0 := ⟨fun _ h => by omega, Or.inl rfl⟩
theorem isMax_succ {f : Nat → Nat} {k m : Nat} (h : IsMax f k m) : IsMax f (k + 1) (max m (f k)) := by
  obtain ⟨h1, h2⟩ := h
  refine ⟨fun i hi => ?_, ?_⟩
  · by_cases e : i = k
    · subst e; omega
    · have := h1 i (by omega); omega
  · by_cases e : m ≤ f k
    · right; exact ⟨k, by omega, by omega⟩
    · rcases h2 with h2 | ⟨i, hi, h2⟩
      · omega
      · right; exact ⟨i, by omega, by omega⟩
theorem isMax_end {f : Nat → Nat} {k m D : Nat} (h : IsMax f k m) (h1 : ∀ i, i < k → f i + 1 ≤ D) (h2 : 1 ≤ D) (h3 : D = 1 ∨ ∃ i, i < k ∧ f i + 1 = D) : m + 1 = D := by
  obtain ⟨a, b⟩ := h
  rcases b with rfl | ⟨i, hi, rfl⟩
  · rcases h3 with h3 | ⟨j, hj, h3⟩
    · omega
    · have := a j hj; omega
  · have := h1 i hi
    rcases h3 with h3 | ⟨j, hj, h3⟩
    · omega
    · have := a j hj; omega
theorem isMax_le {f : Nat → Nat} {k m D : Nat} (h : IsMax f k m) (h1 : ∀ i, i < k → f i + 1 ≤ D) : m ≤ D := by
  obtain ⟨a, b⟩ := h
  rcases b with rfl | ⟨i, hi, rfl⟩
  · omega
  · have := h1 i hi; omega

theorem grown_trans {a b c : World} (h : a.grownBy b none) (k : b.grownBy c none) : a.grownBy c none := h.andThen k (by simp)

theorem max_val (m x : Nat) : Value.int .i64 (if m < x then (x : Int) else (m : Int)) = Value.int .i64 ((max m x : Nat) : Int) := by
  congr 1
  split <;> omega

set_option maxHeartbeats 1000000 in
theorem depth_list (n : Nat) (ih : ∀ (v : Value) (D : Nat) (w : World) (Q : Nat → Prop), ValD w Q n v D → D ≤ 1073741824 → Calls Tryf.prog 23 #[v] w fun e w' => e = .returned (.int .i64 D) ∧ w.grownBy w' none)
    (g len cap D : Nat) (es : Nat → Value) (f : Nat → Nat) (w : World) (Q : Nat → Prop) (hl : len ≤ 1048576) (hD : D ≤ 1073741824) (hg : g < w.heap.size)
    (hel : ∀ i, i < len → w.cell? ⟨g, i, none⟩ = some (es i) ∧ ValD w Q n (es i) (f i) ∧ f i + 1 ≤ D) (h1 : 1 ≤ D) (hm : D = 1 ∨ ∃ i, i < len ∧ f i + 1 = D) :
    Calls Tryf.prog 23 #[.iface 36 (.slice (some ⟨g, 0, none⟩) len cap)] w fun e w' => e = .returned (.int .i64 D) ∧ w.grownBy w' none := by
  have a1 := as47_53; have a2 := as47_47
  have HM : Hid (D = 1 ∨ ∃ i, i < len ∧ f i + 1 = D) := hm
  clear hm
  have IH : Hid (∀ (v : Value) (D : Nat) (w : World) (Q : Nat → Prop), ValD w Q n v D → D ≤ 1073741824 → Calls Tryf.prog 23 #[v] w fun e w' => e = .returned (.int .i64 D) ∧ w.grownBy w' none) := ih
  clear ih
  have HE : Hid (∀ i, i < len → w.cell? ⟨g, i, none⟩ = some (es i) ∧ ValD w Q n (es i) (f i) ∧ f i + 1 ≤ D) := hel
  clear hel
  go_enter Tryf.func23, Tryf.ntmps23
  go_wp2_with fail
  go_loopw [3, 30] (fun d i wr => ∃ k m : Nat, k ≤ len ∧ i = .int .i64 k ∧ d = .int .i64 m ∧ IsMax f k m ∧ w.grownBy wr none) (fun _ i _ => len - (intOf i).toNat)
  case atStart => exact ⟨0, 0, Nat.zero_le _, rfl, rfl, isMax_zero f, grown_refl _ _⟩
  case round =>
    obtain ⟨k, m, hk, rfl, rfl, hmx, hgr⟩ := hrel
    have hmD : m ≤ D := isMax_le hmx (fun i hi => (HE.out i (by omega)).2.2)
    by_cases hlt : k < len
    · obtain ⟨hc, hv, hf⟩ := HE.out k hlt
      have hc' : wr.cell? ⟨g, k, none⟩ = some (es k) := (World.cell?_of_block (w := w) (a := ⟨g, k, none⟩) (hgr.block g hg (by simp))).trans hc
      clear hc
      have hv' := hv.grown hgr
      clear hv
      go_wp2_with fail
      refine (IH.out (es k) (f k) _ Q hv' (by omega)).mono ?_
      rintro e w2 ⟨rfl, hg2⟩
      go_wp2_with fail
      go_roundw
      case rel => exact ⟨k + 1, max m (f k), by omega, by go_num, max_val _ _, isMax_succ hmx, grown_trans hgr hg2⟩
      case measure => simp [intOf]; omega
    · have hend := isMax_end hmx (fun i hi => (HE.out i (by omega)).2.2) h1 (by rw [show k = len from by omega]; exact HM.out)
      go_wp2_with fail
      go_ret
      exact ⟨by rw [← hend]; rfl, hgr⟩

def IsMaxM (M : DataW Value) (left : Lit → Bool) (f : Lit → Nat) (m : Nat) : Prop :=
  (∀ kl, Maps.has M kl = true → left kl = false → f kl ≤ m) ∧ (m = 0 ∨ ∃ kl, Maps.has M kl = true ∧ f kl = m)
theorem isMaxM_start (M : DataW Value) (f : Lit → Nat) : IsMaxM M (Maps.has M) f 0 := ⟨fun kl h1 h2 => (by rw [h1] at h2; cases h2), Or.inl rfl⟩
theorem isMaxM_next {M : DataW Value} {left : Lit → Bool} {f : Lit → Nat} {m : Nat} (h : IsMaxM M left f m) {kl : Lit} (hk : Maps.has M kl = true) : IsMaxM M (fun z => left z && !z.sameKey kl) f (max m (f kl)) := by
  obtain ⟨h1, h2⟩ := h
  refine ⟨fun z hz hl => ?_, ?_⟩
  · cases hlz : left z
    · have := h1 z hz hlz; omega
    · simp [hlz] at hl
      have := WideAt.sameKey_eq hl
      subst this
      omega
  · by_cases e : m ≤ f kl
    · right; exact ⟨kl, hk, by omega⟩
    · rcases h2 with h2 | ⟨i, hi, h2⟩
      · omega
      · right; exact ⟨i, hi, by omega⟩
theorem isMaxM_end {M : DataW Value} {left : Lit → Bool} {f : Lit → Nat} {m D : Nat} (h : IsMaxM M left f m) (hl : ∀ kl, left kl = false) (h1 : ∀ kl, Maps.has M kl = true → f kl + 1 ≤ D) (h2 : 1 ≤ D)
    (h3 : D = 1 ∨ ∃ kl, Maps.has M kl = true ∧ f kl + 1 = D) : m + 1 = D := by
  obtain ⟨a, b⟩ := h
  rcases b with rfl | ⟨i, hi, rfl⟩
  · rcases h3 with h3 | ⟨j, hj, h3⟩
    · omega
    · have := a j hj (hl j); omega
  · have := h1 i hi
    rcases h3 with h3 | ⟨j, hj, h3⟩
    · omega
    · have := a j hj (hl j); omega
theorem isMaxM_le {M : DataW Value} {left : Lit → Bool} {f : Lit → Nat} {m D : Nat} (h : IsMaxM M left f m) (h1 : ∀ kl, Maps.has M kl = true → f kl + 1 ≤ D) : m ≤ D := by
  obtain ⟨a, b⟩ := h
  rcases b with rfl | ⟨i, hi, rfl⟩
  · omega
  · have := h1 i hi; omega

theorem tokR_inv (v : Value) (y : DataW Value × List MemPlace) (h : tokR v = some y) : y = (.held v, []) := by
  unfold tokR at h; cases h; rfl
theorem key_inv (key : Value) (kl : Lit) (h : keyOf Tryf.prog 9 key = some kl) : ∃ x, key = .string x := by
  cases key <;> simp [keyOf, Tryf.underlying9, mapKey] at h
  exact ⟨_, rfl⟩

set_option maxHeartbeats 1000000 in
theorem depth_map (n : Nat) (ih : ∀ (v : Value) (D : Nat) (w : World) (Q : Nat → Prop), ValD w Q n v D → D ≤ 1073741824 → Calls Tryf.prog 23 #[v] w fun e w' => e = .returned (.int .i64 D) ∧ w.grownBy w' none)
    (b mm D : Nat) (M : DataW Value) (f : Lit → Nat) (w : World) (Q : Nat → Prop) (hD : D ≤ 1073741824) (hown : w.ownsMap Tryf.prog 9 tokR b mm M)
    (hel : ∀ kl, Maps.has M kl = true → ∃ x, (∀ z, M.atKey kl z = .held x) ∧ ValD w Q n x (f kl) ∧ f kl + 1 ≤ D) (h1 : 1 ≤ D) (hm : D = 1 ∨ ∃ kl, Maps.has M kl = true ∧ f kl + 1 = D) :
    Calls Tryf.prog 23 #[.iface 41 (.map (some b))] w fun e w' => e = .returned (.int .i64 D) ∧ w.grownBy w' none := by
  have a1 := as53_53
  have HM : Hid (D = 1 ∨ ∃ kl, Maps.has M kl = true ∧ f kl + 1 = D) := hm
  clear hm
  have IH : Hid (∀ (v : Value) (D : Nat) (w : World) (Q : Nat → Prop), ValD w Q n v D → D ≤ 1073741824 → Calls Tryf.prog 23 #[v] w fun e w' => e = .returned (.int .i64 D) ∧ w.grownBy w' none) := ih
  clear ih
  have HE : Hid (∀ kl, Maps.has M kl = true → ∃ x, (∀ z, M.atKey kl z = .held x) ∧ ValD w Q n x (f kl) ∧ f kl + 1 ≤ D) := hel
  clear hel
  have hbd : ∀ kl, Maps.has M kl = true → f kl + 1 ≤ D := fun kl hkl => by obtain ⟨x, _, _, h⟩ := HE.out kl hkl; exact h
  have HB : Hid (∀ kl, Maps.has M kl = true → f kl + 1 ≤ D) := hbd
  clear hbd
  go_enter Tryf.func23, Tryf.ntmps23
  go_wp2_with (at_range; refine wpList_range_own _ rfl _ 41 rfl 9 20 law Tryf.underlying41 _ b mm M rfl hown ?_; intro w0 hrg0 hg0 hs0)
  go_frame
  go_loopw [3] (fun d wr => ∃ (left : Lit → Bool) (cnt m : Nat), d = .int .i64 m ∧ wr.ranges Tryf.prog 9 tokR b w.heap.size mm M left cnt ∧ IsMaxM M left f m ∧ w.grownBy wr none) (fun _ wr => wr.rangeLeft b w.heap.size)
  case atStart => exact ⟨_, _, 0, rfl, hrg0, isMaxM_start M f, hg0⟩
  case round =>
    clear hrg0 hg0 hs0 hown
    obtain ⟨left, cnt, m, rfl, hrg, hmx, hgr⟩ := hrel
    have hmD : m ≤ D := isMaxM_le hmx HB.out
    go_wp2_with (at_next; refine wpList_next_ranges _ rfl _ rfl 9 law tokR Value.string (fun v => v) key_inv (fun v y _ => ⟨v, rfl⟩) b w.heap.size mm M left cnt rfl hrg ?_ ?_)
    · intro _ hl0
      have hend := isMaxM_end hmx hl0 HB.out h1 HM.out
      clear hl0
      go_wp2_with fail
      go_ret
      exact ⟨by rw [← hend]; rfl, hgr⟩
    · intro x c kl y ps w1 cnt1 hkx hlx hy hat hrg1 hlt hg1 hs1 hen
      obtain ⟨rfl, rfl⟩ : y = .held c ∧ ps = [] := by simpa using tokR_inv c _ hy
      have hhas : Maps.has M kl = true := Maps.has_true_of_atKey hat
      obtain ⟨xv, hxv, hv, hf⟩ := HE.out kl hhas
      obtain rfl : c = xv := by have h := (hat .nil).symm.trans (hxv .nil); injection h
      have hgr1 : w.grownBy w1 none := hgr.andThen hg1 (fun j hj => by cases hj; exact Or.inl (Nat.le_refl _))
      have hv1 := hv.grown hgr1
      clear hv hxv hat hy hkx
      go_wp2_with fail
      refine (IH.out c (f kl) _ Q hv1 (by omega)).mono ?_
      rintro e w2 ⟨rfl, hg2⟩
      have hrg2 := hrg1.kept hg2 (by simp) (by simp)
      clear hen
      go_wp2_with fail
      go_roundw
      case rel => exact ⟨_, _, max m (f kl), max_val _ _, hrg2, isMaxM_next hmx hhas, grown_trans hgr1 hg2⟩
      case measure => rw [hrg2.left_eq, hrg.left_eq]; omega

/-- 'Depth' answers how many levels the value nests. -/
theorem depth_any : ∀ (n : Nat) (v : Value) (D : Nat) (w : World) (Q : Nat → Prop), ValD w Q n v D → D ≤ 1073741824 → Calls Tryf.prog 23 #[v] w fun e w' => e = .returned (.int .i64 D) ∧ w.grownBy w' none
  | 0, _, _, _, _, h, _ => h.elim
  | n + 1, v, D, w, Q, h, hD => by
    rcases h with ⟨h, rfl⟩ | ⟨rfl, rfl⟩ | ⟨rfl, rfl⟩ | ⟨g, len, cap, es, f, rfl, hq, hl, ⟨cur, hg⟩, hel, h1, hm⟩ | ⟨b, m, M, f, rfl, hq, hown, hel, h1, hm⟩
    · exact depth_scal v h w
    · exact depth_nil_list w
    · exact depth_nil_map w
    · exact depth_list n (depth_any n) g len cap D es f w Q hl hD (lt_of_block hg) hel h1 hm
    · exact depth_map n (depth_any n) b m D M f w Q hD hown hel h1 hm

/-- 'ZZDepth'. -/
theorem zzdepth_any (n : Nat) (v : Value) (D : Nat) (w : World) (Q : Nat → Prop) (h : ValD w Q n v D) (hD : D ≤ 1073741824) : Calls Tryf.prog 7 #[.agg #[v]] w fun e w' => e = .returned (.int .i64 D) ∧ w.grownBy w' none := by
  have h2 : ∀ o, ValD (w.alloc o) Q n v D := fun o => h.grown (World.grownBy_alloc w o none)
  go_enter Tryf.func7, Tryf.ntmps7
  go_wp2_with fail
  refine (depth_any n v D _ Q (h2 _) hD).mono ?_
  rintro e w2 ⟨rfl, hg2⟩
  go_wp2_with fail
  go_ret
  exact ⟨rfl, grown_trans (World.grownBy_alloc w _ none) hg2⟩
end Go.Proofs.Qxb6614908aFmt.Dep
