import Derived.Test.Qxb6614908aFmtRows
import Derived.WalkKit
import Derived.ProofKit
import Derived.Maps.RangeWalk
import Derived.Maps.OwnSet
import Derived.Maps.OwnOps
import Derived.Maps.AppendAt
import Derived.WalkSmall
import Derived.WalkSpells
import Derived.Outline
namespace Go.Proofs.Qxb6614908aFmt.Dep
open Go.ChangeShapes Go.WideShapes Go.ChangeAt Go.RowKit

theorem hide {p : Prop} (h : p) : Hid p := h

/-- An element of a map is read as itself. -/
def tokR (v : Value) : Option (DataW Value × List MemPlace) := some (.held v, [])
theorem law : Maps.Keyed Tryf.prog 9 := Maps.string_keyed Tryf.underlying9

/-- A value that does not nest: nil, a string, a bool, a json.Number. -/
def Scal (v : Value) : Prop := v = .nilIface ∨ (∃ s, v = .iface 9 (.string s)) ∨ (∃ b, v = .iface 4 (.bool b)) ∨ (∃ s, v = .iface 58 (.string s))

/-- A block that a list or an object of the document lies in. -/
def IsVal (o : Obj) : Prop := (∃ cur, o = .cells cur 20 (0, 0)) ∨ ∃ es c, o = .map es c

/-- THE VALUE v, IN THE WORLD w, NESTS D LEVELS (n: a bound on the levels; Q: what the blocks that it lies in are). -/
def ValD (w : World) (Q : Nat → Prop) : Nat → Value → Nat → Prop
  | 0, _, _ => False
  | n + 1, v, D =>
    (Scal v ∧ D = 0) ∨ (v = .iface 36 (.slice none 0 0) ∧ D = 1) ∨ (v = .iface 41 (.map none) ∧ D = 1) ∨
    (∃ (g len cap : Nat) (es : Nat → Value) (f : Nat → Nat), v = .iface 36 (.slice (some ⟨g, 0, none⟩) len cap) ∧ Q g ∧ len ≤ 1048576 ∧ (∃ cur, w.heap[g]? = some (.cells cur 20 (0, 0))) ∧
      (∀ i, i < len → w.cell? ⟨g, i, none⟩ = some (es i) ∧ ValD w Q n (es i) (f i) ∧ f i + 1 ≤ D) ∧ 1 ≤ D ∧ (D = 1 ∨ ∃ i, i < len ∧ f i + 1 = D)) ∨
    (∃ (b m : Nat) (M : DataW Value) (f : Lit → Nat), v = .iface 41 (.map (some b)) ∧ Q b ∧ w.ownsMap Tryf.prog 9 tokR b m M ∧
      (∀ kl, Maps.has M kl = true → ∃ x, (∀ z, M.atKey kl z = .held x) ∧ ValD w Q n x (f kl) ∧ f kl + 1 ≤ D) ∧ 1 ≤ D ∧ (D = 1 ∨ ∃ kl, Maps.has M kl = true ∧ f kl + 1 = D))

/-- What a value is hangs on its own blocks alone. -/
theorem ValD.keep {w w' : World} {Q Q' : Nat → Prop} (hk : ∀ b o, Q b → w.heap[b]? = some o → IsVal o → w'.heap[b]? = some o ∧ Q' b) : ∀ (n : Nat) (v : Value) (D : Nat), ValD w Q n v D → ValD w' Q' n v D
  | 0, _, _, h => h
  | n + 1, v, D, h => by
    rcases h with h | h | h | ⟨g, len, cap, es, f, hv, hq, hl, ⟨cur, hg⟩, hel, h1, hm⟩ | ⟨b, m, M, f, hv, hq, hown, hel, h1, hm⟩
    · exact Or.inl h
    · exact Or.inr (Or.inl h)
    · exact Or.inr (Or.inr (Or.inl h))
    · obtain ⟨hg', hq'⟩ := hk g _ hq hg (Or.inl ⟨_, rfl⟩)
      refine Or.inr (Or.inr (Or.inr (Or.inl ⟨g, len, cap, es, f, hv, hq', hl, ⟨cur, hg'⟩, fun i hi => ?_, h1, hm⟩)))
      obtain ⟨a, c, d⟩ := hel i hi
      exact ⟨(World.cell?_of_block (w := w) (a := ⟨g, i, none⟩) (hg'.trans hg.symm)).trans a, ValD.keep hk n _ _ c, d⟩
    · obtain ⟨es, clock, hb, F, hs, hD⟩ := hown
      obtain ⟨hb', hq'⟩ := hk b _ hq hb (Or.inr ⟨_, _, rfl⟩)
      refine Or.inr (Or.inr (Or.inr (Or.inr ⟨b, m, M, f, hv, hq', ⟨es, clock, hb', F, hs, hD⟩, fun kl hkl => ?_, h1, hm⟩)))
      obtain ⟨x, a, c, d⟩ := hel kl hkl
      exact ⟨x, a, ValD.keep hk n _ _ c, d⟩

theorem ValD.grown {w w' : World} {Q : Nat → Prop} {n : Nat} {v : Value} {D : Nat} (h : ValD w Q n v D) (hg : w.grownBy w' none) : ValD w' Q n v D :=
  ValD.keep (fun b o hq hb _ => ⟨(hg.block b (lt_of_block hb) (by simp)).trans hb, hq⟩) n v D h

end Go.Proofs.Qxb6614908aFmt.Dep
