/- A buffer of bytes that the call itself makes: what it holds, and what each append does to it. -/
import Derived.Test.Qxb6001438aSmall
set_option linter.unusedSimpArgs false
set_option linter.unusedVariables false
namespace Go.Proofs.Qxb6001438a
open Go.ChangeShapes Go.WideShapes Go.ChangeAt Go.RowKit

/-- bytes as cells -/
def bcells (l : List UInt8) : List Value := l.map fun b => Value.int .u8 b.toNat

theorem bcells_append (a b : List UInt8) : bcells (a ++ b) = bcells a ++ bcells b := by simp [bcells]
theorem bcells_length (a : List UInt8) : (bcells a).length = a.length := by simp [bcells]
theorem bcells_one (l : List UInt8) : ∀ u ∈ bcells l, u.oneCell' = true := by
  intro u hu
  simp only [bcells, List.mem_map] at hu
  obtain ⟨b, _, rfl⟩ := hu
  rfl

theorem Try.info5 : (Try.prog.info? 5).map (fun i => (i.zero, i.size, i.bytes)) = some (some (.int .u8 0), 1, 1) := by kernel_rfl

theorem one_new (w : World) (v : Value) (t : TypeId) : ∀ j u, ([v] : List Value)[j]? = some u → (w.alloc (.cells #[v] t)).cell? ((⟨w.heap.size, 0, none⟩ : Addr).add j) = some u := by
  intro j u hj
  match j, hj with
  | 0, hj => simp at hj; subst hj; simp [Addr.add]

/-- v is a buffer that holds the bytes l, its row at base or behind; below base all is as it was in w0 -/
def Buf (w0 : World) (base : Nat) (v : Value) (l : List UInt8) (w : World) : Prop :=
  w.ownsRow base 5 1 v l.length (bcells l) ∧ Below base w0 w ∧ base ≤ w.heap.size ∧ v ≠ .slice none 0 0

theorem Buf.alloc {w0 : World} {base : Nat} {v : Value} {l : List UInt8} {w : World} (h : Buf w0 base v l w) (o : Obj) : Buf w0 base v l (w.alloc o) :=
  ⟨h.1.alloc o, h.2.1.alloc h.2.2.1 o, by have := h.2.2.1; simp; omega, h.2.2.2⟩

theorem Buf.shape {w0 : World} {base : Nat} {v : Value} {l : List UInt8} {w : World} (h : Buf w0 base v l w) : ∃ g cap, v = .slice (some ⟨g, 0, none⟩) l.length cap ∧ base ≤ g ∧ ∀ j u, (bcells l)[j]? = some u → w.cell? ((⟨g, 0, none⟩ : Addr).add j) = some u := by
  rcases h.1.2 with ⟨h1, _⟩ | ⟨g, cap, cur, hv, hg, _⟩
  · exact absurd h1 h.2.2.2
  · refine ⟨g, cap, hv, hg, ?_⟩
    exact h.1.cells (g := g) (by rw [hv]; rfl)

theorem Buf.grown {w0 : World} {base : Nat} {v v' : Value} {l l' : List UInt8} {w w' : World} {n m : Nat} {xs : List Value} (h : Buf w0 base v l w) (hn : n = l.length) (hm : m = l'.length) (hx : xs = bcells l')
    (hown : w'.ownsRow base 5 1 v' (n + m) (bcells l ++ xs)) (hg : w.grownBy w' v.ownBlock) (hnil : v' = .slice none 0 0 ↔ v = .slice none 0 0 ∧ m = 0) : Buf w0 base v' (l ++ l') w' := by
  subst hn hm hx
  refine ⟨?_, h.2.1.grown hg h.2.2.1 (fun k hk => (h.1.lt k hk).1), Nat.le_trans h.2.2.1 hg.size, fun e => h.2.2.2 (hnil.1 e).1⟩
  rw [List.length_append, bcells_append]
  exact hown

section
variable {ops : Array Oper} {rest : List Oper} {o : Oper} {a : Act} {Q : Exit → Act → World → Prop} {w0 w : World} {base : Nat} {v : Value} {l : List UInt8}

/-- make([]byte, 0, n) -/
theorem wpList_buf_make (hg : o.guard = none) (x c : Operand) (hop : o.op = Op.makeSlice 28 x c) (C : Int) (n : Nat) (hl : a.eval x = .int .i64 0) (hc : a.eval c = .int .i64 C) (hC : C = (n : Int)) (hn : n ≤ 1099511627776)
    (hK : ∀ w', Buf w w.heap.size (.slice (some ⟨w.heap.size, 0, none⟩) 0 n) [] w' → wpList Try.prog ops Q rest (a.put o.dst (.slice (some ⟨w.heap.size, 0, none⟩) 0 n)) w') :
    wpList Try.prog ops Q (o :: rest) a w := by
  obtain ⟨i0, hi, hz0, hz1, hz2⟩ := info_parts Try.info5
  refine wpList_make_own w hg x c 28 hop w.heap.size 5 i0 (.int .u8 0) 1 Try.underlying28 hi hz0 hz1 _ _ C n hl hc hC (by rw [hz2]; omega) (by unfold maxLen; omega) (Nat.le_refl _) ?_
  intro w' hown hgr
  exact hK w' ⟨hown, (Below.refl _ _).grown hgr (Nat.le_refl _) (fun k h => by cases h), hgr.size, by simp⟩

/-- append(b, c) -/
theorem wpList_buf_byte (hg : o.guard = none) (x y : Operand) (hop : o.op = Op.call { callee := Callee.builtin Builtin.append, args := #[x, y], argTypes := #[28, 28] })
    (hs : a.eval x = v) (h : Buf w0 base v l w) (c : UInt8) (hy : a.eval y = .slice (some ⟨w.heap.size, 0, none⟩) 1 1) (hn : l.length + 1 ≤ 1099511627776)
    (hK : ∀ v' w', Buf w0 base v' (l ++ [c]) w' → wpList Try.prog ops Q rest (a.put o.dst v') w') :
    wpList Try.prog ops Q (o :: rest) a (w.alloc (.cells #[.int .u8 c.toNat] 5)) := by
  obtain ⟨i0, hi, hz0, hz1, hz2⟩ := info_parts Try.info5
  have h' := h.alloc (.cells #[.int .u8 c.toNat] 5)
  refine wpList_append_own _ hg x y 28 hop base 5 i0 (.int .u8 0) 1 1 Try.underlying28 hi hz0 hz1 hz2 rfl (by decide) v _ _ hs h'.1 ⟨w.heap.size, 0, none⟩ 1 1 [.int .u8 c.toNat] hy rfl (one_new _ _ _) (bcells_one [c]) (by unfold maxLen; omega) (by omega) h'.2.2.1 ?_
  intro v' w' hown hgr hnil
  exact hK v' w' (h'.grown rfl rfl rfl hown hgr hnil)

/-- append(b, e...), e a slice of bytes whose cells lie there -/
theorem wpList_buf_bytes (hg : o.guard = none) (x y : Operand) (hop : o.op = Op.call { callee := Callee.builtin Builtin.append, args := #[x, y], argTypes := #[28, 28] })
    (hs : a.eval x = v) (h : Buf w0 base v l w) (e : List UInt8) (ad : Addr) (m c : Nat) (hm : m = e.length) (hy : a.eval y = .slice (some ad) m c) (hc : ∀ j u, (bcells e)[j]? = some u → w.cell? (ad.add j) = some u) (hn : l.length + e.length ≤ 1099511627776)
    (hK : ∀ v' w', Buf w0 base v' (l ++ e) w' → wpList Try.prog ops Q rest (a.put o.dst v') w') :
    wpList Try.prog ops Q (o :: rest) a w := by
  obtain ⟨i0, hi, hz0, hz1, hz2⟩ := info_parts Try.info5
  subst hm
  refine wpList_append_own _ hg x y 28 hop base 5 i0 (.int .u8 0) 1 1 Try.underlying28 hi hz0 hz1 hz2 rfl (by decide) v _ _ hs h.1 ad e.length c (bcells e) hy (by simp [bcells_length]) hc (bcells_one e) (by unfold maxLen; omega) (by omega) h.2.2.1 ?_
  intro v' w' hown hgr hnil
  exact hK v' w' (h.grown rfl rfl rfl hown hgr hnil)
end

/-- string(b) -/
theorem Buf.conv {w0 : World} {base : Nat} {v : Value} {l : List UInt8} {w : World} (h : Buf w0 base v l w) : (convert 28 9 v).run Try.prog w = .ok (.string ⟨l.toArray⟩) w := by
  obtain ⟨g, cap, rfl, _, hc⟩ := h.shape
  refine run_convert_bytes_back w 28 9 5 ⟨g, 0, none⟩ cap l Try.underlying28 Try.underlying5 Try.underlying9 (fun j hj => ?_)
  exact hc j _ (by simp [bcells, List.getElem?_eq_getElem hj])

end Go.Proofs.Qxb6001438a
