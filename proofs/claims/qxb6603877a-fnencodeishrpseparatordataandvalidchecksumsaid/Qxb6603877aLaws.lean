/-
  THREE LAWS FOR THE WALK, of no program: an append that may grow, from whatever slice of cells (nil too), the shape of what comes out said; an append of a string's bytes within the capacity.
-/
import Derived.Test.Qxb6603877aExpand
namespace Go.Proofs.Qxb6603877a
open Go.RowKit

theorem own_shape {w : World} {base : Nat} {e : TypeId} {size : Nat} {v : Value} {n : Nat} {xs : List Value} (h : w.ownsRow base e size v n xs) (hn : 0 < n) : ∃ g cap, v = .slice (some ⟨g, 0, none⟩) n cap ∧ base ≤ g := by
  rcases h.2 with ⟨_, h0⟩ | ⟨g, cap, cur, hv, hb, _⟩
  · omega
  · exact ⟨g, cap, hv, hb⟩

theorem wpList_append_big {P : Program} (w : World) {ops : Array Oper} {rest : List Oper} {o : Oper} {a : Act} {Q : Exit → Act → World → Prop} (hgd : o.guard = none) (s x : Operand) (t : TypeId)
    (ho : o.op = .call { callee := .builtin .append, args := #[s, x], argTypes := #[t, t] })
    (base : Nat) (e : TypeId) (i : TypeInfo) (z : Value) (size bytes : Nat) (ht : P.underlying t = some (.slice e)) (hi : P.info? e = some i) (hz : i.zero = some z)
    (hsize : i.size = size) (hby : i.bytes = bytes) (hzs : z.cells.size = size) (hsz : 0 < size)
    (v : Value) (n : Nat) (xs : List Value) (hs : a.eval s = v) (hown : w.ownsRow base e size v n xs)
    (ao : Option Addr) (m c : Nat) (news : List Value) (hx : a.eval x = .slice ao m c) (hnone : ao = none → m = 0 ∧ c = 0) (hl : news.length = m * size) (hnews : ∀ ad, ao = some ad → ∀ j u, news[j]? = some u → w.cell? (ad.add j) = some u) (h1 : ∀ u ∈ news, u.oneCell' = true)
    (h63 : n + m ≤ maxLen) (hbytes : (n + m) * bytes ≤ 140737488355328) (hbase : base ≤ w.heap.size) (hpos : 0 < n + m)
    (h : ∀ g cap w', base ≤ g → w'.ownsRow base e size (.slice (some ⟨g, 0, none⟩) (n + m) cap) (n + m) (xs ++ news) → w.grownBy w' v.ownBlock → wpList P ops Q rest (a.put o.dst (.slice (some ⟨g, 0, none⟩) (n + m) cap)) w') : wpList P ops Q (o :: rest) a w := by
  cases ao with
  | some ad =>
    refine wpList_append_own w hgd s x t ho base e i z size bytes ht hi hz hsize hby hzs hsz v n xs hs hown ad m c news hx hl (hnews ad rfl) h1 h63 hbytes hbase ?_
    intro v' w' hown' hgrow _
    obtain ⟨g, cap, hv, hb⟩ := own_shape hown' hpos
    rw [hv] at hown' ⊢
    exact h g cap w' hb hown' hgrow
  | none =>
    obtain ⟨rfl, rfl⟩ := hnone rfl
    have hnews0 : news = [] := List.eq_nil_of_length_eq_zero (by simpa using hl)
    subst hnews0
    refine wpList_append_own_none hgd s x t ho base e i size ht hi v n xs hs hown hx ?_
    obtain ⟨g, cap, hv, hb⟩ := own_shape hown (by omega)
    have hown2 : w.ownsRow base e size (.slice (some ⟨g, 0, none⟩) (n + 0) cap) (n + 0) (xs ++ []) := by
      rw [List.append_nil, Nat.add_zero, ← hv]; exact hown
    have := h g cap w hb hown2 (World.grownBy.refl _ _)
    rw [Nat.add_zero, ← hv] at this
    exact this

theorem strCells_eq (s : ByteArray) : Lib.strCells s = cellsOf (sbytes s) := by
  simp [Lib.strCells, cellsOf, sbytes]

theorem wpList_append_string_fits {P : Program} (w : World) {ops : Array Oper} {rest : List Oper} {o : Oper} {a : Act} {Q : Exit → Act → World → Prop} (hgd : o.guard = none) (sl x : Operand) (t u : TypeId)
    (ho : o.op = .call { callee := .builtin .append, args := #[sl, x], argTypes := #[t, u] })
    (base : Nat) (e : TypeId) (i : TypeInfo) (ht : P.underlying t = some (.slice e)) (hu : P.underlying u = some .string) (hi : P.info? e = some i) (hs1 : i.size = 1)
    (g k cap : Nat) (xs : List Value) (hs : a.eval sl = .slice (some ⟨g, 0, none⟩) k cap) (hown : w.ownsRow base e 1 (.slice (some ⟨g, 0, none⟩) k cap) k xs) (s : ByteArray) (hx : a.eval x = .string s) (hroom : k + s.size ≤ cap)
    (h : ∀ w', w'.ownsRow base e 1 (.slice (some ⟨g, 0, none⟩) (k + s.size) cap) (k + s.size) (xs ++ cellsOf (sbytes s)) → w.grownBy w' (some g) → wpList P ops Q rest (a.put o.dst (.slice (some ⟨g, 0, none⟩) (k + s.size) cap)) w') : wpList P ops Q (o :: rest) a w := by
  refine wpList_plain hgd fun K hK => ?_
  rcases hown.2 with ⟨h', _⟩ | ⟨g', cap', cur, h', hbg, hg, hnc, hcm, hcs, htake⟩
  · simp at h'
  · simp only [Value.slice.injEq, Option.some.injEq, Addr.mk.injEq, and_true, true_and] at h'
    obtain ⟨rfl, rfl⟩ := h'
    have hr := Lib.run_append_room_string (P := P) w t u o.type e i ht hu hi hs1 g k cap cur hg s hroom (by omega)
    have hxl : xs.length = k := by simpa using hown.1
    have hsl := Lib.strCells_length s
    have hlen : (xs ++ Lib.strCells s).length = (k + s.size) * 1 := by rw [List.length_append, hxl, hsl, Nat.mul_one]
    unfold Oper.wp execOp
    simp only [ho, resolve, invoke, builtin, Sem.run_bind, Sem.run_pure, Result.andThen_ok, List.map_toArray, List.map_cons, List.map_nil, hs, hx, hr]
    refine hK _ _ (h _ ⟨by rw [← strCells_eq]; exact hlen, .inr ⟨g, cap, _, rfl, hbg, setRow_heap w g cur _ e _ hg, hroom, hcm, ?_, ?_⟩⟩ ⟨rfl, rfl, rfl, by simp, fun k _ hk => setRow_other w g k _ (fun e => hk (by simp [e]))⟩)
    · simp only [List.size_toArray, List.length_append, List.length_take, List.length_drop, Array.length_toList, hsl]
      omega
    · rw [← strCells_eq, ← hlen]
      rw [Nat.mul_one] at htake
      rw [htake]
      exact List.take_left

end Go.Proofs.Qxb6603877a
