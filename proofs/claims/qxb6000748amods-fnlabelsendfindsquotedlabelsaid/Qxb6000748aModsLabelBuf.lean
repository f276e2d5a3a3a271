/-
  A buffer of bytes that the call makes with room enough, appended to: its laws at the operation, for the walk.
-/
import Derived.Test.Qxb6000748aModsLabelWalks
import Derived.Lib.AppendStr
import Derived.Laws.IdiomStrings
namespace Go.Proofs.Qxb6000748aMods.Label
open Go.RowKit

theorem info5 : (Trym.prog.info? 5).map (fun i => (i.zero, i.size, i.bytes)) = some (some (.int .u8 0), 1, 1) := by kernel_rfl

def cellsOf (bs : List UInt8) : List Value := bs.map fun b => Value.int .u8 b.toNat
theorem cellsOf_append (a b : List UInt8) : cellsOf (a ++ b) = cellsOf a ++ cellsOf b := List.map_append
theorem cellsOf_one (bs : List UInt8) : ∀ u ∈ cellsOf bs, u.oneCell' = true := by
  intro u hu
  obtain ⟨_, _, rfl⟩ := List.mem_map.1 hu
  rfl

/-- The slice at the head of block g, n long, of capacity cap, holds the bytes bs. -/
def Own (w : World) (g cap n : Nat) (bs : List UInt8) : Prop := w.ownsRow g 5 1 (.slice (some ⟨g, 0, none⟩) n cap) n (cellsOf bs)
theorem Own.len {w : World} {g cap n : Nat} {bs : List UInt8} (h : Own w g cap n bs) : bs.length = n := by
  have := h.1
  simpa [cellsOf] using this
theorem Own.alloc {w : World} {g cap n : Nat} {bs : List UInt8} (h : Own w g cap n bs) (o : Obj) : Own (w.alloc o) g cap n bs := World.ownsRow.alloc h o
theorem Own.cell {w : World} {g cap n : Nat} {bs : List UInt8} (h : Own w g cap n bs) (j : Nat) (hj : j < bs.length) : w.cell? ⟨g, j, none⟩ = some (.int .u8 (bs[j].toNat : Int)) := by
  have hl := h.len
  rw [World.ownsRow.cellAt h j (by omega)]
  simp [cellsOf, List.getElem?_eq_getElem hj]

theorem new_cells (w : World) (vs : List Value) (t : TypeId) : ∀ j u, vs[j]? = some u → (w.alloc (.cells vs.toArray t)).cell? ((⟨w.heap.size, 0, none⟩ : Addr).add j) = some u := by
  intro j u hj
  rw [Addr.add_lit, Nat.zero_add, World.cell?_alloc_mark]
  simpa using hj

/-- string(b[:m]). -/
theorem conv_is {w : World} {g cap n : Nat} {bs : List UInt8} (h : Own w g cap n bs) (l : List UInt8) (m : Nat) (hm : m = l.length) (hp : ∀ j (hj : j < l.length), ∃ hj' : j < bs.length, bs[j] = l[j]) :
    (convert 26 9 (.slice (some ⟨g, 0, none⟩) m cap)).run Trym.prog w = .ok (.string ⟨l.toArray⟩) w := by
  subst hm
  refine run_convert_bytes_back w 26 9 5 ⟨g, 0, none⟩ cap l Trym.underlying26 Trym.underlying5 Trym.underlying9 (fun j hj => ?_)
  obtain ⟨hj', e⟩ := hp j hj
  rw [Addr.add_lit, Nat.zero_add, h.cell j hj', e]

section
variable {ops : Array Oper} {rest : List Oper} {o : Oper} {a : Act} {Q : Exit → Act → World → Prop}

/-- 'append(b, x, y)' within the capacity. -/
theorem app_lit (w : World) (hg : o.guard = none) (s x : Operand) (hop : o.op = Op.call { callee := Callee.builtin Builtin.append, args := #[s, x], argTypes := #[26, 26] })
    (g cap n : Nat) (bs : List UInt8) (hs : a.eval s = .slice (some ⟨g, 0, none⟩) n cap) (hown : Own w g cap n bs) (hgw : g ≤ w.heap.size) (ad : Addr) (m c : Nat) (news : List UInt8) (hx : a.eval x = .slice (some ad) m c) (hm : news.length = m)
    (hc : ∀ j u, (cellsOf news)[j]? = some u → w.cell? (ad.add j) = some u) (b1 : n + m ≤ cap)
    (hK : ∀ w' n', n' = n + m → Own w' g cap n' (bs ++ news) → Below g w w' → wpList Trym.prog ops Q rest (a.put o.dst (.slice (some ⟨g, 0, none⟩) n' cap)) w') :
    wpList Trym.prog ops Q (o :: rest) a w := by
  obtain ⟨i, hi, _, hz1, _⟩ := info_parts info5
  refine wpList_append_fits w hg s x 26 hop g 5 i 1 Trym.underlying26 hi hz1 g n cap (cellsOf bs) hs hown ad m c (cellsOf news) hx (by simp [cellsOf, hm]) hc (cellsOf_one news) b1 (fun w' ho hgr => ?_)
  refine hK w' _ rfl ?_ ((Below.refl _ _).grown hgr hgw (fun j hj => by cases hj; exact Nat.le_refl _))
  unfold Own
  rw [cellsOf_append]
  exact ho

/-- 'append(b, s...)', s a string, within the capacity. -/
theorem app_str (w : World) (hg : o.guard = none) (s x : Operand) (hop : o.op = Op.call { callee := Callee.builtin Builtin.append, args := #[s, x], argTypes := #[26, 9] })
    (g cap n : Nat) (bs : List UInt8) (hs : a.eval s = .slice (some ⟨g, 0, none⟩) n cap) (hown : Own w g cap n bs) (hgw : g ≤ w.heap.size) (str : ByteArray) (hx : a.eval x = .string str) (b1 : n + str.size ≤ cap)
    (hK : ∀ w' n', n' = n + str.size → Own w' g cap n' (bs ++ str.data.toList) → Below g w w' → wpList Trym.prog ops Q rest (a.put o.dst (.slice (some ⟨g, 0, none⟩) n' cap)) w') :
    wpList Trym.prog ops Q (o :: rest) a w := by
  obtain ⟨i, hi, _, hz1, _⟩ := info_parts info5
  refine wpList_plain hg fun K hK' => ?_
  rcases hown.2 with ⟨h, _⟩ | ⟨g', cap', cur, h, hbg, hgc, hnc, hcm, hcs, htake⟩
  · simp at h
  simp only [Value.slice.injEq, Option.some.injEq, Addr.mk.injEq, and_true, true_and] at h
  obtain ⟨rfl, rfl⟩ := h
  have hcs1 : cur.size = cap := by simpa using hcs
  have hr := Lib.run_append_room_string (P := Trym.prog) w 26 9 o.type 5 i Trym.underlying26 Trym.underlying9 hi hz1 g n cap cur hgc str b1 (by omega)
  unfold Oper.wp
  simp [execOp, hop, resolve, invoke, builtin, hs, hx, hr, Result.andThen]
  refine hK' _ _ (hK _ _ rfl ?_ ((Below.refl _ _).grown (row := some g) ⟨rfl, rfl, rfl, by simp, fun k _ hk => setRow_other w g k _ (fun e => hk (by simp [e]))⟩ hgw (fun j hj => by cases hj; exact Nat.le_refl _)))
  have hlb := hown.len
  have hsc : Lib.strCells str = cellsOf str.data.toList := rfl
  have hsl : (Lib.strCells str).length = str.size := Lib.strCells_length str
  refine ⟨by rw [cellsOf_append, List.length_append, ← hsc, hsl]; simp [cellsOf, hlb], .inr ⟨g, cap, _, rfl, hbg, setRow_heap w g cur _ 5 _ hgc, b1, hcm, ?_, ?_⟩⟩
  · simp only [List.size_toArray, List.length_append, List.length_take, List.length_drop, Array.length_toList, hsl]
    omega
  · have ht : cur.toList.take n = cellsOf bs := by simpa using htake
    have e : n + str.size = (cellsOf bs ++ Lib.strCells str).length := by rw [List.length_append, hsl]; simp [cellsOf, hlb]
    rw [ht, Nat.mul_one, cellsOf_append, ← hsc, ← List.append_assoc]
    show List.take (n + str.size) (cellsOf bs ++ Lib.strCells str ++ List.drop (n + str.size) cur.toList) = _
    conv => lhs; arg 1; rw [e]
    exact List.take_left
end

theorem own_made {w : World} {g cap : Nat} (h : w.ownsRow g 5 1 (.slice (some ⟨g, 0, none⟩) 0 cap) 0 []) : Own w g cap 0 [] := h
end Go.Proofs.Qxb6000748aMods.Label
