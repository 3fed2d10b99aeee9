/-
  strconv.AppendUint(digits[:0], u, 10), digits an array of 20 bytes: the numeral lies at its front.
-/
import Derived.Test.Qxb6615936aDoorDec
import Derived.Lib.AppendStr
import Derived.Deep.AppendLies
import Derived.Shelf.Strconv.AppendUint10
namespace Go.Proofs.Qxb6615936aDoor
open Go.RowKit
set_option linter.unusedVariables false
set_option linter.unusedSimpArgs false


section
variable {P : Program} (w : World)

theorem run_append_room_k (t ty e k : TypeId) (i : TypeInfo) (ht : P.underlying t = some (.slice e)) (hi : P.info? e = some i)
    (g sLen sCap : Nat) (cur : Array Value) (hg : w.heap[g]? = some (.cells cur k (0, 0)))
    (a : Addr) (m c : Nat) (news : List Value) (hl : news.length = m * i.size) (hnews : ∀ j u, news[j]? = some u → w.cell? (a.add j) = some u) (h1 : ∀ u ∈ news, u.oneCell' = true)
    (hroom : sLen + m ≤ sCap) (hfit : sLen * i.size + news.length ≤ cur.size) :
    (Builtin.append_ #[t, t] ty #[.slice (some ⟨g, 0, none⟩) sLen sCap, .slice (some a) m c]).run P w =
      .ok (.slice (some ⟨g, 0, none⟩) (sLen + m) sCap) (w.setRow g (cur.toList.take (sLen * i.size) ++ news ++ cur.toList.drop (sLen * i.size + news.length)).toArray) := by
  have hf := run_firstCells_some (P := P) w i.size m a m c news hl hnews
  have hst := run_storeCells_at P g (sLen * i.size) k news 0 cur w hg (by simpa using hfit) h1
  simp only [Nat.add_zero] at hst
  simp [Builtin.append_, run_underlying ht, sizeOf, typeInfo, hi, Builtin.lenOf, hroom, hf, Addr.add_lit, hst]

theorem run_append_room_string_k (t u ty e k : TypeId) (i : TypeInfo) (ht : P.underlying t = some (.slice e)) (hu : P.underlying u = some .string) (hi : P.info? e = some i) (hs1 : i.size = 1)
    (g sLen sCap : Nat) (cur : Array Value) (hg : w.heap[g]? = some (.cells cur k (0, 0))) (s : ByteArray)
    (hroom : sLen + s.size ≤ sCap) (hfit : sLen + s.size ≤ cur.size) :
    (Builtin.append_ #[t, u] ty #[.slice (some ⟨g, 0, none⟩) sLen sCap, .string s]).run P w =
      .ok (.slice (some ⟨g, 0, none⟩) (sLen + s.size) sCap) (w.setRow g (cur.toList.take sLen ++ Lib.strCells s ++ cur.toList.drop (sLen + s.size)).toArray) := by
  have hf := Lib.run_firstCells_string (P := P) w 1 s
  have hst := run_storeCells_at P g sLen k (Lib.strCells s) 0 cur w hg (by simpa [Lib.strCells_length] using hfit) (Lib.strCells_oneCell s)
  simp only [Nat.add_zero, Lib.strCells_length] at hst
  simp [Builtin.append_, run_underlying ht, run_underlying hu, sizeOf, typeInfo, hi, hs1, Builtin.lenOf, hroom, hf, Addr.add_lit, hst]
end

/-- The bytes of l lie in block g from its front on. -/
def Front (w : World) (g : Nat) (l : List UInt8) : Prop := ∀ j x, l[j]? = some x → w.cell? ⟨g, j, none⟩ = some (.int .u8 (x.toNat : Int))

theorem front_set (w : World) (g k : Nat) (cur : Array Value) (hg : w.heap[g]? = some (.cells cur k (0, 0))) (l : List UInt8) (rest : List Value) :
    Front (w.setRow g ((l.map fun x => Value.int .u8 (x.toNat : Int)) ++ rest).toArray) g l := by
  intro j x hj
  rw [cell_setRow_same w g j cur _ k (0, 0) hg]
  have hlt : j < l.length := (List.getElem?_eq_some_iff.1 hj).1
  rw [List.getElem?_toArray, List.getElem?_append_left (by simpa using hlt), List.getElem?_map, hj]
  rfl

theorem grownBy_setRow (w : World) (g : Nat) (c : Array Value) : w.grownBy (w.setRow g c) (some g) :=
  ⟨rfl, rfl, rfl, by simp, fun k _ hk => setRow_other w g k _ (fun e => hk (by rw [e]))⟩

theorem info5 : (Tryd.prog.info? 5).map (fun i => (i.size, i.bytes, i.zero)) = some (1, 1, some (.int .u8 0)) := by kernel_rfl
theorem info5' : ∃ i, Tryd.prog.info? 5 = some i ∧ i.size = 1 ∧ i.bytes = 1 ∧ i.zero = some (.int .u8 0) := by
  have h := info5
  cases e : Tryd.prog.info? 5 with
  | none => rw [e] at h; cases h
  | some i =>
    rw [e] at h
    simp only [Option.map_some, Option.some.injEq, Prod.mk.injEq] at h
    exact ⟨i, rfl, h.1, h.2.1, h.2.2⟩

theorem wpList_append_in {w : World} {ops : Array Oper} {rest : List Oper} {o : Oper} {a : Act} {Q : Exit → Act → World → Prop} (hgd : o.guard = none) (s x : Operand)
    (ho : o.op = .call { callee := .builtin .append, args := #[s, x], argTypes := #[54, 54] })
    (g k : Nat) (cur : Array Value) (hs : a.eval s = .slice (some ⟨g, 0, none⟩) 0 20) (hg : w.heap[g]? = some (.cells cur k (0, 0))) (hcs : cur.size = 20)
    (ad : Addr) (m c : Nat) (l : List UInt8) (hl : l.length = m) (hm : m ≤ 20) (hx : a.eval x = .slice (some ad) m c) (hnews : ∀ j x, l[j]? = some x → w.cell? (ad.add j) = some (.int .u8 (x.toNat : Int)))
    (h : ∀ w', w.grownBy w' (some g) → Front w' g l → wpList Tryd.prog ops Q rest (a.put o.dst (.slice (some ⟨g, 0, none⟩) m 20)) w') : wpList Tryd.prog ops Q (o :: rest) a w := by
  refine wpList_plain hgd fun K hK => ?_
  obtain ⟨i, hi, hsz, _, _⟩ := info5'
  have hr := run_append_room_k (P := Tryd.prog) w 54 o.type 5 k i Tryd.underlying54 hi g 0 20 cur hg ad m c (l.map fun x => Value.int .u8 (x.toNat : Int)) (by rw [hsz]; simp [hl]) (by
    intro j u hj
    rw [List.getElem?_map] at hj
    cases hx' : l[j]? with
    | none => rw [hx'] at hj; cases hj
    | some y => rw [hx'] at hj; cases hj; exact hnews j y hx') (by intro u hu; simp only [List.mem_map] at hu; obtain ⟨b, _, rfl⟩ := hu; rfl) (by omega) (by simp [hl, hcs]; omega)
  unfold Oper.wp execOp
  simp only [ho, resolve, invoke, builtin, Sem.run_bind, Sem.run_pure, Result.andThen_ok, List.map_toArray, List.map_cons, List.map_nil, hs, hx, hr, Nat.zero_add, Nat.zero_mul, List.take_zero, List.nil_append]
  exact hK _ _ (h _ (grownBy_setRow w g _) (front_set w g k cur hg l _))

theorem wpList_append_in_string {w : World} {ops : Array Oper} {rest : List Oper} {o : Oper} {a : Act} {Q : Exit → Act → World → Prop} (hgd : o.guard = none) (s x : Operand)
    (ho : o.op = .call { callee := .builtin .append, args := #[s, x], argTypes := #[54, 9] })
    (g k : Nat) (cur : Array Value) (hs : a.eval s = .slice (some ⟨g, 0, none⟩) 0 20) (hg : w.heap[g]? = some (.cells cur k (0, 0))) (hcs : cur.size = 20)
    (l : List UInt8) (m : Nat) (hl : l.length = m) (hm : m ≤ 20) (hx : a.eval x = .string ⟨l.toArray⟩)
    (h : ∀ w', w.grownBy w' (some g) → Front w' g l → wpList Tryd.prog ops Q rest (a.put o.dst (.slice (some ⟨g, 0, none⟩) m 20)) w') : wpList Tryd.prog ops Q (o :: rest) a w := by
  refine wpList_plain hgd fun K hK => ?_
  obtain ⟨i, hi, hsz, _, _⟩ := info5'
  have hss : (⟨l.toArray⟩ : ByteArray).size = m := by simpa [ByteArray.size] using hl
  have hr := run_append_room_string_k (P := Tryd.prog) w 54 9 o.type 5 k i Tryd.underlying54 Tryd.underlying9 hi hsz g 0 20 cur hg ⟨l.toArray⟩ (by omega) (by omega)
  unfold Oper.wp execOp
  simp only [ho, resolve, invoke, builtin, Sem.run_bind, Sem.run_pure, Result.andThen_ok, List.map_toArray, List.map_cons, List.map_nil, hs, hx, hr, Nat.zero_add, Nat.zero_mul, List.take_zero, List.nil_append]
  rw [hss]
  exact hK _ _ (h _ (grownBy_setRow w g _) (front_set w g k cur hg l _))

end Go.Proofs.Qxb6615936aDoor
