/- append of ints onto a row of the call's own, the source nil, empty or not. -/
import Derived.Test.YtdnepnnkpaoaaaaGInts
namespace Go.Proofs.Ytdnepnnkpaoaaaa
open Go.RowKit
set_option linter.unusedVariables false
theorem IIn.of_own {w : World} {base e n c : Nat} {a : Option Addr} {xs : List Int} (h : w.ownsRow base e 1 (.slice a n c) n (xs.map (Value.int .i64))) : IIn w w.heap.size a xs := fun hn => by
  have hl : xs.length = n := by simpa using h.1
  obtain ⟨g, cap, hv, _, hlt⟩ := h.form (by omega)
  have hA : a = some ⟨g, 0, none⟩ := by injection hv
  subst hA
  refine ⟨g, 0, rfl, hlt, fun i hi => ?_⟩
  have := h.cells (g := g) rfl i (.int .i64 (xs.getD i 0)) (by simp [List.getElem?_map, List.getElem?_eq_getElem hi])
  rwa [add_plain'] at this
/-- The slice value v is nil, or begins a row of the call's own (blocks from base on) that holds these bytes. -/
def OwnI (w : World) (base e : Nat) (v : Value) (xs : List Int) : Prop := w.ownsRow base e 1 v xs.length (xs.map (Value.int .i64))

theorem OwnI.nil (w : World) (base e : Nat) : OwnI w base e (.slice none 0 0) [] := ⟨by simp, .inl ⟨rfl, rfl⟩⟩
theorem OwnI.form {w : World} {base e : Nat} {v : Value} {xs : List Int} (h : OwnI w base e v xs) : ∃ a c, v = .slice a xs.length c ∧ xs.length ≤ c ∧ c ≤ maxLen ∧ (a = none → xs = [] ∧ c = 0) ∧ (∀ b, a = some b → b.off = 0 ∧ b.spot = none ∧ base ≤ b.block ∧ b.block < w.heap.size) := by
  rcases h.2 with ⟨rfl, h0⟩ | ⟨g, cap, cur, rfl, hb, hg, hn, hm, _⟩
  · exact ⟨none, 0, by rw [h0], by omega, by simp [maxLen], fun _ => ⟨List.eq_nil_of_length_eq_zero h0, rfl⟩, fun b hb => by cases hb⟩
  · refine ⟨some ⟨g, 0, none⟩, cap, rfl, hn, hm, (fun h => by cases h), fun b hb' => ?_⟩
    injection hb' with hb'
    subst hb'
    exact ⟨rfl, rfl, hb, (Array.getElem?_eq_some_iff.1 hg).1⟩
theorem OwnI.iin {w : World} {base e n c : Nat} {a : Option Addr} {xs : List Int} (h : OwnI w base e (.slice a n c) xs) (hn : xs.length = n) : IIn w w.heap.size a xs := by
  subst hn
  exact IIn.of_own h
theorem OwnI.alloc {w : World} {base e : Nat} {v : Value} {xs : List Int} (h : OwnI w base e v xs) (o : Obj) : OwnI (w.alloc o) base e v xs := World.ownsRow.alloc h o
theorem OwnI.more {w : World} {base base' e : Nat} {v : Value} {xs : List Int} (h : OwnI w base e v xs) (hb : base' ≤ base) : OwnI w base' e v xs :=
  ⟨h.1, h.2.imp id fun ⟨g, cap, cur, h1, h2, h3⟩ => ⟨g, cap, cur, h1, by omega, h3⟩⟩
/-- What a frame leaves of a row: its block is not on the list. -/
theorem OwnI.fr {S : List Nat} {w w' : World} {base e : Nat} {v : Value} {xs : List Int} (h : OwnI w base e v xs) (hf : Fr S w w') (hs : ∀ g, v.ownBlock = some g → g ∉ S) : OwnI w' base e v xs := by
  refine ⟨h.1, h.2.imp id fun ⟨g, cap, cur, h1, h2, h3, h4⟩ => ⟨g, cap, cur, h1, h2, ?_, h4⟩⟩
  rw [hf.block g (Array.getElem?_eq_some_iff.1 h3).1 (hs g (by rw [h1]; rfl))]
  exact h3

section
variable {P : Program} (w : World)

theorem run_append_ints (base : Nat) (t ty e : TypeId) (i : TypeInfo) (z : Value) (ht : P.underlying t = some (.slice e)) (hi : P.info? e = some i) (hz : i.zero = some z)
    (hsize : i.size = 1) (hby : i.bytes = 8) (hzs : z.cells.size = 1)
    (v : Value) (xs : List Int) (hown : OwnI w base e v xs)
    (B : Nat) (A : Option Addr) (m c : Nat) (ys : List Int) (hm : ys.length = m) (hr : IIn w B A ys)
    (h63 : xs.length + ys.length ≤ 17592186044416) (hbase : base ≤ w.heap.size) :
    ∃ v' w', (Builtin.append_ #[t, t] ty #[v, .slice A m c]).run P w = .ok v' w' ∧ OwnI w' base e v' (xs ++ ys) ∧ w.grownBy w' v.ownBlock ∧
      (v'.ownBlock = v.ownBlock ∨ v'.ownBlock = some w.heap.size) := by
  by_cases h0 : m = 0
  · subst h0
    have hn : ys = [] := List.eq_nil_of_length_eq_zero hm
    subst hn
    rw [List.append_nil]
    refine ⟨v, w, ?_, hown, World.grownBy.refl w _, .inl rfl⟩
    rcases hown.2 with ⟨rfl, _⟩ | ⟨g, cap, cur, rfl, _, _, hnc, _⟩
    · cases A <;> simp [Builtin.append_, run_underlying ht, sizeOf, typeInfo, hi, Builtin.lenOf, Builtin.firstCells, loadCells] <;> rfl
    · cases A <;> simp [Builtin.append_, run_underlying ht, sizeOf, typeInfo, hi, Builtin.lenOf, Builtin.firstCells, hnc, storeCells, loadCells] <;> rfl
  · obtain ⟨b, o, rfl, _, hc⟩ := hr (by omega)
    have hcells : ∀ j u, (ys.map (Value.int .i64))[j]? = some u → w.cell? ((⟨b, o, none⟩ : Addr).add j) = some u := by
      intro j u hu
      have hj : j < ys.length := by
        rcases Nat.lt_or_ge j ys.length with hlt | hge
        · exact hlt
        · simp [List.getElem?_eq_none hge] at hu
      rw [add_plain', hc j hj]
      simp [List.getElem?_eq_getElem hj] at hu
      subst hu
      simp [List.getElem?_eq_getElem hj]
    obtain ⟨v', w', hrun, h2, h3, _, h5⟩ := run_append_own_at (P := P) w base t ty e i z 1 8 ht hi hz hsize hby hzs (by omega) v xs.length (xs.map (Value.int .i64)) hown ⟨b, o, none⟩ m c (ys.map (Value.int .i64)) (by simpa using hm) hcells
      (fun u hu => by simp at hu; obtain ⟨x, _, rfl⟩ := hu; rfl) (by simp only [maxLen]; omega) (by omega) hbase
    refine ⟨v', w', hrun, ?_, h3, h5⟩
    unfold OwnI
    rw [List.length_append, List.map_append, hm]
    exact h2

theorem wp_append_ints {o : Oper} {a : Act} {K : Act → World → Prop} {Q : Exit → Act → World → Prop} (s x : Operand) (t : TypeId)
    (ho : o.op = .call { callee := .builtin .append, args := #[s, x], argTypes := #[t, t] })
    (base : Nat) (e : TypeId) (i : TypeInfo) (z : Value) (ht : P.underlying t = some (.slice e)) (hi : P.info? e = some i) (hz : i.zero = some z)
    (hsize : i.size = 1) (hby : i.bytes = 8) (hzs : z.cells.size = 1)
    (v : Value) (xs : List Int) (hs : a.eval s = v) (hown : OwnI w base e v xs)
    (B : Nat) (A : Option Addr) (m c : Nat) (ys : List Int) (hm : ys.length = m) (hx : a.eval x = .slice A m c) (hr : IIn w B A ys)
    (h63 : xs.length + ys.length ≤ 17592186044416) (hbase : base ≤ w.heap.size)
    (h : ∀ A' c' w', OwnI w' base e (.slice A' (xs.length + m) c') (xs ++ ys) → w.grownBy w' v.ownBlock → ((Value.slice A' (xs.length + m) c').ownBlock = v.ownBlock ∨ (Value.slice A' (xs.length + m) c').ownBlock = some w.heap.size) → K (a.put o.dst (.slice A' (xs.length + m) c')) w') : o.wp P a w K Q := by
  obtain ⟨v', w', hrun, h2, h3, h4⟩ := run_append_ints (P := P) w base t o.type e i z ht hi hz hsize hby hzs v xs hown B A m c ys hm hr h63 hbase
  obtain ⟨A', c', rfl, _⟩ := h2.form
  unfold Oper.wp execOp
  simp only [ho, resolve, invoke, builtin, Sem.run_bind, Sem.run_pure, Result.andThen_ok, List.map_toArray, List.map_cons, List.map_nil, hs, hx, hrun]
  have hl : (xs ++ ys).length = xs.length + m := by rw [List.length_append, hm]
  rw [hl] at h2 h4 ⊢
  exact h A' c' w' h2 h3 h4

theorem wpList_append_ints {ops : Array Oper} {rest : List Oper} {o : Oper} {a : Act} {Q : Exit → Act → World → Prop} (hgd : o.guard = none) (s x : Operand) (t : TypeId)
    (ho : o.op = .call { callee := .builtin .append, args := #[s, x], argTypes := #[t, t] })
    (base : Nat) (e : TypeId) (i : TypeInfo) (z : Value) (ht : P.underlying t = some (.slice e)) (hi : P.info? e = some i) (hz : i.zero = some z)
    (hsize : i.size = 1) (hby : i.bytes = 8) (hzs : z.cells.size = 1)
    (v : Value) (xs : List Int) (hs : a.eval s = v) (hown : OwnI w base e v xs)
    (B : Nat) (A : Option Addr) (m c : Nat) (ys : List Int) (hm : ys.length = m) (hx : a.eval x = .slice A m c) (hr : IIn w B A ys)
    (h63 : xs.length + ys.length ≤ 17592186044416) (hbase : base ≤ w.heap.size)
    (h : ∀ A' c' w', OwnI w' base e (.slice A' (xs.length + m) c') (xs ++ ys) → w.grownBy w' v.ownBlock → ((Value.slice A' (xs.length + m) c').ownBlock = v.ownBlock ∨ (Value.slice A' (xs.length + m) c').ownBlock = some w.heap.size) → wpList P ops Q rest (a.put o.dst (.slice A' (xs.length + m) c')) w') : wpList P ops Q (o :: rest) a w :=
  wpList_plain hgd fun _ hK => wp_append_ints w s x t ho base e i z ht hi hz hsize hby hzs v xs hs hown B A m c ys hm hx hr h63 hbase fun A' c' w' h2 h3 h4 => hK _ _ (h A' c' w' h2 h3 h4)

theorem step_append_ints {ops : Array Oper} {o : Oper} {a : Act} {K : Act → World → Prop} {Q : Exit → Act → World → Prop} {E : Prop} (hgd : o.guard = none) (s x : Operand) (t : TypeId)
    (ho : o.op = .call { callee := .builtin .append, args := #[s, x], argTypes := #[t, t] })
    (base : Nat) (e : TypeId) (i : TypeInfo) (z : Value) (ht : P.underlying t = some (.slice e)) (hi : P.info? e = some i) (hz : i.zero = some z)
    (hsize : i.size = 1) (hby : i.bytes = 8) (hzs : z.cells.size = 1)
    (v : Value) (xs : List Int) (hs : a.eval s = v) (hown : OwnI w base e v xs)
    (B : Nat) (A : Option Addr) (m c : Nat) (ys : List Int) (hm : ys.length = m) (hx : a.eval x = .slice A m c) (hr : IIn w B A ys)
    (h63 : xs.length + ys.length ≤ 17592186044416) (hbase : base ≤ w.heap.size)
    (h : ∀ A' c' w', OwnI w' base e (.slice A' (xs.length + m) c') (xs ++ ys) → w.grownBy w' v.ownBlock → ((Value.slice A' (xs.length + m) c').ownBlock = v.ownBlock ∨ (Value.slice A' (xs.length + m) c').ownBlock = some w.heap.size) → K (a.put o.dst (.slice A' (xs.length + m) c')) w') :
    if Region.wanted o (yielded ops a.tmps) = true then Oper.wp P o a w K Q else E := by
  have hw : Region.wanted o (yielded ops a.tmps) = true := by simp [Region.wanted, hgd]
  rw [if_pos hw]
  exact wp_append_ints w s x t ho base e i z ht hi hz hsize hby hzs v xs hs hown B A m c ys hm hx hr h63 hbase h
end
end Go.Proofs.Ytdnepnnkpaoaaaa
