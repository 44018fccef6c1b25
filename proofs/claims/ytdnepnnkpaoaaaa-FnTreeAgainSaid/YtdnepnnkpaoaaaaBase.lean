/- Words for what a call of this program does to memory: bytes that lie somewhere below a block number, a block that is known whole, a frame that names the blocks that may have turned. No condition of the statements stands here. -/
import Derived.Below
import Derived.Laws.OwnMore
import Derived.Deep.AppendLies
import Derived.Deep.Draws
import Derived.Laws.Rows
import Derived.Laws.BytesArg
import Derived.Maps.AppendAt
import Derived.RegionTactic
import Derived.OwnWalk
namespace Go.Proofs.Ytdnepnnkpaoaaaa
open Go.RowKit

theorem block_of_add (a : Addr) (n : Nat) : (a.add n).block = a.block := by unfold Addr.add; split <;> rfl
theorem add_plain' (b o n : Nat) : (⟨b, o, none⟩ : Addr).add n = ⟨b, o + n, none⟩ := by unfold Addr.add; split <;> simp_all

/-- Each number of the list is a byte's. -/
def Byt (xs : List Int) : Prop := ∀ x ∈ xs, 0 ≤ x ∧ x < 256

theorem Byt.getD {xs : List Int} (h : Byt xs) (i : Nat) : 0 ≤ xs.getD i 0 ∧ xs.getD i 0 < 256 := by
  by_cases hi : i < xs.length
  · rw [List.getD_eq_getElem?_getD, List.getElem?_eq_getElem hi]; exact h _ (List.getElem_mem hi)
  · rw [List.getD_eq_getElem?_getD, List.getElem?_eq_none (by omega)]; simp
theorem Byt.take {xs : List Int} (h : Byt xs) (n : Nat) : Byt (xs.take n) := fun x hx => h x (List.mem_of_mem_take hx)
theorem Byt.drop {xs : List Int} (h : Byt xs) (n : Nat) : Byt (xs.drop n) := fun x hx => h x (List.mem_of_mem_drop hx)
theorem Byt.append {xs ys : List Int} (h : Byt xs) (k : Byt ys) : Byt (xs ++ ys) := fun x hx => (List.mem_append.1 hx).elim (h x) (k x)
theorem Byt.nil : Byt [] := fun _ h => by cases h
theorem Byt.one {x : Int} (h0 : 0 ≤ x) (h1 : x < 256) : Byt [x] := fun y hy => by simp at hy; subst hy; exact ⟨h0, h1⟩

/-- The address 'a' leads to the bytes xs, below block B. Of no byte: whatever the address. -/
def BIn (w : World) (B : Nat) (a : Option Addr) (xs : List Int) : Prop :=
  0 < xs.length → ∃ b o, a = some ⟨b, o, none⟩ ∧ b < B ∧ ∀ i, i < xs.length → w.cell? ⟨b, o + i, none⟩ = some (.int .u8 (xs.getD i 0))

/-- The address of 's[k:]'. -/
def cutA (a : Option Addr) (c k : Nat) : Option Addr := if c = k then a else a.map (·.add k)

section
variable {w w' : World} {B B' : Nat} {a : Option Addr} {xs : List Int}
theorem BIn.nil (w : World) (B : Nat) (a : Option Addr) : BIn w B a [] := fun h => absurd h (by simp)
theorem BIn.drew (h : BIn w B a xs) : BIn w.drew B a xs := h
theorem BIn.keep (h : BIn w B a xs) (hk : ∀ p : Addr, p.block < B → w'.cell? p = w.cell? p) : BIn w' B a xs := fun hn => by
  obtain ⟨b, o, e, hb, hc⟩ := h hn
  exact ⟨b, o, e, hb, fun i hi => (hk _ hb).trans (hc i hi)⟩
theorem BIn.more (h : BIn w B a xs) (hB : B ≤ B') : BIn w B' a xs := fun hn => by
  obtain ⟨b, o, e, hb, hc⟩ := h hn
  exact ⟨b, o, e, by omega, hc⟩
theorem BIn.below (h : BIn w B a xs) (hb : Below B w w') : BIn w' B a xs := h.keep fun _ hp => hb.cell hp
theorem BIn.lt (h : BIn w B a xs) : BIn w w.heap.size a xs := fun hn => by
  obtain ⟨b, o, e, hb, hc⟩ := h hn
  exact ⟨b, o, e, World.block_lt_of_cell? w _ (hc 0 hn), hc⟩
theorem BIn.take (h : BIn w B a xs) (n : Nat) : BIn w B a (xs.take n) := fun hn => by
  have hn' : 0 < xs.length ∧ 0 < n := by simp at hn; omega
  obtain ⟨b, o, e, hb, hc⟩ := h hn'.1
  refine ⟨b, o, e, hb, fun i hi => ?_⟩
  have hi' : i < n ∧ i < xs.length := by simp at hi; omega
  rw [hc i hi'.2]
  simp [List.getD_eq_getElem?_getD, hi'.1]
theorem BIn.cut (h : BIn w B a xs) {c k : Nat} (hc : xs.length ≤ c) : BIn w B (cutA a c k) (xs.drop k) := fun hn => by
  have hn' : k < xs.length := by simp at hn; omega
  obtain ⟨b, o, e, hb, hcell⟩ := h (by omega)
  subst e
  unfold cutA
  rw [if_neg (by omega)]
  refine ⟨b, o + k, by simp [add_plain'], hb, fun i hi => ?_⟩
  have hi' : k + i < xs.length := by simp at hi; omega
  rw [Nat.add_assoc, hcell _ hi']
  simp [List.getD_eq_getElem?_getD, List.getElem?_drop]
theorem BIn.at_ (h : BIn w B a xs) {i : Nat} (hi : i < xs.length) : ∃ b o, a = some ⟨b, o, none⟩ ∧ b < B ∧ w.cell? ⟨b, o + i, none⟩ = some (.int .u8 (xs.getD i 0)) := by
  obtain ⟨b, o, e, hb, hc⟩ := h (by omega)
  exact ⟨b, o, e, hb, hc i hi⟩
end

/-! ### A block that is known whole -/
def Blk (w : World) (g : Nat) (t : TypeId) (cs : Array Value) : Prop := w.heap[g]? = some (.cells cs t (0, 0))

section
variable {w w' : World} {g : Nat} {t : TypeId} {cs : Array Value}
theorem Blk.lt (h : Blk w g t cs) : g < w.heap.size := by
  rcases Nat.lt_or_ge g w.heap.size with hlt | hge
  · exact hlt
  · unfold Blk at h; rw [Array.getElem?_eq_none hge] at h; cases h
theorem Blk.cell (h : Blk w g t cs) (i : Nat) : w.cell? ⟨g, i, none⟩ = cs[i]? := cell_of_row w g i cs t (0, 0) h
theorem Blk.one {v : Value} (h : Blk w g t #[v]) : w.cell? ⟨g, 0, none⟩ = some v := h.cell 0
theorem Blk.frozen (h : Blk w g t cs) (i : Nat) : w.frozen? ⟨g, i, none⟩ = false := by
  unfold Blk at h
  simp [World.frozen?, h]
theorem Blk.new (w : World) (t : TypeId) (cs : Array Value) : Blk (w.alloc (.cells cs t)) w.heap.size t cs := heap_alloc_new w _
theorem Blk.new' {w : World} {g : Nat} (h : w.heap.size = g) (t : TypeId) (cs : Array Value) : Blk (w.alloc (.cells cs t)) g t cs := h ▸ Blk.new w t cs
theorem Blk.drew (h : Blk w g t cs) : Blk w.drew g t cs := h
theorem Blk.drewN (h : Blk w g t cs) (n : Nat) : Blk (w.drewN n) g t cs := h
theorem Blk.alloc (h : Blk w g t cs) (o : Obj) : Blk (w.alloc o) g t cs := (Below.heap_alloc w o g h.lt).trans h
theorem Blk.set_ (h : Blk w g t cs) (i : Nat) (u : Value) : Blk (w.setCell ⟨g, i, none⟩ u) g t (cs.setIfInBounds i u) := by
  unfold Blk at h ⊢
  simp [World.setCell, Array.getElem?_modify, h]
theorem Blk.far (h : Blk w g t cs) {p : Addr} (hp : g ≠ p.block) (u : Value) : Blk (w.setCell p u) g t cs := (Below.heap_setCell w p u g hp).trans h
theorem Blk.below {B : Nat} (h : Blk w g t cs) (hb : Below B w w') (hg : g < B) : Blk w' g t cs := (hb.block g hg).trans h
theorem Blk.grown {row : Option Nat} (h : Blk w g t cs) (hb : w.grownBy w' row) (hg : some g ≠ row) : Blk w' g t cs := (hb.block g h.lt hg).trans h
end

/-! ### A frame that names the blocks that may have turned -/
structure Fr (S : List Nat) (w w' : World) : Prop where
  os : w'.os = w.os
  tape : w'.tape = w.tape
  output : w'.output = w.output
  size : w.heap.size ≤ w'.heap.size
  block : ∀ k, k < w.heap.size → k ∉ S → w'.heap[k]? = w.heap[k]?

section
variable {S S' : List Nat} {w w' w'' : World} {B g : Nat} {t : TypeId} {cs : Array Value}
theorem Fr.refl (S : List Nat) (w : World) : Fr S w w := ⟨rfl, rfl, rfl, Nat.le_refl _, fun _ _ _ => rfl⟩
/-- Two steps: what the second may turn is on the list, or new. -/
theorem Fr.trans (h : Fr S w w') (k : Fr S' w' w'') (hs : ∀ i ∈ S', i ∈ S ∨ w.heap.size ≤ i) : Fr S w w'' :=
  ⟨k.os.trans h.os, k.tape.trans h.tape, k.output.trans h.output, Nat.le_trans h.size k.size, fun i hi hn =>
    (k.block i (Nat.lt_of_lt_of_le hi h.size) (fun e => by rcases hs i e with h1 | h1; exact hn h1; omega)).trans (h.block i hi hn)⟩
theorem Fr.mono (h : Fr S w w') (hs : ∀ i ∈ S, i ∈ S') : Fr S' w w' := ⟨h.os, h.tape, h.output, h.size, fun k hk hn => h.block k hk fun e => hn (hs k e)⟩
theorem Fr.alloc (h : Fr S w w') (o : Obj) : Fr S w (w'.alloc o) :=
  ⟨h.os, h.tape, h.output, Nat.le_trans h.size (by simp), fun k hk hn => (Below.heap_alloc _ _ _ (Nat.lt_of_lt_of_le hk h.size)).trans (h.block k hk hn)⟩
theorem Fr.drew (h : Fr S w w') : Fr S w w'.drew := ⟨h.os, h.tape, h.output, h.size, h.block⟩
theorem Fr.drewN (h : Fr S w w') (n : Nat) : Fr S w (w'.drewN n) := ⟨h.os, h.tape, h.output, h.size, h.block⟩
theorem Fr.set_ (h : Fr S w w') {p : Addr} (hp : p.block ∈ S ∨ w.heap.size ≤ p.block) (u : Value) : Fr S w (w'.setCell p u) :=
  ⟨h.os, h.tape, h.output, by simpa [World.setCell] using h.size, fun k hk hn => (Below.heap_setCell _ _ _ _ (fun e => by subst e; rcases hp with h1 | h1; exact hn h1; omega)).trans (h.block k hk hn)⟩
theorem Fr.of_below (h : Below w.heap.size w w') (S : List Nat) : Fr S w w' := ⟨h.os, h.tape, h.output, h.size, fun k hk _ => h.block k hk⟩
theorem Fr.below (h : Fr S w w') (hs : ∀ i ∈ S, B ≤ i) (hB : B ≤ w.heap.size) : Below B w w' :=
  ⟨h.os, h.tape, h.output, h.size, fun k hk => h.block k (by omega) (fun e => by have := hs k e; omega)⟩
theorem Fr.blk (h : Fr S w w') (k : Blk w g t cs) (hg : g ∉ S) : Blk w' g t cs := (h.block g k.lt hg).trans k
theorem Fr.bin {a : Option Addr} {xs : List Int} (h : Fr S w w') (k : BIn w B a xs) (hs : ∀ i ∈ S, B ≤ i) : BIn w' B a xs := fun hn => by
  obtain ⟨b, o, e, hb, hc⟩ := k hn
  refine ⟨b, o, e, hb, fun i hi => ?_⟩
  have hlt := World.block_lt_of_cell? w _ (hc i hi)
  exact (World.cell?_of_block (w := w) (h.block b hlt (fun e => by have := hs b e; omega))).trans (hc i hi)
theorem Fr.grown {row : Option Nat} (h : Fr S w w') (hg : w'.grownBy w'' row) (hr : ∀ k, row = some k → k ∈ S ∨ w.heap.size ≤ k) : Fr S w w'' :=
  ⟨hg.os.trans h.os, hg.tape.trans h.tape, hg.output.trans h.output, Nat.le_trans h.size hg.size, fun k hk hn =>
    (hg.block k (Nat.lt_of_lt_of_le hk h.size) (fun e => by rcases hr k e.symm with h1 | h1; exact hn h1; omega)).trans (h.block k hk hn)⟩
end

/-- A slice that the call itself has made: its bytes. -/
theorem BIn.of_own {w : World} {base e n c : Nat} {a : Option Addr} {xs : List Int} (h : w.ownsRow base e 1 (.slice a n c) n (xs.map (Value.int .u8))) : BIn w w.heap.size a xs := fun hn => by
  have hl : xs.length = n := by simpa using h.1
  obtain ⟨g, cap, hv, _, hlt⟩ := h.form (by omega)
  have hA : a = some ⟨g, 0, none⟩ := by injection hv
  subst hA
  refine ⟨g, 0, rfl, hlt, fun i hi => ?_⟩
  have := h.cells (g := g) rfl i (.int .u8 (xs.getD i 0)) (by simp [List.getElem?_map, List.getElem?_eq_getElem hi])
  rwa [add_plain'] at this
/-! ### append of bytes onto a row of the call's own, the source nil, empty or not -/
/-- The slice value v is nil, or begins a row of the call's own (blocks from base on) that holds these bytes. -/
def OwnB (w : World) (base e : Nat) (v : Value) (xs : List Int) : Prop := w.ownsRow base e 1 v xs.length (xs.map (Value.int .u8))

theorem OwnB.nil (w : World) (base e : Nat) : OwnB w base e (.slice none 0 0) [] := ⟨by simp, .inl ⟨rfl, rfl⟩⟩
theorem OwnB.form {w : World} {base e : Nat} {v : Value} {xs : List Int} (h : OwnB w base e v xs) : ∃ a c, v = .slice a xs.length c ∧ xs.length ≤ c ∧ c ≤ maxLen ∧ (a = none → xs = [] ∧ c = 0) ∧ (∀ b, a = some b → b.off = 0 ∧ b.spot = none ∧ base ≤ b.block ∧ b.block < w.heap.size) := by
  rcases h.2 with ⟨rfl, h0⟩ | ⟨g, cap, cur, rfl, hb, hg, hn, hm, _⟩
  · exact ⟨none, 0, by rw [h0], by omega, by simp [maxLen], fun _ => ⟨List.eq_nil_of_length_eq_zero h0, rfl⟩, fun b hb => by cases hb⟩
  · refine ⟨some ⟨g, 0, none⟩, cap, rfl, hn, hm, (fun h => by cases h), fun b hb' => ?_⟩
    injection hb' with hb'
    subst hb'
    exact ⟨rfl, rfl, hb, (Array.getElem?_eq_some_iff.1 hg).1⟩
theorem OwnB.bin {w : World} {base e n c : Nat} {a : Option Addr} {xs : List Int} (h : OwnB w base e (.slice a n c) xs) (hn : xs.length = n) : BIn w w.heap.size a xs := by
  subst hn
  exact BIn.of_own h
theorem OwnB.alloc {w : World} {base e : Nat} {v : Value} {xs : List Int} (h : OwnB w base e v xs) (o : Obj) : OwnB (w.alloc o) base e v xs := World.ownsRow.alloc h o
theorem OwnB.more {w : World} {base base' e : Nat} {v : Value} {xs : List Int} (h : OwnB w base e v xs) (hb : base' ≤ base) : OwnB w base' e v xs :=
  ⟨h.1, h.2.imp id fun ⟨g, cap, cur, h1, h2, h3⟩ => ⟨g, cap, cur, h1, by omega, h3⟩⟩
/-- What a frame leaves of a row: its block is not on the list. -/
theorem OwnB.fr {S : List Nat} {w w' : World} {base e : Nat} {v : Value} {xs : List Int} (h : OwnB w base e v xs) (hf : Fr S w w') (hs : ∀ g, v.ownBlock = some g → g ∉ S) : OwnB w' base e v xs := by
  refine ⟨h.1, h.2.imp id fun ⟨g, cap, cur, h1, h2, h3, h4⟩ => ⟨g, cap, cur, h1, h2, ?_, h4⟩⟩
  rw [hf.block g (Array.getElem?_eq_some_iff.1 h3).1 (hs g (by rw [h1]; rfl))]
  exact h3

section
variable {P : Program} (w : World)

theorem run_append_bytes (base : Nat) (t ty e : TypeId) (i : TypeInfo) (z : Value) (ht : P.underlying t = some (.slice e)) (hi : P.info? e = some i) (hz : i.zero = some z)
    (hsize : i.size = 1) (hby : i.bytes = 1) (hzs : z.cells.size = 1)
    (v : Value) (xs : List Int) (hown : OwnB w base e v xs)
    (B : Nat) (A : Option Addr) (m c : Nat) (ys : List Int) (hm : ys.length = m) (hr : BIn w B A ys)
    (h63 : xs.length + ys.length ≤ 70368744177664) (hbase : base ≤ w.heap.size) :
    ∃ v' w', (Builtin.append_ #[t, t] ty #[v, .slice A m c]).run P w = .ok v' w' ∧ OwnB w' base e v' (xs ++ ys) ∧ w.grownBy w' v.ownBlock ∧
      (v'.ownBlock = v.ownBlock ∨ v'.ownBlock = some w.heap.size) := by
  by_cases h0 : m = 0
  · subst h0
    have hn : ys = [] := List.eq_nil_of_length_eq_zero hm
    subst hn
    rw [List.append_nil]
    refine ⟨v, w, ?_, hown, World.grownBy.refl w _, .inl rfl⟩
    rcases hown.2 with ⟨rfl, _⟩ | ⟨g, cap, cur, rfl, _, _, hnc, _⟩
    · cases A <;> simp [Builtin.append_, run_underlying ht, sizeOf, typeInfo, hi, Builtin.lenOf, Builtin.firstCells, loadCells] <;> rfl
    · cases A <;> simp [Builtin.append_, run_underlying ht, sizeOf, typeInfo, hi, Builtin.lenOf, Builtin.firstCells, hnc, storeCells, loadCells] <;> rfl
  · obtain ⟨b, o, rfl, _, hc⟩ := hr (by omega)
    have hcells : ∀ j u, (ys.map (Value.int .u8))[j]? = some u → w.cell? ((⟨b, o, none⟩ : Addr).add j) = some u := by
      intro j u hu
      have hj : j < ys.length := by
        rcases Nat.lt_or_ge j ys.length with hlt | hge
        · exact hlt
        · simp [List.getElem?_eq_none hge] at hu
      rw [add_plain', hc j hj]
      simp [List.getElem?_eq_getElem hj] at hu
      subst hu
      simp [List.getElem?_eq_getElem hj]
    obtain ⟨v', w', hrun, h2, h3, _, h5⟩ := run_append_own_at (P := P) w base t ty e i z 1 1 ht hi hz hsize hby hzs (by omega) v xs.length (xs.map (Value.int .u8)) hown ⟨b, o, none⟩ m c (ys.map (Value.int .u8)) (by simpa using hm) hcells
      (fun u hu => by simp at hu; obtain ⟨x, _, rfl⟩ := hu; rfl) (by simp only [maxLen]; omega) (by omega) hbase
    refine ⟨v', w', hrun, ?_, h3, h5⟩
    unfold OwnB
    rw [List.length_append, List.map_append, hm]
    exact h2

theorem wp_append_bytes {o : Oper} {a : Act} {K : Act → World → Prop} {Q : Exit → Act → World → Prop} (s x : Operand) (t : TypeId)
    (ho : o.op = .call { callee := .builtin .append, args := #[s, x], argTypes := #[t, t] })
    (base : Nat) (e : TypeId) (i : TypeInfo) (z : Value) (ht : P.underlying t = some (.slice e)) (hi : P.info? e = some i) (hz : i.zero = some z)
    (hsize : i.size = 1) (hby : i.bytes = 1) (hzs : z.cells.size = 1)
    (v : Value) (xs : List Int) (hs : a.eval s = v) (hown : OwnB w base e v xs)
    (B : Nat) (A : Option Addr) (m c : Nat) (ys : List Int) (hm : ys.length = m) (hx : a.eval x = .slice A m c) (hr : BIn w B A ys)
    (h63 : xs.length + ys.length ≤ 70368744177664) (hbase : base ≤ w.heap.size)
    (h : ∀ A' c' w', OwnB w' base e (.slice A' (xs.length + m) c') (xs ++ ys) → w.grownBy w' v.ownBlock → ((Value.slice A' (xs.length + m) c').ownBlock = v.ownBlock ∨ (Value.slice A' (xs.length + m) c').ownBlock = some w.heap.size) → K (a.put o.dst (.slice A' (xs.length + m) c')) w') : o.wp P a w K Q := by
  obtain ⟨v', w', hrun, h2, h3, h4⟩ := run_append_bytes (P := P) w base t o.type e i z ht hi hz hsize hby hzs v xs hown B A m c ys hm hr h63 hbase
  obtain ⟨A', c', rfl, _⟩ := h2.form
  unfold Oper.wp execOp
  simp only [ho, resolve, invoke, builtin, Sem.run_bind, Sem.run_pure, Result.andThen_ok, List.map_toArray, List.map_cons, List.map_nil, hs, hx, hrun]
  have hl : (xs ++ ys).length = xs.length + m := by rw [List.length_append, hm]
  rw [hl] at h2 h4 ⊢
  exact h A' c' w' h2 h3 h4

theorem wpList_append_bytes {ops : Array Oper} {rest : List Oper} {o : Oper} {a : Act} {Q : Exit → Act → World → Prop} (hgd : o.guard = none) (s x : Operand) (t : TypeId)
    (ho : o.op = .call { callee := .builtin .append, args := #[s, x], argTypes := #[t, t] })
    (base : Nat) (e : TypeId) (i : TypeInfo) (z : Value) (ht : P.underlying t = some (.slice e)) (hi : P.info? e = some i) (hz : i.zero = some z)
    (hsize : i.size = 1) (hby : i.bytes = 1) (hzs : z.cells.size = 1)
    (v : Value) (xs : List Int) (hs : a.eval s = v) (hown : OwnB w base e v xs)
    (B : Nat) (A : Option Addr) (m c : Nat) (ys : List Int) (hm : ys.length = m) (hx : a.eval x = .slice A m c) (hr : BIn w B A ys)
    (h63 : xs.length + ys.length ≤ 70368744177664) (hbase : base ≤ w.heap.size)
    (h : ∀ A' c' w', OwnB w' base e (.slice A' (xs.length + m) c') (xs ++ ys) → w.grownBy w' v.ownBlock → ((Value.slice A' (xs.length + m) c').ownBlock = v.ownBlock ∨ (Value.slice A' (xs.length + m) c').ownBlock = some w.heap.size) → wpList P ops Q rest (a.put o.dst (.slice A' (xs.length + m) c')) w') : wpList P ops Q (o :: rest) a w :=
  wpList_plain hgd fun _ hK => wp_append_bytes w s x t ho base e i z ht hi hz hsize hby hzs v xs hs hown B A m c ys hm hx hr h63 hbase fun A' c' w' h2 h3 h4 => hK _ _ (h A' c' w' h2 h3 h4)

theorem step_append_bytes {ops : Array Oper} {o : Oper} {a : Act} {K : Act → World → Prop} {Q : Exit → Act → World → Prop} {E : Prop} (hgd : o.guard = none) (s x : Operand) (t : TypeId)
    (ho : o.op = .call { callee := .builtin .append, args := #[s, x], argTypes := #[t, t] })
    (base : Nat) (e : TypeId) (i : TypeInfo) (z : Value) (ht : P.underlying t = some (.slice e)) (hi : P.info? e = some i) (hz : i.zero = some z)
    (hsize : i.size = 1) (hby : i.bytes = 1) (hzs : z.cells.size = 1)
    (v : Value) (xs : List Int) (hs : a.eval s = v) (hown : OwnB w base e v xs)
    (B : Nat) (A : Option Addr) (m c : Nat) (ys : List Int) (hm : ys.length = m) (hx : a.eval x = .slice A m c) (hr : BIn w B A ys)
    (h63 : xs.length + ys.length ≤ 70368744177664) (hbase : base ≤ w.heap.size)
    (h : ∀ A' c' w', OwnB w' base e (.slice A' (xs.length + m) c') (xs ++ ys) → w.grownBy w' v.ownBlock → ((Value.slice A' (xs.length + m) c').ownBlock = v.ownBlock ∨ (Value.slice A' (xs.length + m) c').ownBlock = some w.heap.size) → K (a.put o.dst (.slice A' (xs.length + m) c')) w') :
    if Region.wanted o (yielded ops a.tmps) = true then Oper.wp P o a w K Q else E := by
  have hw : Region.wanted o (yielded ops a.tmps) = true := by simp [Region.wanted, hgd]
  rw [if_pos hw]
  exact wp_append_bytes w s x t ho base e i z ht hi hz hsize hby hzs v xs hs hown B A m c ys hm hx hr h63 hbase h
end
end Go.Proofs.Ytdnepnnkpaoaaaa
