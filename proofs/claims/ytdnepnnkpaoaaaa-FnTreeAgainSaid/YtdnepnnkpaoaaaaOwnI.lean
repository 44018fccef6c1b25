/- Rows of steps that a call has made itself: append onto them. -/
import Derived.Test.YtdnepnnkpaoaaaaWKit
namespace Go.Proofs.Ytdnepnnkpaoaaaa
open Go.RowKit
set_option linter.unusedVariables false

theorem item_info : (Try.prog.info? 45).map (fun i => (i.zero.map (fun z => z.cells.size), i.size, i.bytes)) = some (some 6, 6, 96) := by kernel_rfl
theorem item_parts : ∃ i z, Try.prog.info? 45 = some i ∧ i.zero = some z ∧ i.size = 6 ∧ i.bytes = 96 ∧ z.cells.size = 6 := by
  have h := item_info
  cases hi : Try.prog.info? 45 with
  | none => rw [hi] at h; cases h
  | some i =>
    rw [hi] at h
    simp only [Option.map_some, Option.some.injEq, Prod.mk.injEq] at h
    obtain ⟨h1, h2, h3⟩ := h
    cases hz : i.zero with
    | none => rw [hz] at h1; cases h1
    | some z =>
      rw [hz] at h1
      simp only [Option.map_some, Option.some.injEq] at h1
      exact ⟨i, z, rfl, hz, h2, h3, h1⟩

/-- The six cells of a step; all that they lead to lies below block B. -/
def ItV6 (w : World) (B : Nat) : It → List Value → Prop
  | .mk kd n t d oi ks, cs => (-9223372036854775808 ≤ n ∧ n ≤ 9223372036854775807) ∧ ∃ a3 c3 a4 c4 a5 c5, cs = [.int .i64 kd, .int .i64 n, .int .i64 t, .slice a3 d.length c3, .slice a4 oi.length c4, .slice a5 ks.length c5] ∧
    (d.length ≤ c3 ∧ c3 ≤ maxLen ∧ BIn w B a3 d ∧ Byt d) ∧ (oi.length ≤ c4 ∧ c4 ≤ maxLen ∧ IIn w B a4 oi) ∧ (ks.length ≤ c5 ∧ c5 ≤ maxLen ∧ ItsIn w B a5 ks)
/-- The cells of steps, one behind the other. -/
def ItCs (w : World) (B : Nat) : List It → List Value → Prop
  | [], cs => cs = []
  | x :: xs, cs => ∃ c1 c2, cs = c1 ++ c2 ∧ ItV6 w B x c1 ∧ ItCs w B xs c2

theorem ItV6.len {w : World} {B : Nat} {x : It} {cs : List Value} (h : ItV6 w B x cs) : cs.length = 6 := by
  obtain ⟨kd, n, t, d, oi, ks⟩ := x
  obtain ⟨_, a3, c3, a4, c4, a5, c5, rfl, _⟩ := h
  rfl
theorem ItV6.one {w : World} {B : Nat} {x : It} {cs : List Value} (h : ItV6 w B x cs) : ∀ u ∈ cs, u.oneCell' = true := by
  obtain ⟨kd, n, t, d, oi, ks⟩ := x
  obtain ⟨_, a3, c3, a4, c4, a5, c5, rfl, _⟩ := h
  intro u hu
  simp only [List.mem_cons, List.not_mem_nil, or_false] at hu
  rcases hu with rfl | rfl | rfl | rfl | rfl | rfl <;> rfl
theorem ItV6.keep {w w' : World} {B : Nat} {x : It} {cs : List Value} (h : ItV6 w B x cs) (hk : ∀ p : Addr, p.block < B → w'.cell? p = w.cell? p) : ItV6 w' B x cs := by
  obtain ⟨kd, n, t, d, oi, ks⟩ := x
  obtain ⟨hn, a3, c3, a4, c4, a5, c5, h, ⟨h1, h2, h3, h4⟩, ⟨h5, h6, h7⟩, ⟨h8, h9, h10⟩⟩ := h
  exact ⟨hn, a3, c3, a4, c4, a5, c5, h, ⟨h1, h2, h3.keep hk, h4⟩, ⟨h5, h6, h7.keep hk⟩, ⟨h8, h9, h10.keep hk⟩⟩
theorem ItV6.more {w : World} {B B' : Nat} {x : It} {cs : List Value} (h : ItV6 w B x cs) (hB : B ≤ B') : ItV6 w B' x cs := by
  obtain ⟨kd, n, t, d, oi, ks⟩ := x
  obtain ⟨hn, a3, c3, a4, c4, a5, c5, h, ⟨h1, h2, h3, h4⟩, ⟨h5, h6, h7⟩, ⟨h8, h9, h10⟩⟩ := h
  exact ⟨hn, a3, c3, a4, c4, a5, c5, h, ⟨h1, h2, h3.more hB, h4⟩, ⟨h5, h6, h7.more hB⟩, ⟨h8, h9, h10.more hB⟩⟩
theorem ItCs.len {w : World} {B : Nat} : ∀ {its : List It} {cs : List Value}, ItCs w B its cs → cs.length = its.length * 6
  | [], cs, h => by unfold ItCs at h; subst h; rfl
  | x :: xs, cs, h => by
    unfold ItCs at h
    obtain ⟨c1, c2, rfl, h1, h2⟩ := h
    rw [List.length_append, h1.len, ItCs.len h2, List.length_cons]
    omega
theorem ItCs.one {w : World} {B : Nat} : ∀ {its : List It} {cs : List Value}, ItCs w B its cs → ∀ u ∈ cs, u.oneCell' = true
  | [], cs, h => by unfold ItCs at h; subst h; intro u hu; cases hu
  | x :: xs, cs, h => by
    unfold ItCs at h
    obtain ⟨c1, c2, rfl, h1, h2⟩ := h
    intro u hu
    rcases List.mem_append.1 hu with hu | hu
    · exact h1.one u hu
    · exact ItCs.one h2 u hu
theorem ItCs.keep {w w' : World} {B : Nat} (hk : ∀ p : Addr, p.block < B → w'.cell? p = w.cell? p) : ∀ {its : List It} {cs : List Value}, ItCs w B its cs → ItCs w' B its cs
  | [], cs, h => by unfold ItCs at h ⊢; exact h
  | x :: xs, cs, h => by
    unfold ItCs at h ⊢
    obtain ⟨c1, c2, e, h1, h2⟩ := h
    exact ⟨c1, c2, e, h1.keep hk, ItCs.keep hk h2⟩
theorem ItCs.more {w : World} {B B' : Nat} (hB : B ≤ B') : ∀ {its : List It} {cs : List Value}, ItCs w B its cs → ItCs w B' its cs
  | [], cs, h => by unfold ItCs at h ⊢; exact h
  | x :: xs, cs, h => by
    unfold ItCs at h ⊢
    obtain ⟨c1, c2, e, h1, h2⟩ := h
    exact ⟨c1, c2, e, h1.more hB, ItCs.more hB h2⟩
theorem ItCs.append {w : World} {B : Nat} {ys : List It} {ds : List Value} (k : ItCs w B ys ds) : ∀ {its : List It} {cs : List Value}, ItCs w B its cs → ItCs w B (its ++ ys) (cs ++ ds)
  | [], cs, h => by unfold ItCs at h; subst h; exact k
  | x :: xs, cs, h => by
    unfold ItCs at h
    obtain ⟨c1, c2, rfl, h1, h2⟩ := h
    rw [List.cons_append, List.append_assoc]
    unfold ItCs
    exact ⟨c1, c2 ++ ds, rfl, h1, ItCs.append k h2⟩
theorem ItCs.single {w : World} {B : Nat} {x : It} {cs : List Value} (h : ItV6 w B x cs) : ItCs w B [x] cs := ⟨cs, [], by simp, h, rfl⟩

/-- Steps in memory are their cells. -/
theorem ItsAt.cells {w : World} {B b : Nat} : ∀ {its : List It} {o : Nat}, ItsAt w B b o its → ∃ cs, ItCs w B its cs ∧ ∀ (j : Nat) u, cs[j]? = some u → w.cell? ⟨b, o + j, none⟩ = some u
  | [], o, h => ⟨[], rfl, fun j u hu => by simp at hu⟩
  | .mk kd n t d oi ks :: xs, o, h => by
    unfold ItsAt at h
    obtain ⟨h, h2⟩ := h
    obtain ⟨cs, k1, k2⟩ := ItsAt.cells h2
    unfold ItAt at h
    obtain ⟨g0, g1, g2, gn, ⟨a3, c3, g3, l3, m3, b3, y3⟩, ⟨a4, c4, g4, l4, m4, b4⟩, ⟨a5, c5, g5, l5, m5, k5⟩⟩ := h
    refine ⟨[.int .i64 kd, .int .i64 n, .int .i64 t, .slice a3 d.length c3, .slice a4 oi.length c4, .slice a5 ks.length c5] ++ cs, ⟨_, cs, rfl, ⟨gn, a3, c3, a4, c4, a5, c5, rfl, ⟨l3, m3, b3, y3⟩, ⟨l4, m4, b4⟩, ⟨l5, m5, k5⟩⟩, k1⟩, ?_⟩
    intro j u hu
    match j, hu with
    | 0, hu => simp only [List.cons_append, List.getElem?_cons_zero, Option.some.injEq] at hu; subst hu; exact g0
    | 1, hu => simp only [List.cons_append, List.getElem?_cons_succ, List.getElem?_cons_zero, Option.some.injEq] at hu; subst hu; exact g1
    | 2, hu => simp only [List.cons_append, List.getElem?_cons_succ, List.getElem?_cons_zero, Option.some.injEq] at hu; subst hu; exact g2
    | 3, hu => simp only [List.cons_append, List.getElem?_cons_succ, List.getElem?_cons_zero, Option.some.injEq] at hu; subst hu; exact g3
    | 4, hu => simp only [List.cons_append, List.getElem?_cons_succ, List.getElem?_cons_zero, Option.some.injEq] at hu; subst hu; exact g4
    | 5, hu => simp only [List.cons_append, List.getElem?_cons_succ, List.getElem?_cons_zero, Option.some.injEq] at hu; subst hu; exact g5
    | j + 6, hu =>
      simp only [List.cons_append, List.nil_append, List.getElem?_cons_succ] at hu
      have := k2 j u hu
      rwa [show o + 6 + j = o + (j + 6) by omega] at this
theorem ItCs.put {w : World} {B b : Nat} : ∀ {its : List It} {cs : List Value} {o : Nat}, ItCs w B its cs → (∀ (j : Nat) u, cs[j]? = some u → w.cell? ⟨b, o + j, none⟩ = some u) → ItsAt w B b o its
  | [], cs, o, h, hc => by unfold ItsAt; trivial
  | .mk kd n t d oi ks :: xs, cs, o, h, hc => by
    unfold ItCs at h
    obtain ⟨c1, c2, rfl, ⟨gn, a3, c3, a4, c4, a5, c5, rfl, ⟨l3, m3, b3, y3⟩, ⟨l4, m4, b4⟩, ⟨l5, m5, k5⟩⟩, h2⟩ := h
    unfold ItsAt
    refine ⟨?_, ItCs.put h2 fun j u hu => ?_⟩
    · unfold ItAt
      exact ⟨hc 0 _ rfl, hc 1 _ rfl, hc 2 _ rfl, gn, ⟨a3, c3, hc 3 _ rfl, l3, m3, b3, y3⟩, ⟨a4, c4, hc 4 _ rfl, l4, m4, b4⟩, ⟨a5, c5, hc 5 _ rfl, l5, m5, k5⟩⟩
    · have := hc (j + 6) u (by simpa using hu)
      rwa [show o + (j + 6) = o + 6 + j by omega] at this

theorem ItsIn.cells {w : World} {B : Nat} {a : Option Addr} {its : List It} (h : ItsIn w B a its) : ∃ cs, ItCs w B its cs ∧ (0 < its.length → ∃ b o, a = some ⟨b, o, none⟩ ∧ b < B ∧ ∀ (j : Nat) u, cs[j]? = some u → w.cell? ⟨b, o + j, none⟩ = some u) := by
  rcases h with rfl | ⟨b, o, rfl, hb, hi⟩
  · exact ⟨[], rfl, fun h => by simp at h⟩
  · obtain ⟨cs, k1, k2⟩ := ItsAt.cells hi
    exact ⟨cs, k1, fun _ => ⟨b, o, rfl, hb, k2⟩⟩
/-- A row of steps of the call's own is steps in memory. -/
theorem row_its {w : World} {base B : Nat} {a : Option Addr} {n c : Nat} {its : List It} {cs : List Value} (h : w.ownsRow base 45 6 (.slice a n c) its.length cs) (hc : ItCs w B its cs) (hB : B ≤ w.heap.size) : ItsIn w w.heap.size a its := by
  by_cases h0 : its = []
  · exact .inl h0
  · rcases h.2 with ⟨_, h1⟩ | ⟨g, cap, cur, hv, hb, hg, hn, hm, hs, ht⟩
    · exact absurd (List.eq_nil_of_length_eq_zero h1) h0
    · injection hv with hv _ _
      subst hv
      refine .inr ⟨g, 0, rfl, (Array.getElem?_eq_some_iff.1 hg).1, (ItCs.more hB hc).put fun j u hu => ?_⟩
      have := h.cells (g := g) rfl j u hu
      rwa [add_plain'] at this
theorem row_len {w : World} {base e s n c k : Nat} {a : Option Addr} {cs : List Value} (h : w.ownsRow base e s (.slice a n c) k cs) : n = k ∧ k ≤ c ∧ c ≤ maxLen := by
  rcases h.2 with ⟨hv, h1⟩ | ⟨g, cap, cur, hv, hb, hg, hn, hm, hs, ht⟩
  · injection hv with _ h2 h3; subst h2 h3 h1; exact ⟨rfl, Nat.le_refl _, by simp [maxLen]⟩
  · injection hv with _ h2 h3; subst h2 h3; exact ⟨rfl, hn, hm⟩

/-- A row grows: what lay below stands, and the steps in it are one list. -/
theorem row_step {w W u : World} {v : Value} {k : Nat} {xs news : List Value} {its js : List It} (hb : Below w.heap.size w W) (ho : W.ownsRow w.heap.size 45 6 v k xs) (hc : ItCs W w.heap.size its xs) (hj : ItCs W w.heap.size js news) (hg : W.grownBy u v.ownBlock) :
    Below w.heap.size w u ∧ ItCs u w.heap.size (its ++ js) (xs ++ news) := by
  have h1 : Below w.heap.size W u := (Below.refl w.heap.size W).grown hg hb.size (fun k hk => (World.ownsRow.lt ho k hk).1)
  exact ⟨hb.trans h1, ItCs.append (hj.keep fun p hp => h1.cell hp) (hc.keep fun p hp => h1.cell hp)⟩

section
variable {P : Program} (w : World)
/-- append of cells to a row of the call's own, the source nil or not. -/
theorem run_append_row (base : Nat) (t ty e : TypeId) (i : TypeInfo) (z : Value) (s b : Nat) (ht : P.underlying t = some (.slice e)) (hi : P.info? e = some i) (hz : i.zero = some z)
    (hsize : i.size = s) (hby : i.bytes = b) (hzs : z.cells.size = s) (hsz : 0 < s)
    (v : Value) (n : Nat) (xs : List Value) (hown : w.ownsRow base e s v n xs)
    (A : Option Addr) (m c : Nat) (news : List Value) (hl : news.length = m * s) (hnews : 0 < m → ∃ bb o, A = some ⟨bb, o, none⟩ ∧ ∀ (j : Nat) u, news[j]? = some u → w.cell? ⟨bb, o + j, none⟩ = some u) (h1 : ∀ u ∈ news, u.oneCell' = true)
    (h63 : n + m ≤ maxLen) (hbytes : (n + m) * b ≤ 140737488355328) (hbase : base ≤ w.heap.size) :
    ∃ A' c' w', (Builtin.append_ #[t, t] ty #[v, .slice A m c]).run P w = .ok (.slice A' (n + m) c') w' ∧ w'.ownsRow base e s (.slice A' (n + m) c') (n + m) (xs ++ news) ∧ w.grownBy w' v.ownBlock ∧
      ((Value.slice A' (n + m) c').ownBlock = v.ownBlock ∨ (Value.slice A' (n + m) c').ownBlock = some w.heap.size) := by
  by_cases h0 : m = 0
  · subst h0
    have hn : news = [] := List.eq_nil_of_length_eq_zero (by simpa using hl)
    subst hn
    rw [List.append_nil]
    rcases hown.2 with ⟨rfl, hn0⟩ | ⟨g, cap, cur, rfl, hb, hg, hnc, hm, hs, htk⟩
    · subst hn0
      refine ⟨none, 0, w, ?_, hown, World.grownBy.refl w _, .inl rfl⟩
      cases A <;> simp [Builtin.append_, run_underlying ht, sizeOf, typeInfo, hi, Builtin.lenOf, Builtin.firstCells, loadCells] <;> rfl
    · refine ⟨some ⟨g, 0, none⟩, cap, w, ?_, hown, World.grownBy.refl w _, .inl rfl⟩
      cases A <;> simp [Builtin.append_, run_underlying ht, sizeOf, typeInfo, hi, Builtin.lenOf, Builtin.firstCells, hnc, storeCells, loadCells] <;> rfl
  · obtain ⟨bb, o, rfl, hc⟩ := hnews (by omega)
    obtain ⟨v', w', hr, h2, h3, h4, h5⟩ := run_append_own_at (P := P) w base t ty e i z s b ht hi hz hsize hby hzs hsz v n xs hown ⟨bb, o, none⟩ m c news hl (fun j u hu => by rw [add_plain']; exact hc j u hu) h1 h63 hbytes hbase
    rcases h2.2 with ⟨rfl, hn0⟩ | ⟨g, cap, cur, rfl, hb, hg, hnc, hm, hs, htk⟩
    · omega
    · exact ⟨_, _, w', hr, h2, h3, h5⟩

theorem wp_append_row {o : Oper} {a : Act} {K : Act → World → Prop} {Q : Exit → Act → World → Prop} (s x : Operand) (t : TypeId)
    (ho : o.op = .call { callee := .builtin .append, args := #[s, x], argTypes := #[t, t] })
    (base : Nat) (e : TypeId) (i : TypeInfo) (z : Value) (sz b : Nat) (ht : P.underlying t = some (.slice e)) (hi : P.info? e = some i) (hz : i.zero = some z)
    (hsize : i.size = sz) (hby : i.bytes = b) (hzs : z.cells.size = sz) (hsz : 0 < sz)
    (v : Value) (n : Nat) (xs : List Value) (hs : a.eval s = v) (hown : w.ownsRow base e sz v n xs)
    (A : Option Addr) (m c : Nat) (news : List Value) (hx : a.eval x = .slice A m c) (hl : news.length = m * sz) (hnews : 0 < m → ∃ bb o, A = some ⟨bb, o, none⟩ ∧ ∀ (j : Nat) u, news[j]? = some u → w.cell? ⟨bb, o + j, none⟩ = some u) (h1 : ∀ u ∈ news, u.oneCell' = true)
    (h63 : n + m ≤ maxLen) (hbytes : (n + m) * b ≤ 140737488355328) (hbase : base ≤ w.heap.size)
    (h : ∀ A' c' w', w'.ownsRow base e sz (.slice A' (n + m) c') (n + m) (xs ++ news) → w.grownBy w' v.ownBlock → ((Value.slice A' (n + m) c').ownBlock = v.ownBlock ∨ (Value.slice A' (n + m) c').ownBlock = some w.heap.size) → K (a.put o.dst (.slice A' (n + m) c')) w') : o.wp P a w K Q := by
  obtain ⟨A', c', w', hrun, h2, h3, h4⟩ := run_append_row (P := P) w base t o.type e i z sz b ht hi hz hsize hby hzs hsz v n xs hown A m c news hl hnews h1 h63 hbytes hbase
  unfold Oper.wp execOp
  simp only [ho, resolve, invoke, builtin, Sem.run_bind, Sem.run_pure, Result.andThen_ok, List.map_toArray, List.map_cons, List.map_nil, hs, hx, hrun]
  exact h A' c' w' h2 h3 h4

theorem wpList_append_row {ops : Array Oper} {rest : List Oper} {o : Oper} {a : Act} {Q : Exit → Act → World → Prop} (hgd : o.guard = none) (s x : Operand) (t : TypeId)
    (ho : o.op = .call { callee := .builtin .append, args := #[s, x], argTypes := #[t, t] })
    (base : Nat) (e : TypeId) (i : TypeInfo) (z : Value) (sz b : Nat) (ht : P.underlying t = some (.slice e)) (hi : P.info? e = some i) (hz : i.zero = some z)
    (hsize : i.size = sz) (hby : i.bytes = b) (hzs : z.cells.size = sz) (hsz : 0 < sz)
    (v : Value) (n : Nat) (xs : List Value) (hs : a.eval s = v) (hown : w.ownsRow base e sz v n xs)
    (A : Option Addr) (m c : Nat) (news : List Value) (hx : a.eval x = .slice A m c) (hl : news.length = m * sz) (hnews : 0 < m → ∃ bb o, A = some ⟨bb, o, none⟩ ∧ ∀ (j : Nat) u, news[j]? = some u → w.cell? ⟨bb, o + j, none⟩ = some u) (h1 : ∀ u ∈ news, u.oneCell' = true)
    (h63 : n + m ≤ maxLen) (hbytes : (n + m) * b ≤ 140737488355328) (hbase : base ≤ w.heap.size)
    (h : ∀ A' c' w', w'.ownsRow base e sz (.slice A' (n + m) c') (n + m) (xs ++ news) → w.grownBy w' v.ownBlock → ((Value.slice A' (n + m) c').ownBlock = v.ownBlock ∨ (Value.slice A' (n + m) c').ownBlock = some w.heap.size) → wpList P ops Q rest (a.put o.dst (.slice A' (n + m) c')) w') : wpList P ops Q (o :: rest) a w :=
  wpList_plain hgd fun _ hK => wp_append_row w s x t ho base e i z sz b ht hi hz hsize hby hzs hsz v n xs hs hown A m c news hx hl hnews h1 h63 hbytes hbase fun A' c' w' h2 h3 h4 => hK _ _ (h A' c' w' h2 h3 h4)
end
end Go.Proofs.Ytdnepnnkpaoaaaa
