/- The contract of impl.Build. -/
import Derived.Test.YtdnepnnkpaoaaaaSteps
namespace Go.Proofs.Ytdnepnnkpaoaaaa
open Go.RowKit
set_option linter.unusedVariables false

set_option maxRecDepth 100000 in
set_option maxHeartbeats 800000 in
theorem bytes_err (g : Nat) (w : World) (hg : Bad w g) : Calls Try.prog 49 #[.pointer (some ⟨g, 0, none⟩)] w fun e w' => ∃ t u, e = .returned (.tuple #[.slice none 0 0, .iface t u]) ∧ Fr [] w w' := by
  obtain ⟨t, u, _, _, _, _, _, _, k⟩ := hg
  have c0 := k.cell 0
  clear k
  go_enter Try.func49, Try.ntmps49
  go_wp2_with fail
  go_quiet (fail)
  go_wp2
  go_ret2
  exact ⟨_, _, rfl, (Fr.refl [] w).drewN nq⟩

/-- Failed: no bytes, and false. -/
def GotNo (w : World) (e : Ending) (w' : World) : Prop := ∃ a c, e = .returned (.tuple #[.slice a 0 c, .bool false]) ∧ c ≤ maxLen ∧ Below w.heap.size w w'

set_option maxRecDepth 100000 in
set_option maxHeartbeats 800000 in
theorem bytesOf_err (g : Nat) (w : World) (hg : Bad w g) : Calls Try.prog 33 #[.pointer (some ⟨g, 0, none⟩)] w (GotNo w) := by
  have H := Lib.hid (bytes_err g w hg)
  clear hg
  go_enter Try.func33, Try.ntmps33
  go_wp2_with fail
  refine H.out.mono ?_
  rintro e w1 ⟨t, u, rfl, F1⟩
  go_wp2_with fail
  have C1 := Lib.hid (copied_any none 0 0 [] w1.drew rfl (BIn.nil _ _ _) (by omega))
  go_region_held3 (fun w' => True) (exact trivial) (first | (go_at_call 39; (with_reducible refine C1.out.mono ?_); rintro e w4 ⟨a5, c5, rfl, r1, r2, r3, r4, r5, r6⟩))
  go_wp2
  go_ret2
  exact ⟨a5, c5, rfl, r2, ((F1.drew).trans (Fr.of_below r5 []) (by simp)).below (by simp) (Nat.le_refl _)⟩

/-- What the thin package's Build leaves: the bytes and true, or no bytes and false. -/
def BuiltP (w : World) (s : PB) (e : Ending) (w' : World) : Prop := if s.failed then GotNo w e w' else GotPost w s.out e w'
def Kd.items : Kd := ⟨none, 16000000, by omega⟩

/-- The bytes of a builder, behind steps. -/
theorem bytesOf_res (K : Kd) (base g : Nat) (p : List Int) (s : PB) (ic : Value) (rb : Option Nat) (dep M : Nat) (w0 w w1 : World) (h : Outc K base g 0 0 false ic rb false dep M w (resOf p s) (.returned (.tuple #[])) w1) (hl : p.length + s.out.length ≤ 4194304000)
    (hF : ∀ w', Fr (fS g rb ic false) w w' → Below w0.heap.size w0 w') :
    Calls Try.prog 33 #[.pointer (some ⟨g, 0, none⟩)] w1 (BuiltP w0 { s with out := p ++ s.out }) := by
  obtain ⟨h1, h⟩ := h
  have hb := hF w1 h1
  unfold BuiltP
  cases hf : s.failed
  · rw [resOf_ok hf] at h
    obtain ⟨_, ic', rb', b, _⟩ := h
    refine (bytesOf_ok K base g _ _ _ _ _ w1 b (by rw [List.length_append]; exact hl)).mono ?_
    rintro e w' ⟨a, c, rfl, q1, q2, q3, q4⟩
    simp only [Bool.false_eq_true, if_false]
    exact ⟨a, c, rfl, q1, q2, q3, hb.trans (q4.mono hb.size)⟩
  · rw [resOf_no hf] at h
    rcases h with ⟨_, h⟩ | ⟨h, _⟩
    · refine (bytesOf_err g w1 h).mono ?_
      rintro e w' ⟨a, c, rfl, q1, q2⟩
      simp only [if_true]
      exact ⟨a, c, rfl, q1, hb.trans (q2.mono hb.size)⟩
    · cases h
theorem BuiltP.ends {w : World} {s : PB} {e : Ending} {w' : World} (h : BuiltP w s e w') : ∃ a n c b, e = .returned (.tuple #[.slice a n c, .bool b]) ∧ Below w.heap.size w w' := by
  unfold BuiltP at h
  split at h
  · obtain ⟨a, c, rfl, _, h⟩ := h; exact ⟨a, _, c, _, rfl, h⟩
  · obtain ⟨a, c, rfl, _, _, _, h⟩ := h; exact ⟨a, _, c, _, rfl, h⟩

set_option maxRecDepth 100000 in
set_option maxHeartbeats 1600000 in
theorem iBuild (a : Option Addr) (n c : Nat) (its : List It) (w : World) (hn : its.length = n) (hi : ItsIn w w.heap.size a its) (dep : Nat) (hd : dep ≤ 100) (hok : okIs false dep its = true) (hw : (runP PB.new its).wrong = false) (hc : costs its ≤ Mx) :
    Calls Try.prog 18 #[.slice a n c] w (BuiltP w (runP PB.new its)) := by
  obtain ⟨w1, hw1⟩ : ∃ w1, w1 = w.alloc (.cells #[.nilIface, .slice none 0 0, .bool false, .pointer none, .int .i64 0, .int .i64 0, .bool false, .pointer none] 65) := ⟨_, rfl⟩
  have F1 : Fr [] w w1 := by rw [hw1]; exact (Fr.refl [] w).alloc _
  have B1 : Bld Kd.items w1 w.heap.size w.heap.size [] (0 : Nat) (0 : Nat) false (.pointer none) none := by
    rw [hw1]; exact ⟨_, Blk.new _ _ _, OwnB.nil _ _ _, rfl, fun _ h => by cases h⟩
  have hrl := run_len false dep PB.new its hok
  have hnew : PB.new.out.length = 0 := rfl
  have hMx : Mx = 2000000 := rfl
  have S := Lib.hid (sgood dep Kd.items w.heap.size w.heap.size 0 0 false [] PB.new (.pointer none) none false w.heap.size w1 its a n c
    ⟨B1, .inl ⟨rfl, rfl⟩, by simp, F1.size, Nat.zero_le _, rfl, rfl, Nat.le_refl _, Nat.le_refl _⟩ (F1.its (Nat.le_refl _) (by simp) hi) hn hok hw (.inl ⟨rfl, by decide, by rw [List.length_nil, hnew]; omega⟩) hd hc)
  have HF1 := Lib.hid F1
  have HW1 := Lib.hid hw1
  have hL : (runP PB.new its).out.length ≤ 4194304000 := by omega
  clear F1 B1 hn hi hok hw hw1 hrl
  go_enter Try.func18, Try.ntmps18
  go_wp2_with fail
  rw [← HW1.out]
  refine S.out.mono ?_
  intro e w2 ho
  obtain rfl := ho.ret rfl
  have HB := Lib.hid (bytesOf_res Kd.items w.heap.size w.heap.size [] (runP PB.new its) (.pointer none) none dep Mx w w1 w2 ho (by simpa using hL) (fun w' hf => by
    refine ((HF1.out.mono (S' := [w.heap.size]) (by simp)).trans (hf.mono (S' := [w.heap.size]) (by intro i hi; simpa [fS, icB] using hi)) (fun i hi => .inl hi)).below (by simp) (Nat.le_refl _)))
  clear ho
  go_wp2_with fail
  refine HB.out.mono ?_
  intro e w3 hq
  have hq' := Lib.hid hq
  obtain ⟨a4, n4, c4, b4, rfl, _⟩ := hq.ends
  clear hq
  go_wp2_with fail
  go_ret2
  exact hq'.out
end Go.Proofs.Ytdnepnnkpaoaaaa
