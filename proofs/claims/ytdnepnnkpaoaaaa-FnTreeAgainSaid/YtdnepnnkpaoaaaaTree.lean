/- Steps of building, in plain Lean: what they build, by the reference; how much; which are right (no program in sight). -/
import Derived.Test.YtdnepnnkpaoaaaaGAsn
import Derived.Test.YtdnepnnkpaoaaaaOidSpec
namespace Go.Proofs.Ytdnepnnkpaoaaaa
open Go.RowKit
set_option linter.unusedVariables false

/-- A step: its Kind, a number, a tag, bytes, arcs, and steps within it. -/
inductive It where
  | mk (kd n t : Int) (d o : List Int) (ks : List It)

/-- What was built so far. -/
structure PB where
  out : List Int
  direct : Nat
  failed : Bool
  wrong : Bool
def PB.new : PB := ⟨[], 0, false, false⟩
def PB.write (s : PB) (v : List Int) : PB := { s with out := s.out ++ v, direct := s.direct + v.length }
def PB.put (s : PB) (v : List Int) : PB := { s with out := s.out ++ v, direct := 0 }
def PB.fail (s : PB) : PB := { s with failed := true }
def PB.absorb (s i : PB) : PB := { s with failed := s.failed || i.failed, wrong := s.wrong || i.wrong }
def PB.element (s : PB) (t : Int) (c : List Int) : PB := if t % 32 = 31 then s.fail else s.put (derWrap t c)
def PB.prefixed (s : PB) (v : List Int) (k : Nat) : PB := if v.length / 256 ^ k = 0 then s.put (bigB k v.length ++ v) else s.fail
def PB.back (s : PB) (n : Int) : PB := if n < 0 ∨ (s.direct : Int) < n then { s with wrong := true } else { s with out := s.out.take (s.out.length - n.toNat), direct := s.direct - n.toNat }
def PB.bad (s : PB) (b : Bool) : PB := { s with failed := s.failed || b }
def numB (kd : Int) : Nat := if kd = 0 then 1 else if kd = 1 then 2 else if kd = 2 then 3 else if kd = 3 then 4 else if kd = 4 then 6 else 8
/-- A step that adds an element without steps within: its tag and contents; none where it is an error. -/
def primC (kd n t : Int) (d o : List Int) : Option (Int × List Int) :=
  if kd = 12 then some (1, [if n = 1 then 255 else 0])
  else if kd = 13 then some (2, bigB (intLen n) n)
  else if kd = 14 then some (t, bigB (intLen n) n)
  else if kd = 15 then some (2, bigB (uintLen (n % 18446744073709551616)) (n % 18446744073709551616))
  else if kd = 16 then some (10, bigB (intLen n) n)
  else if kd = 17 then some (5, [])
  else if kd = 18 then some (4, d)
  else if kd = 19 then some (3, 0 :: d)
  else if oidR o then some (6, oidB o) else none
def PB.prim (s : PB) (kd n t : Int) (d o : List Int) : PB := match primC kd n t d o with
  | some (t', c) => s.element t' c
  | none => s.fail

mutual
def stepP (s : PB) : It → PB
  | .mk kd n t d o ks =>
    if kd < 6 then s.write (bigB (numB kd) n)
    else if kd = 6 then s.write d
    else if kd ≤ 10 then (s.absorb (runP PB.new ks)).prefixed (runP PB.new ks).out (kd - 6).toNat
    else if kd = 11 then (s.absorb (runP PB.new ks)).element t (runP PB.new ks).out
    else if kd < 21 then s.prim kd n t d o
    else if kd = 22 then s.back n
    else if kd = 24 then runP s ks
    else if kd = 25 then (runP s ks).fail
    else s.fail
def runP (s : PB) : List It → PB
  | [] => s
  | x :: xs => if s.failed || s.wrong then s else runP (stepP s x) xs
end
mutual
/-- How many bytes a step builds at most. -/
def It.cost : It → Nat
  | .mk _ _ _ d o ks => 16 + d.length + 9 * o.length + costs ks
def costs : List It → Nat
  | [] => 0
  | x :: xs => x.cost + costs xs
end
mutual
/-- No step takes bytes back. -/
def It.noTB : It → Bool
  | .mk kd _ _ _ _ ks => !(kd == 22) && noTBs ks
def noTBs : List It → Bool
  | [] => true
  | x :: xs => x.noTB && noTBs xs
end
/-- No arc is beyond 2^31 - 1, nor the second one beyond 80 less. -/
def smallB (o : List Int) : Bool := o.all (fun z => decide (z ≤ 2147483647)) && decide (o.getD 1 0 ≤ 2147483567)
mutual
/-- Which steps are right. -/
def okI (ins : Bool) (deep : Nat) : It → Bool
  | .mk kd n t d o ks => decide (0 ≤ kd) && decide (kd ≤ 25) && decide (0 ≤ t) && decide (t ≤ 255) && !(kd == 23 && !ins) && !(kd == 4 && (decide (n < 0) || decide (281474976710656 ≤ n))) && smallB o && !(deep == 0) && okIs (ins || (decide (7 ≤ kd) && decide (kd ≤ 11))) (deep - 1) ks
def okIs (ins : Bool) (deep : Nat) : List It → Bool
  | [] => true
  | x :: xs => okI ins deep x && okIs ins deep xs
end

theorem small_of {o : List Int} (h : smallB o = true) : Small o := by
  unfold smallB at h
  simp only [Bool.and_eq_true, List.all_eq_true, decide_eq_true_eq] at h
  refine ⟨fun i => ?_, h.2⟩
  rcases Nat.lt_or_ge i o.length with hlt | hge
  · rw [List.getD_eq_getElem?_getD, List.getElem?_eq_getElem hlt]
    exact h.1 _ (List.getElem_mem hlt)
  · rw [List.getD_eq_getElem?_getD, List.getElem?_eq_none hge]; decide
theorem small_get {o : List Int} (h : Small o) : True := trivial

theorem numB_le (kd : Int) : numB kd ≤ 8 := by unfold numB; repeat' split
                                               all_goals omega
theorem oidB_len' (zs : List Int) (h : Small zs) (hok : oidOk zs = true) : (oidB zs).length ≤ 5 * zs.length := by
  obtain ⟨z0, z1, r, hz, a0, a1, b0, b1, hr⟩ := oid_form hok
  rw [oidB_eq hz, List.length_append]
  have h1 : z1 ≤ 2147483567 := by have := h.2; rw [hz] at this; simpa using this
  have e0 := (enc_len (n := z0.toNat * 40 + z1.toNat) (by omega)).2
  have hr2 : ∀ z ∈ r, z ≤ 2147483647 := by
    intro z hz'
    obtain ⟨i, hi, rfl⟩ := List.getElem_of_mem hz'
    have := h.1 (i + 2)
    rw [hz] at this
    simp only [List.getD_cons_succ] at this
    rw [List.getD_eq_getElem?_getD, List.getElem?_eq_getElem hi] at this
    exact this
  have : (r.flatMap (fun z => enc z.toNat)).length ≤ 5 * r.length := by
    clear hz hr
    induction r with
    | nil => simp
    | cons z r ih =>
      have h2 := hr2 z (by simp)
      have := (enc_len (n := z.toNat) (by omega)).2
      have := ih (fun z hz => hr2 z (by simp [hz]))
      rw [List.flatMap_cons, List.length_append, List.length_cons]
      omega
  rw [hz]
  simp only [List.length_cons]
  omega
/-- Right arcs under the bound: what isValidOID asks is what OIDRight asks. -/
theorem oidR_iff {o : List Int} (hs : Small o) : oidR o = oidOk o := by
  rw [Bool.eq_iff_iff]
  constructor
  · intro h
    unfold oidR at h
    simp only [Bool.and_eq_true, decide_eq_true_eq, Bool.not_eq_true', Bool.and_eq_false_iff, decide_eq_false_iff_not, List.all_eq_true] at h
    obtain ⟨⟨⟨⟨⟨h1, h2⟩, h3⟩, h4⟩, h5⟩, h6⟩ := h
    unfold oidOk oidHead
    simp only [Bool.and_eq_true, Bool.not_eq_true', Bool.or_eq_false_iff, Bool.and_eq_false_iff, decide_eq_false_iff_not, List.all_eq_true, decide_eq_true_eq]
    refine ⟨⟨⟨by omega, by omega⟩, by omega⟩, ?_⟩
    match o, h1 with
    | z0 :: r, _ =>
      intro z hz
      simp only [List.mem_cons] at hz
      rcases hz with rfl | hz
      · simpa using h2
      · have := h6 z (by simpa using hz)
        unfold arcOk at this
        simp only [Bool.and_eq_true, decide_eq_true_eq] at this
        exact this.1
  · intro h
    obtain ⟨z0, z1, r, hz, a0, a1, b0, b1, hr⟩ := oid_form h
    have hsm := hs.2
    unfold oidR
    subst hz
    simp only [List.getD_cons_zero, List.getD_cons_succ] at hsm
    simp only [List.length_cons, List.getD_cons_zero, List.getD_cons_succ, Bool.and_eq_true, decide_eq_true_eq, Bool.not_eq_true', Bool.and_eq_false_iff, decide_eq_false_iff_not, List.all_eq_true, List.drop_succ_cons, List.drop_zero]
    refine ⟨⟨⟨⟨⟨by omega, a0⟩, a1⟩, by omega⟩, by omega⟩, ?_⟩
    intro z hz
    unfold arcOk
    simp only [Bool.and_eq_true, decide_eq_true_eq]
    simp only [List.mem_cons] at hz
    rcases hz with rfl | hz
    · exact ⟨b0, by omega⟩
    · refine ⟨hr z hz, ?_⟩
      obtain ⟨i, hi, rfl⟩ := List.getElem_of_mem hz
      have := hs.1 (i + 2)
      simp only [List.getD_cons_succ] at this
      rw [List.getD_eq_getElem?_getD, List.getElem?_eq_getElem hi] at this
      exact this

/-! ### How long -/
theorem write_len (s : PB) (v : List Int) : (s.write v).out.length = s.out.length + v.length := by simp [PB.write]
theorem primC_len {kd n t : Int} {d o : List Int} {t' : Int} {c : List Int} (hs : Small o) (h : primC kd n t d o = some (t', c)) : c.length ≤ 9 + d.length + 5 * o.length := by
  have h1 := intLen_bd n
  have h2 := uintLen_bd (n % 18446744073709551616)
  unfold primC at h
  repeat' split at h
  all_goals (first | (cases h; done) | skip)
  all_goals (injection h with h; injection h with h3 h4; subst h4)
  all_goals (first | (simp [bigB_len]; done) | (simp [bigB_len]; omega) | skip)
  rename_i hr
  have := oidB_len' o hs (by rw [← oidR_iff hs]; exact hr)
  omega
theorem element_len (s : PB) (t : Int) (c : List Int) : (s.element t c).out.length ≤ s.out.length + (5 + c.length) := by
  unfold PB.element
  split
  · simp [PB.fail]
  · have := derWrap_lenx t c
    have := extraB_le c.length
    simp only [PB.put, List.length_append]
    omega
theorem element_ge (s : PB) (t : Int) (c : List Int) : s.out.length ≤ (s.element t c).out.length := by
  unfold PB.element
  split
  · simp [PB.fail]
  · simp [PB.put]
theorem prefixed_len (s : PB) (v : List Int) (k : Nat) : (s.prefixed v k).out.length ≤ s.out.length + (k + v.length) := by
  unfold PB.prefixed
  split
  · simp [PB.put, bigB_len]
  · simp [PB.fail]
theorem prefixed_ge (s : PB) (v : List Int) (k : Nat) : s.out.length ≤ (s.prefixed v k).out.length := by
  unfold PB.prefixed
  split
  · simp [PB.put]
  · simp [PB.fail]
theorem prim_len (s : PB) (kd n t : Int) (d o : List Int) (hs : Small o) : (s.prim kd n t d o).out.length ≤ s.out.length + (16 + d.length + 9 * o.length) := by
  unfold PB.prim
  split
  · rename_i t' c h
    have := primC_len hs h
    have := element_len s t' c
    omega
  · simp [PB.fail]
theorem prim_ge (s : PB) (kd n t : Int) (d o : List Int) : s.out.length ≤ (s.prim kd n t d o).out.length := by
  unfold PB.prim
  split
  · exact element_ge s _ _
  · simp [PB.fail]

mutual
theorem step_len (ins : Bool) (deep : Nat) (s : PB) : ∀ x : It, okI ins deep x = true → (stepP s x).out.length ≤ s.out.length + x.cost
  | .mk kd n t d o ks, h => by
    unfold okI at h
    simp only [Bool.and_eq_true] at h
    obtain ⟨⟨⟨⟨⟨⟨⟨⟨h1, h2⟩, h3⟩, h4⟩, h5⟩, h6⟩, h7⟩, h8⟩, h9⟩ := h
    have r1 := run_len _ _ PB.new ks h9
    have r2 := run_len _ _ s ks h9
    have hs := small_of h7
    have hnb := numB_le kd
    have hn0 : PB.new.out.length = 0 := rfl
    unfold stepP
    unfold It.cost
    repeat' split
    · rw [write_len, bigB_len]; omega
    · rw [write_len]; omega
    · have := prefixed_len (s.absorb (runP PB.new ks)) (runP PB.new ks).out (kd - 6).toNat
      have e : (s.absorb (runP PB.new ks)).out = s.out := rfl
      rw [e] at this
      omega
    · have := element_len (s.absorb (runP PB.new ks)) t (runP PB.new ks).out
      have e : (s.absorb (runP PB.new ks)).out = s.out := rfl
      rw [e] at this
      omega
    · have := prim_len s kd n t d o hs
      omega
    · unfold PB.back
      split
      · simp only; omega
      · simp only [List.length_take]; omega
    · omega
    · simp only [PB.fail]; omega
    · simp only [PB.fail]; omega
theorem run_len (ins : Bool) (deep : Nat) (s : PB) : ∀ xs : List It, okIs ins deep xs = true → (runP s xs).out.length ≤ s.out.length + costs xs
  | [], _ => by simp [runP, costs]
  | x :: xs, h => by
    unfold okIs at h
    rw [Bool.and_eq_true] at h
    have h1 := step_len ins deep s x h.1
    have h2 := run_len ins deep (stepP s x) xs h.2
    unfold runP costs
    split
    · omega
    · omega
end
mutual
theorem step_ge (s : PB) : ∀ x : It, x.noTB = true → s.out.length ≤ (stepP s x).out.length
  | .mk kd n t d o ks, h => by
    unfold It.noTB at h
    simp only [Bool.and_eq_true, Bool.not_eq_true', beq_eq_false_iff_ne, ne_eq] at h
    have r2 := run_ge s ks h.2
    unfold stepP
    repeat' split
    · rw [write_len]; omega
    · rw [write_len]; omega
    · exact prefixed_ge (s.absorb (runP PB.new ks)) _ _
    · exact element_ge (s.absorb (runP PB.new ks)) _ _
    · exact prim_ge s kd n t d o
    · rename_i h22; exact absurd h22 h.1
    · exact r2
    · exact r2
    · exact Nat.le_refl _
theorem run_ge (s : PB) : ∀ xs : List It, noTBs xs = true → s.out.length ≤ (runP s xs).out.length
  | [], _ => by simp [runP]
  | x :: xs, h => by
    unfold noTBs at h
    rw [Bool.and_eq_true] at h
    have h1 := step_ge s x h.1
    have h2 := run_ge (stepP s x) xs h.2
    unfold runP
    split
    · exact Nat.le_refl _
    · omega
end
mutual
theorem step_dir (s : PB) : ∀ x : It, s.direct ≤ s.out.length → (stepP s x).direct ≤ (stepP s x).out.length
  | .mk kd n t d o ks, h => by
    have r2 := run_dir s ks h
    have hel : ∀ (s : PB) (t : Int) (c : List Int), s.direct ≤ s.out.length → (s.element t c).direct ≤ (s.element t c).out.length := by
      intro s t c h
      unfold PB.element
      split
      · exact h
      · simp [PB.put]
    unfold stepP
    repeat' split
    · simp [PB.write]; omega
    · simp [PB.write]; omega
    · unfold PB.prefixed
      split
      · simp [PB.put]
      · exact h
    · exact hel _ _ _ h
    · unfold PB.prim
      split
      · exact hel _ _ _ h
      · exact h
    · unfold PB.back
      split
      · exact h
      · simp only [List.length_take]; omega
    · exact r2
    · exact r2
    · exact h
theorem run_dir (s : PB) : ∀ xs : List It, s.direct ≤ s.out.length → (runP s xs).direct ≤ (runP s xs).out.length
  | [], h => by simpa [runP] using h
  | x :: xs, h => by
    have h1 := step_dir s x h
    have h2 := run_dir (stepP s x) xs h1
    unfold runP
    split
    · exact h
    · exact h2
end
end Go.Proofs.Ytdnepnnkpaoaaaa
