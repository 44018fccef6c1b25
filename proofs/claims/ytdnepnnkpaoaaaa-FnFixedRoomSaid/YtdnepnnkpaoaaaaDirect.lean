/- Steps that add numbers or bytes alone, on a builder of whatever room: all of them, or an error where there is none. (Printed by gen_direct.py.) -/
import Derived.Test.YtdnepnnkpaoaaaaBuildF
import Derived.Test.YtdnepnnkpaoaaaaMD
namespace Go.Proofs.Ytdnepnnkpaoaaaa
open Go.RowKit
set_option linter.unusedVariables false

/-- What a step adds directly. -/
def It.dirB : It → List Int
  | .mk kd n t d o ks => if kd < 6 then bigB (numB kd) n else d
theorem dirB_mk (kd n t : Int) (d o : List Int) (ks : List It) : (It.mk kd n t d o ks).dirB = if kd < 6 then bigB (numB kd) n else d := rfl
def dirsB (its : List It) : List Int := its.flatMap It.dirB
theorem step_dirB (s : PB) (x : It) (h : x.kd ≤ 6) : stepP s x = s.write x.dirB := by
  obtain ⟨kd, n, t, d, o, ks⟩ := x
  simp only [It.kd] at h
  rw [dirB_mk]
  unfold stepP
  by_cases h6 : kd < 6
  · rw [if_pos h6, if_pos h6]
  · rw [if_neg h6, if_neg h6, if_pos (by omega)]
theorem run_dirB : ∀ (its : List It) (s : PB), dirs its → s.failed = false → s.wrong = false → (runP s its).out = s.out ++ dirsB its ∧ (runP s its).failed = false ∧ (runP s its).wrong = false
  | [], s, _, h1, h2 => by simp [runP, dirsB, h1, h2]
  | x :: xs, s, h, h1, h2 => by
    rw [run_cons h1 h2, step_dirB s x (h x (by simp))]
    obtain ⟨q1, q2, q3⟩ := run_dirB xs (s.write x.dirB) (fun y hy => h y (by simp [hy])) h1 h2
    refine ⟨?_, q2, q3⟩
    rw [q1]
    simp [PB.write, dirsB]
theorem dirsB_take {its : List It} {k : Nat} {x : It} (h : its[k]? = some x) : dirsB (its.take (k + 1)) = dirsB (its.take k) ++ x.dirB := by
  obtain ⟨hk, rfl⟩ := List.getElem?_eq_some_iff.1 h
  unfold dirsB
  rw [List.take_succ_eq_append_getElem hk, List.flatMap_append]
  simp
theorem dirsB_le (its : List It) (k : Nat) : (dirsB (its.take k)).length ≤ (dirsB its).length := by
  have : dirsB its = dirsB (its.take k) ++ dirsB (its.drop k) := by
    unfold dirsB
    rw [← List.flatMap_append, List.take_append_drop]
  rw [this, List.length_append]
  omega

/-- A step for which there is room. -/
theorem item_fit (K : Kd) (base g : Nat) (xs : List Int) (off pl : Int) (pa : Bool) (ic : Value) (rb : Option Nat) (ins : Bool) (dep B : Nat) (w : World) (x : It) (v : Value)
    (hg : Bld K w base g xs off pl pa ic rb) (hz : base ≤ w.heap.size) (hv : ItV w B x v) (hok : okI ins dep x = true) (hd : x.kd ≤ 6) (hc : x.cost ≤ Mx) (hl : xs.length + x.dirB.length ≤ K.lim) :
    Calls Try.prog (itemFn x.kd) #[.pointer (some ⟨g, 0, none⟩), v] w (AddPost K base g (xs ++ x.dirB) off pl pa ic rb w) := by
  obtain ⟨kd, n, t, d, o, ks⟩ := x
  obtain ⟨hn, a3, c3, a4, c4, a5, c5, rfl, ⟨l3, m3, b3, y3⟩, ⟨l4, m4, b4⟩, ⟨l5, m5, b5⟩⟩ := hv
  obtain ⟨k0', k1', t0, t1, h23, h4, hsm, hdp, hks⟩ := okI_mk hok
  rw [cost_mk] at hc
  unfold Mx at hc
  simp only [It.kd] at hd ⊢
  have hE : Ends (AddPost K base g (xs ++ (It.mk kd n t d o ks).dirB) off pl pa ic rb w) := fun e w' h => .inl h.1
  have PL : ∀ (w1 : World) (f : FuncId) (args : Array Value), Fr [] w w1 → (Bld K w1 base g xs off pl pa ic rb → base ≤ w1.heap.size → Calls Try.prog f args w1 (AddPost K base g (xs ++ (It.mk kd n t d o ks).dirB) off pl pa ic rb w1)) → Calls Try.prog f args w1 (AddPost K base g (xs ++ (It.mk kd n t d o ks).dirB) off pl pa ic rb w) :=
    fun w1 f args h1 h2 => (h2 (hg.keep h1) (Nat.le_trans hz h1.size)).mono fun e w' h => h.from_ h1
  have hkd : kd = 0 ∨ kd = 1 ∨ kd = 2 ∨ kd = 3 ∨ kd = 4 ∨ kd = 5 ∨ kd = 6 := by omega
  rcases hkd with rfl | rfl | rfl | rfl | rfl | rfl | rfl
  · have e : (It.mk 0 n t d o ks).dirB = bigB 1 n := by rw [dirB_mk, if_pos (by decide)]; rfl
    rw [e, bigB_len] at hl
    rw [e] at PL hE ⊢
    refine k0 g n t _ _ _ w _ hE fun w1 h1 => PL w1 _ _ h1 fun hb hz => ?_
    exact addU8_any K base g xs off pl pa ic rb (n % 256) w1 hb hl hz
  · have e : (It.mk 1 n t d o ks).dirB = bigB 2 n := by rw [dirB_mk, if_pos (by decide)]; rfl
    rw [e, bigB_len] at hl
    rw [e] at PL hE ⊢
    refine k1 g n t _ _ _ w _ hE fun w1 h1 => PL w1 _ _ h1 fun hb hz => ?_
    have := addU16_any K base g xs off pl pa ic rb (n % 65536) w1 hb hl hz (Int.emod_nonneg _ (by decide)) (by have := Int.emod_lt_of_pos n (show (0 : Int) < 65536 by decide); omega)
    rw [bigB_m2] at this
    exact this
  · have e : (It.mk 2 n t d o ks).dirB = bigB 3 n := by rw [dirB_mk, if_pos (by decide)]; rfl
    rw [e, bigB_len] at hl
    rw [e] at PL hE ⊢
    refine k2 g n t _ _ _ w _ hE fun w1 h1 => PL w1 _ _ h1 fun hb hz => ?_
    have := addU24_any K base g xs off pl pa ic rb (n % 4294967296) w1 hb hl hz (Int.emod_nonneg _ (by decide)) (by have := Int.emod_lt_of_pos n (show (0 : Int) < 4294967296 by decide); omega)
    rw [bigB_m3] at this
    exact this
  · have e : (It.mk 3 n t d o ks).dirB = bigB 4 n := by rw [dirB_mk, if_pos (by decide)]; rfl
    rw [e, bigB_len] at hl
    rw [e] at PL hE ⊢
    refine k3 g n t _ _ _ w _ hE fun w1 h1 => PL w1 _ _ h1 fun hb hz => ?_
    have := addU32_any K base g xs off pl pa ic rb (n % 4294967296) w1 hb hl hz (Int.emod_nonneg _ (by decide)) (by have := Int.emod_lt_of_pos n (show (0 : Int) < 4294967296 by decide); omega)
    rw [bigB_m4] at this
    exact this
  · have e : (It.mk 4 n t d o ks).dirB = bigB 6 n := by rw [dirB_mk, if_pos (by decide)]; rfl
    rw [e, bigB_len] at hl
    rw [e] at PL hE ⊢
    refine k4 g n t _ _ _ w _ hE fun w1 h1 => PL w1 _ _ h1 fun hb hz => ?_
    have h48 := h4 rfl
    have e : n % 18446744073709551616 = n := Int.emod_eq_of_lt h48.1 (by omega)
    rw [e]
    exact addU48_any K base g xs off pl pa ic rb n w1 hb hl hz h48.1 (by omega)
  · have e : (It.mk 5 n t d o ks).dirB = bigB 8 n := by rw [dirB_mk, if_pos (by decide)]; rfl
    rw [e, bigB_len] at hl
    rw [e] at PL hE ⊢
    refine k5 g n t _ _ _ w _ hE fun w1 h1 => PL w1 _ _ h1 fun hb hz => ?_
    have := addU64_any K base g xs off pl pa ic rb (n % 18446744073709551616) w1 hb hl hz (Int.emod_nonneg _ (by decide)) (by have := Int.emod_lt_of_pos n (show (0 : Int) < 18446744073709551616 by decide); omega)
    rw [bigB_m8] at this
    exact this
  · have e : (It.mk 6 n t d o ks).dirB = d := by rw [dirB_mk, if_neg (by decide)]
    rw [e] at hl PL hE ⊢
    refine k6 g w n t _ _ a3 _ c3 d rfl b3.lt (by omega) w rfl _ hE fun a' c' w1 h1 hb _ => PL w1 _ _ h1 fun hb' hz => ?_
    exact addBytes_any K base g xs d off pl pa ic rb a' d.length c' w1 hb' rfl hb hl hz

/-- What holds between two such steps. -/
def InvD (K : Kd) (base g B : Nat) (p : List Int) (ic : Value) (its : List It) (w : World) (k : Nat) (wr : World) : Prop :=
  Below B w wr ∧ ((∃ rb, Bld K wr base g (p ++ dirsB (its.take k)) (0 : Nat) (0 : Nat) false ic rb ∧ p.length + (dirsB (its.take k)).length ≤ K.lim) ∨ (Bad wr g ∧ K.lim < p.length + (dirsB its).length))
/-- What such steps leave. -/
def EndD (K : Kd) (base g B : Nat) (p : List Int) (ic : Value) (its : List It) (w : World) (e : Ending) (w' : World) : Prop :=
  e = .returned (.tuple #[]) ∧ Below B w w' ∧ ((∃ rb, Bld K w' base g (p ++ dirsB its) (0 : Nat) (0 : Nat) false ic rb ∧ p.length + (dirsB its).length ≤ K.lim) ∨ (Bad w' g ∧ K.lim < p.length + (dirsB its).length))

theorem steps_dir (K : Kd) (base g r B : Nat) (p : List Int) (ic : Value) (rb : Option Nat) (its : List It) (a : Option Addr) (n c : Nat) (w : World) (hb : Bld K w base g p (0 : Nat) (0 : Nat) false ic rb) (hfx : K.fix = some r) (hB : B ≤ base) (hg : B ≤ g) (hs : base ≤ w.heap.size)
    (hi : ItsIn w B a its) (hn : its.length = n) (hok : okIs false 12 its = true) (hd : dirs its) (hc : costs its ≤ Mx) (hp : p.length ≤ K.lim) :
    Calls Try.prog 32 #[.pointer (some ⟨g, 0, none⟩), .slice a n c] w (EndD K base g B p ic its w) := by
  refine steps_loop g B n c a its w (InvD K base g B p ic its w) (EndD K base g B p ic its w) hn (by have := len_costs its; unfold Mx at hc; omega) hi ⟨Below.refl _ _, .inl ⟨rb, by simpa [dirsB] using hb, by simpa [dirsB] using hp⟩⟩ (fun k wr h p hp => h.1.cell hp) ?_ ?_
  · rintro k x v wr w1 hx ⟨hF, h⟩ hf hv
    have hsz := hF.size
    have hBw : B ≤ w1.heap.size := Nat.le_trans (Nat.le_trans hB hs) (Nat.le_trans hsz hf.size)
    have hv1 := hv.keep (hf.cells (Nat.le_trans (Nat.le_trans hB hs) hsz) (by simp))
    have hF1 : Below B w w1 := hF.trans (hf.below (by simp) (Nat.le_trans (Nat.le_trans hB hs) hsz))
    have hokx := okIs_get hok hx
    have hcx := Nat.le_trans (cost_get hx) hc
    have hdx := hd x (List.mem_of_getElem? hx)
    rcases h with ⟨rb', hbk, hlk⟩ | ⟨hbad, hlt⟩
    · by_cases hfit : p.length + (dirsB (its.take (k + 1))).length ≤ K.lim
      · refine (item_fit K base g _ _ _ _ ic rb' false 12 B w1 x v (hbk.keep hf) (Nat.le_trans hs (Nat.le_trans hsz hf.size)) hv1 hokx hdx hcx (by rw [dirsB_take hx, List.length_append] at hfit; rw [List.length_append]; omega)).mono ?_
        rintro e w' ⟨rfl, rb2, h1, h2, h3⟩
        refine .inl ⟨rfl, hF1.trans (h2.below (fun i hi => ?_) hBw), .inl ⟨rb2, ?_, hfit⟩⟩
        · rw [List.mem_cons] at hi
          rcases hi with rfl | hi
          · exact hg
          · cases rb' with
            | none => simp at hi
            | some q => simp at hi; subst hi; exact Nat.le_trans hB (hbk.row _ rfl).1
        · rw [dirsB_take hx, ← List.append_assoc]
          exact h1
      · refine (item_over K base g r _ _ _ _ ic rb' false 12 B w1 x v PB.new (hbk.keep hf) hfx hv1 hokx hdx hcx (by rw [step_dirB _ _ hdx, write_len]; rw [dirsB_take hx, List.length_append] at hfit; rw [List.length_append]; omega)).mono ?_
        rintro e w' ⟨rfl, h1, h2⟩
        exact .inl ⟨rfl, hF1.trans (h2.below (by simp; exact hg) hBw), .inr ⟨h1, by have := dirsB_le its (k + 1); omega⟩⟩
    · refine (item_bad 11 (sbad 11) g false B w1 x v (hbad.keep hf) hv1 hokx hg hBw hcx).mono ?_
      rintro e w' ⟨he, hb', hf'⟩
      rcases he with rfl | ⟨h, _⟩
      · exact .inl ⟨rfl, hF1.trans (hf'.below (by simp; exact hg) hBw), .inr ⟨hb', hlt⟩⟩
      · cases h
  · rintro wr ⟨hF, h⟩
    rw [List.take_of_length_le (by omega)] at h
    exact ⟨rfl, hF, h⟩

/-- What BuildFixed hands back of such steps. -/
def FixD (w : World) (xs ys : List Int) (room : Nat) (e : Ending) (w' : World) : Prop := (ys.length ≤ room ∧ GotPost w (xs ++ ys) e w') ∨ (room < ys.length ∧ GotNo w e w')
theorem iBuildFixed_dir (a : Option Addr) (n c room : Nat) (xs : List Int) (A : Option Addr) (m C : Nat) (its : List It) (w : World) (hn : xs.length = n) (hb : BIn w w.heap.size a xs) (hl : n + room ≤ 10000)
    (hm : its.length = m) (hi : ItsIn w w.heap.size A its) (hok : okIs false 12 its = true) (hc : costs its ≤ Mx) (hd : dirs its) :
    Calls Try.prog 14 #[.slice a n c, .int .i64 room, .slice A m C] w (FixD w xs (dirsB its) room) := by
  refine iBuildFixed a n c room xs A m C w _ hn hb hl (fun e w' h => ?_) fun W hB hF => ?_
  · rcases h with ⟨_, a1, c1, h, _⟩ | ⟨_, a1, c1, h, _⟩
    · exact ⟨_, _, _, _, h⟩
    · exact ⟨_, _, _, _, h⟩
  · refine (steps_dir (Kd.room w.heap.size (n + room) hl) w.heap.size (w.heap.size + 1) w.heap.size w.heap.size xs (.pointer none) _ its A m C W hB rfl (Nat.le_refl _) (by omega) hF.size (hF.its (Nat.le_refl _) (by simp) hi) hm hok hd hc (by rw [hn]; show n ≤ n + room; omega)).mono ?_
    rintro e w1 ⟨rfl, h1, h2⟩
    refine ⟨rfl, ?_⟩
    have hF0 : Below w.heap.size w w1 := (hF.below (by simp) (Nat.le_refl _)).trans h1
    rcases h2 with ⟨rb, h3, h4⟩ | ⟨h3, h4⟩
    · have h5 : n + (dirsB its).length ≤ n + room := by rw [hn] at h4; exact h4
      refine (bytesOf_ok _ w.heap.size (w.heap.size + 1) _ _ _ _ _ w1 h3 (by rw [List.length_append]; omega)).mono ?_
      rintro e w' ⟨a1, c1, rfl, q1, q2, q3, q4⟩
      exact .inl ⟨by omega, a1, c1, rfl, q1, q2, q3, hF0.trans (q4.mono hF0.size)⟩
    · have h5 : n + room < n + (dirsB its).length := by rw [hn] at h4; exact h4
      refine (bytesOf_err _ w1 h3).mono ?_
      rintro e w' ⟨a1, c1, rfl, q1, q2⟩
      exact .inr ⟨by omega, a1, c1, rfl, q1, hF0.trans (q2.mono hF0.size)⟩
end Go.Proofs.Ytdnepnnkpaoaaaa
