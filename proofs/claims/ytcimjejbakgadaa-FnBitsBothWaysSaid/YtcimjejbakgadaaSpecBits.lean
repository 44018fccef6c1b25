/- The contract of the reference's BitsOf. -/
import Derived.Test.YtcimjejbakgadaaSpecMag
namespace Go.Proofs.Ytcimjejbakgadaa
open Go.RowKit
set_option linter.unusedVariables false

/-- The bits that contents tell, in bytes, and how many they are. -/
def bitsVal : List Int → Option (List Int × Int)
  | [] => none
  | x :: r => if 7 < x ∨ (r = [] ∧ x ≠ 0) ∨ (r ≠ [] ∧ r.getD (r.length - 1) 0 % 2 ^ x.toNat ≠ 0) then none else some (r, 8 * (r.length : Int) - x)

def BtPost (B : Nat) (r : Option (List Int × Int)) (w : World) (e : Ending) (w' : World) : Prop :=
  Below w.heap.size w w' ∧
  match r with
  | some (out, k) => ∃ a1 c1, e = .returned (.tuple #[.slice a1 out.length c1, .int .i64 k, .bool true]) ∧ out.length ≤ c1 ∧ c1 ≤ maxLen ∧ BIn w' B a1 out
  | none => e = .returned (.tuple #[.slice none 0 0, .int .i64 0, .bool false])

theorem bt_no {B : Nat} {r : Option (List Int × Int)} {w w' : World} (h : r = none) (hb : Below w.heap.size w w') : BtPost B r w (.returned (.tuple #[.slice none 0 0, .int .i64 0, .bool false])) w' := by
  subst h; exact ⟨hb, rfl⟩
theorem bt_yes {B : Nat} {r : Option (List Int × Int)} {w w' : World} {out : List Int} {k k' : Int} {a1 : Option Addr} {n1 c1 : Nat} (h : r = some (out, k)) (hb : Below w.heap.size w w') (hk : k' = k) (hn : out.length = n1) (hc : n1 ≤ c1) (hm : c1 ≤ maxLen) (hi : BIn w' B a1 out) : BtPost B r w (.returned (.tuple #[.slice a1 n1 c1, .int .i64 k', .bool true])) w' := by
  subst h; subst hn; subst hk; exact ⟨hb, a1, c1, rfl, hc, hm, hi⟩

theorem bt_tail {w : World} {B o c b : Nat} {x : Int} {r : List Int} (h : BIn w B (some ⟨b, o, none⟩) (x :: r)) (hc : r.length + 1 ≤ c) : BIn w B (cutA (some ⟨b, o, none⟩) c 1) r := h.cut (k := 1) hc
theorem drew1 (w : World) (m : Nat) : Below w.heap.size w (w.drewN m) := ((Fr.refl [] w).drewN m).below (by simp) (Nat.le_refl _)
theorem drew2 (w : World) (m k : Nat) : Below w.heap.size w ((w.drewN m).drewN k) := (((Fr.refl [] w).drewN m).drewN k).below (by simp) (Nat.le_refl _)

set_option maxRecDepth 100000 in
set_option maxHeartbeats 1600000 in
theorem bitsOf_any (a : Option Addr) (n c : Nat) (xs : List Int) (B : Nat) (w : World) (hn : xs.length = n) (hc : n ≤ c) (hm : c ≤ maxLen) (hb : BIn w B a xs) (hx : Byt xs) (hl : n ≤ 4194304000) :
    Calls Try.prog 58 #[.slice a n c] w (BtPost B (bitsVal xs) w) := by
  cases xs with
  | nil =>
    simp at hn; subst hn
    go_enter Try.func58, Try.ntmps58
    go_wp2_with fail
    go_ret3
    exact bt_no rfl (Below.refl _ _)
  | cons x r =>
    obtain ⟨b, o, rfl, hbB, hcc⟩ := hb (by simp)
    have e0 : w.cell? ⟨b, o, none⟩ = some (.int .u8 x) := hcc 0 (by simp)
    obtain ⟨x0, x1⟩ := hx x (by simp)
    simp only [List.length_cons] at hn
    have i1 : ((n : Int) == 0) = false := by simp; omega
    have i2 : (0 : Int) < n := by omega
    have Hb := Lib.hid hb
    have E : bitsVal (x :: r) = if 7 < x ∨ (r = [] ∧ x ≠ 0) ∨ (r ≠ [] ∧ r.getD (r.length - 1) 0 % 2 ^ x.toNat ≠ 0) then none else some (r, 8 * (r.length : Int) - x) := rfl
    by_cases h7 : 7 < x
    · have V := Lib.hid (show bitsVal (x :: r) = none by rw [E, if_pos (.inl h7)])
      clear hb hx hcc E hn
      go_enter Try.func58, Try.ntmps58
      go_wp2_with fail
      go_ret3
      exact bt_no V.out (Below.refl _ _)
    · cases r with
      | nil =>
        simp at hn
        subst hn
        have sl := sl_from (some ⟨b, o, none⟩) 1 c 1 1 rfl (by omega)
        by_cases hx0 : x = 0
        · have V := Lib.hid (show bitsVal [x] = some ([], 0) by rw [E, if_neg (by simp; omega)]; simp; omega)
          have t1 : (x != 0) = false := by simp [hx0]
          subst hx0
          clear hb hx hcc E
          go_enter Try.func58, Try.ntmps58
          go_wp2_with fail
          go_quiet (fail)
          go_wp2_with fail
          go_quiet (fail)
          go_wp2_with fail
          go_ret3
          exact bt_yes V.out (drew2 _ _ _) rfl rfl (by omega) (by omega) (BIn.nil _ _ _)
        · have V := Lib.hid (show bitsVal [x] = none by rw [E, if_pos (.inr (.inl ⟨rfl, hx0⟩))])
          have t1 : (x != 0) = true := by simp [hx0]
          clear hb hx hcc E hx0
          go_enter Try.func58, Try.ntmps58
          go_wp2_with fail
          go_ret3
          exact bt_no V.out (Below.refl _ _)
      | cons y r =>
        have e1 : w.cell? ⟨b, o + (n - 1), none⟩ = some (.int .u8 ((y :: r).getD ((y :: r).length - 1) 0)) := by
          have := hcc (n - 1) (by simp only [List.length_cons] at *; omega)
          rw [this]
          have h : n - 1 = ((y :: r).length - 1) + 1 := by simp only [List.length_cons] at *; omega
          rw [h, List.getD_cons_succ]
        have i3 : (1 : Int) < n := by simp only [List.length_cons] at *; omega
        have i4 : ((n : Int) == 1) = false := by simp; omega
        have Hn := Lib.hid hn
        have hy : 0 ≤ (y :: r).getD ((y :: r).length - 1) 0 ∧ (y :: r).getD ((y :: r).length - 1) 0 < 256 := Byt.getD (fun z hz => hx z (List.mem_cons_of_mem _ hz)) _
        have E' := Lib.hid (show bitsVal (x :: y :: r) = if 7 < x ∨ (y :: r).getD ((y :: r).length - 1) 0 % 2 ^ x.toNat ≠ 0 then none else some (y :: r, 8 * ((y :: r).length : Int) - x) by rw [E]; simp)
        have sl := sl_from (some ⟨b, o, none⟩) n c 1 1 rfl (by omega)
        generalize (y :: r).getD ((y :: r).length - 1) 0 = z at *
        generalize hr : y :: r = ys at *
        have Hc' := Lib.hid hc
        obtain ⟨z0, z1⟩ := hy
        clear hb hx hcc E hn hr
        have h8 : x = 0 ∨ x = 1 ∨ x = 2 ∨ x = 3 ∨ x = 4 ∨ x = 5 ∨ x = 6 ∨ x = 7 := by omega
        rcases h8 with rfl | rfl | rfl | rfl | rfl | rfl | rfl | rfl
        · by_cases hz : z % 1 = 0
          · have V := Lib.hid (show bitsVal (0 :: ys) = some (ys, 8 * (ys.length : Int) - 0) by rw [E'.out, if_neg (by simp <;> omega)])
            clear E'
            go_enter Try.func58, Try.ntmps58
            go_wp2_with fail
            go_quiet (fail)
            go_wp2_with fail
            go_quiet (fail)
            go_wp2_with fail
            go_ret3
            exact bt_yes V.out (drew2 _ _ _) (by have := Hn.out; omega) (by have := Hn.out; omega) (by omega) (by omega) (bt_tail Hb.out (by have := Hn.out; omega))
          · omega
        · by_cases hz : z % 2 = 0
          · have V := Lib.hid (show bitsVal (1 :: ys) = some (ys, 8 * (ys.length : Int) - 1) by rw [E'.out, if_neg (by simp <;> omega)])
            clear E'
            go_enter Try.func58, Try.ntmps58
            go_wp2_with fail
            go_quiet (fail)
            go_wp2_with fail
            go_quiet (fail)
            go_wp2_with fail
            go_ret3
            exact bt_yes V.out (drew2 _ _ _) (by have := Hn.out; omega) (by have := Hn.out; omega) (by omega) (by omega) (bt_tail Hb.out (by have := Hn.out; omega))
          · have V := Lib.hid (show bitsVal (1 :: ys) = none by rw [E'.out, if_pos (by simp <;> omega)])
            clear E'
            go_enter Try.func58, Try.ntmps58
            go_wp2_with fail
            go_quiet (fail)
            go_wp2_with fail
            go_ret3
            exact bt_no V.out (drew1 _ _)
        · by_cases hz : z % 4 = 0
          · have V := Lib.hid (show bitsVal (2 :: ys) = some (ys, 8 * (ys.length : Int) - 2) by rw [E'.out, if_neg (by simp <;> omega)])
            clear E'
            go_enter Try.func58, Try.ntmps58
            go_wp2_with fail
            go_quiet (fail)
            go_wp2_with fail
            go_quiet (fail)
            go_wp2_with fail
            go_ret3
            exact bt_yes V.out (drew2 _ _ _) (by have := Hn.out; omega) (by have := Hn.out; omega) (by omega) (by omega) (bt_tail Hb.out (by have := Hn.out; omega))
          · have V := Lib.hid (show bitsVal (2 :: ys) = none by rw [E'.out, if_pos (by simp <;> omega)])
            clear E'
            go_enter Try.func58, Try.ntmps58
            go_wp2_with fail
            go_quiet (fail)
            go_wp2_with fail
            go_ret3
            exact bt_no V.out (drew1 _ _)
        · by_cases hz : z % 8 = 0
          · have V := Lib.hid (show bitsVal (3 :: ys) = some (ys, 8 * (ys.length : Int) - 3) by rw [E'.out, if_neg (by simp <;> omega)])
            clear E'
            go_enter Try.func58, Try.ntmps58
            go_wp2_with fail
            go_quiet (fail)
            go_wp2_with fail
            go_quiet (fail)
            go_wp2_with fail
            go_ret3
            exact bt_yes V.out (drew2 _ _ _) (by have := Hn.out; omega) (by have := Hn.out; omega) (by omega) (by omega) (bt_tail Hb.out (by have := Hn.out; omega))
          · have V := Lib.hid (show bitsVal (3 :: ys) = none by rw [E'.out, if_pos (by simp <;> omega)])
            clear E'
            go_enter Try.func58, Try.ntmps58
            go_wp2_with fail
            go_quiet (fail)
            go_wp2_with fail
            go_ret3
            exact bt_no V.out (drew1 _ _)
        · by_cases hz : z % 16 = 0
          · have V := Lib.hid (show bitsVal (4 :: ys) = some (ys, 8 * (ys.length : Int) - 4) by rw [E'.out, if_neg (by simp <;> omega)])
            clear E'
            go_enter Try.func58, Try.ntmps58
            go_wp2_with fail
            go_quiet (fail)
            go_wp2_with fail
            go_quiet (fail)
            go_wp2_with fail
            go_ret3
            exact bt_yes V.out (drew2 _ _ _) (by have := Hn.out; omega) (by have := Hn.out; omega) (by omega) (by omega) (bt_tail Hb.out (by have := Hn.out; omega))
          · have V := Lib.hid (show bitsVal (4 :: ys) = none by rw [E'.out, if_pos (by simp <;> omega)])
            clear E'
            go_enter Try.func58, Try.ntmps58
            go_wp2_with fail
            go_quiet (fail)
            go_wp2_with fail
            go_ret3
            exact bt_no V.out (drew1 _ _)
        · by_cases hz : z % 32 = 0
          · have V := Lib.hid (show bitsVal (5 :: ys) = some (ys, 8 * (ys.length : Int) - 5) by rw [E'.out, if_neg (by simp <;> omega)])
            clear E'
            go_enter Try.func58, Try.ntmps58
            go_wp2_with fail
            go_quiet (fail)
            go_wp2_with fail
            go_quiet (fail)
            go_wp2_with fail
            go_ret3
            exact bt_yes V.out (drew2 _ _ _) (by have := Hn.out; omega) (by have := Hn.out; omega) (by omega) (by omega) (bt_tail Hb.out (by have := Hn.out; omega))
          · have V := Lib.hid (show bitsVal (5 :: ys) = none by rw [E'.out, if_pos (by simp <;> omega)])
            clear E'
            go_enter Try.func58, Try.ntmps58
            go_wp2_with fail
            go_quiet (fail)
            go_wp2_with fail
            go_ret3
            exact bt_no V.out (drew1 _ _)
        · by_cases hz : z % 64 = 0
          · have V := Lib.hid (show bitsVal (6 :: ys) = some (ys, 8 * (ys.length : Int) - 6) by rw [E'.out, if_neg (by simp <;> omega)])
            clear E'
            go_enter Try.func58, Try.ntmps58
            go_wp2_with fail
            go_quiet (fail)
            go_wp2_with fail
            go_quiet (fail)
            go_wp2_with fail
            go_ret3
            exact bt_yes V.out (drew2 _ _ _) (by have := Hn.out; omega) (by have := Hn.out; omega) (by omega) (by omega) (bt_tail Hb.out (by have := Hn.out; omega))
          · have V := Lib.hid (show bitsVal (6 :: ys) = none by rw [E'.out, if_pos (by simp <;> omega)])
            clear E'
            go_enter Try.func58, Try.ntmps58
            go_wp2_with fail
            go_quiet (fail)
            go_wp2_with fail
            go_ret3
            exact bt_no V.out (drew1 _ _)
        · by_cases hz : z % 128 = 0
          · have V := Lib.hid (show bitsVal (7 :: ys) = some (ys, 8 * (ys.length : Int) - 7) by rw [E'.out, if_neg (by simp <;> omega)])
            clear E'
            go_enter Try.func58, Try.ntmps58
            go_wp2_with fail
            go_quiet (fail)
            go_wp2_with fail
            go_quiet (fail)
            go_wp2_with fail
            go_ret3
            exact bt_yes V.out (drew2 _ _ _) (by have := Hn.out; omega) (by have := Hn.out; omega) (by omega) (by omega) (bt_tail Hb.out (by have := Hn.out; omega))
          · have V := Lib.hid (show bitsVal (7 :: ys) = none by rw [E'.out, if_pos (by simp <;> omega)])
            clear E'
            go_enter Try.func58, Try.ntmps58
            go_wp2_with fail
            go_quiet (fail)
            go_wp2_with fail
            go_ret3
            exact bt_no V.out (drew1 _ _)
end Go.Proofs.Ytcimjejbakgadaa
