/- The contract of (*String).readBase128Int, where there is a number. -/
import Derived.Test.YtnknidehcihcnaaOid
import Derived.Test.YtnknidehcihcnaaDerAsn
import Derived.Test.YtnknidehcihcnaaGInts
namespace Go.Proofs.Ytnknidehcihcnaa
open Go.RowKit
set_option linter.unusedVariables false

theorem and127' {b : Int} (h0 : 0 ≤ b) (h1 : b < 256) : bits BinOp.and IntKind.u8 b 127 = b % 128 := by
  have h : ∀ m : Fin 256, bits BinOp.and IntKind.u8 ((m.val : Nat) : Int) 127 = ((m.val : Nat) : Int) % 128 := by decide +kernel
  obtain ⟨k, rfl⟩ := Int.eq_ofNat_of_zero_le h0
  exact h ⟨k, by omega⟩
theorem and128' {b : Int} (h0 : 0 ≤ b) (h1 : b < 256) : bits BinOp.and IntKind.u8 b 128 = if b < 128 then 0 else 128 := by
  have h : ∀ m : Fin 256, bits BinOp.and IntKind.u8 ((m.val : Nat) : Int) 128 = if ((m.val : Nat) : Int) < 128 then 0 else 128 := by decide +kernel
  obtain ⟨k, rfl⟩ := Int.eq_ofNat_of_zero_le h0
  exact h ⟨k, by omega⟩
theorem or_i64' (r d : Nat) (hr : r ≤ 16777216) (hd : d < 128) : bits BinOp.or IntKind.i64 ((r : Int) * 128) (d : Int) = (r : Int) * 128 + d := by
  show IntKind.i64.wrap ((BitVec.ofInt 64 ((r : Int) * 128) ||| BitVec.ofInt 64 (d : Int)).toNat : Int) = _
  have e1 : (BitVec.ofInt 64 ((r : Int) * 128)).toNat = r <<< 7 := by
    rw [show (r : Int) * 128 = ((r * 128 : Nat) : Int) by omega]
    simp only [BitVec.ofInt_natCast, BitVec.toNat_ofNat]
    rw [Nat.mod_eq_of_lt (by omega), Nat.shiftLeft_eq]
  have e2 : (BitVec.ofInt 64 (d : Int)).toNat = d := by
    simp only [BitVec.ofInt_natCast, BitVec.toNat_ofNat]
    exact Nat.mod_eq_of_lt (by omega)
  rw [BitVec.toNat_or, e1, e2, ← Nat.shiftLeft_add_eq_or_of_lt (by omega) r, Nat.shiftLeft_eq, IntKind.wrap_i64]
  omega

theorem rd128_step {i ret : Nat} {xs : List Int} {p : Nat × List Int} (h : rd128 i ret xs = some p) : ∃ b r, xs = b :: r ∧ i ≠ 5 ∧ ret < 16777216 ∧ ¬ (i = 0 ∧ b = 128) ∧
    ((b < 128 ∧ p = (ret * 128 + (b % 128).toNat, r)) ∨ (¬ b < 128 ∧ rd128 (i + 1) (ret * 128 + (b % 128).toNat) r = some p)) := by
  cases xs with
  | nil => cases h
  | cons b r =>
    unfold rd128 at h
    split at h
    · cases h
    · split at h
      · cases h
      · split at h
        · cases h
        · refine ⟨b, r, rfl, by assumption, by omega, by assumption, ?_⟩
          split at h
          · injection h with h; exact .inl ⟨by assumption, h.symm⟩
          · exact .inr ⟨by assumption, h⟩
theorem rd128_i (i ret : Nat) (xs : List Int) {p : Nat × List Int} (hi : 5 < i) (h : rd128 i ret xs = some p) : True := trivial

/-- A number has been read. -/
def Rd128 (B g go : Nat) (v : Nat) (rest : List Int) (w : World) (e : Ending) (w' : World) : Prop :=
  e = .returned (.bool true) ∧ Fr [g, go] w w' ∧ SlB w' B g 79 rest.length rest ∧ Blk w' go 3 #[.int .i64 v]

set_option maxRecDepth 100000 in
set_option maxHeartbeats 1600000 in
theorem base128_yes (g go n : Nat) (xs : List Int) (v : Nat) (rest : List Int) (x0 : Int) (B : Nat) (w : World)
    (hs : SlB w B g 79 n xs) (ho : Blk w go 3 #[.int .i64 x0]) (h1 : g ≠ go) (hB : B ≤ g) (hBo : B ≤ go) (hl : Lim n) (hr : rd128 0 0 xs = some (v, rest)) :
    Calls Try.prog 60 #[.pointer (some ⟨g, 0, none⟩), .pointer (some ⟨go, 0, none⟩)] w (Rd128 B g go v rest w) := by
  have Hs := Lib.hid hs
  have Ho := Lib.hid ho
  have Hr := Lib.hid hr
  have Hl := Lib.hid hl
  have hgo := ho.lt
  have hgl : g < w.heap.size := by obtain ⟨a, c, k, _⟩ := hs; exact k.lt
  clear hs ho hr hl
  obtain ⟨w0, hw0⟩ : ∃ w0, w0 = w := ⟨_, rfl⟩
  have Hw0 := Lib.hid hw0
  clear hw0
  go_enter Try.func60, Try.ntmps60
  go_wp2_with fail
  go_loopw [5, 6] (fun ret i wr => ∃ (j rt : Nat) (ys : List Int), j ≤ 5 ∧ ret = .int .i64 rt ∧ i = .int .i64 j ∧ SlB wr B g 79 ys.length ys ∧ ys.length ≤ n ∧ Hid (rd128 j rt ys = some (v, rest)) ∧ Fr [g] w wr) (fun _ i _ => (6 - intOf i).toNat)
  case atStart => exact ⟨0, 0, xs, by omega, rfl, rfl, by rw [Hs.out.len]; exact Hs.out, Nat.le_of_eq Hs.out.len, Hr, Fr.refl _ _⟩
  case round =>
    obtain ⟨j, rt, ys, hj, rfl, rfl, hsl, hyn, hrd, hfr⟩ := hrel
    obtain ⟨b, r, rfl, j5, rt24, hb0, hcase⟩ := rd128_step hrd.out
    obtain ⟨a, c, k, d1, d2, d3, d4, d5⟩ := hsl
    obtain ⟨m, hm⟩ : ∃ m, m = (b :: r).length := ⟨_, rfl⟩
    have hm1 : m = r.length + 1 := by rw [hm]; rfl
    rw [← hm] at k d1 d3 hyn
    have hb := d5 b (by simp)
    obtain ⟨bn, rfl⟩ := Int.eq_ofNat_of_zero_le hb.1
    have hbn : bn < 256 := by omega
    obtain ⟨ab, o, ha, haB, hcell⟩ := d4 (by simp)
    subst ha
    have cb := hcell 0 (by simp)
    simp only [Nat.add_zero, List.getD_cons_zero] at cb
    have c0 := k.one
    have Hk := Lib.hid k
    have R := Lib.hid (read_yes g (some ⟨ab, o, none⟩) m c 1 wr k (by omega) d1 d2)
    have hml := Hl.out
    have A1 := Lib.hid (and127' hb.1 hb.2)
    have A2 := Lib.hid (and128' hb.1 hb.2)
    have hd : (bn % 128 : Nat) < 128 := Nat.mod_lt _ (by decide)
    have A3 := Lib.hid (or_i64' rt (bn % 128) (by omega) hd)
    have hjne : ((j : Int) == 5) = false := by simp; omega
    have hgab : g ≠ ab := by omega
    have HF := Lib.hid hfr
    have S1 : SlB (wr.setCell ⟨g, 0, none⟩ (.slice (cutA (some ⟨ab, o, none⟩) c 1) (m - 1) (c - 1))) B g 79 r.length r := by
      refine ⟨_, _, by have := k.set_ 0 (.slice (cutA (some ⟨ab, o, none⟩) c 1) (m - 1) (c - 1)); rw [hm1] at this ⊢; exact this, by omega, by omega, rfl, ?_, fun x hx => d5 x (List.mem_cons_of_mem _ hx)⟩
      have := (d4.cut (k := 1) (by rw [← hm]; exact d1) : BIn wr B (cutA (some ⟨ab, o, none⟩) c 1) (((bn : Int) :: r).drop 1))
      exact ((Fr.refl [g] wr).set_ (.inl (by simp)) _).bin this (by simp; exact hB)
    have HS1 := Lib.hid S1
    have hmpos : (0 : Int) < (m : Int) := by omega
    have hm0 : 0 < m := by omega
    have Hm := Lib.hid hm
    have Hm1 := Lib.hid hm1
    have hcase' := Lib.hid hcase
    have Hb0 := Lib.hid hb0
    have hrtd : decide ((16777216 : Int) ≤ (rt : Int)) = false := by rw [decide_eq_false_iff_not]; omega
    have e7 : (rt : Int) * 128 ≤ 2147483648 := by omega
    clear k d1 d2 d3 d4 d5 hcell hm hm1 hfr hcase hb S1 hb0
    have hz : (j = 0 ∧ bn ≠ 128) ∨ j ≠ 0 := by
      have := Hb0.out
      omega
    have cb' : (wr.setCell ⟨g, 0, none⟩ (.slice (cutA (some ⟨ab, o, none⟩) c 1) (m - 1) (c - 1))).cell? ⟨ab, o, none⟩ = some (.int .u8 (bn : Int)) := by
      rw [World.cell?_setCell_other _ _ _ _ (by simp <;> omega)]
      exact cb
    go_wp2_with fail
    refine R.out.mono ?_
    rintro e w2 ⟨rfl, rfl⟩
    generalize cutA (some ⟨ab, o, none⟩) c 1 = CA at *
    generalize hw2 : wr.setCell ⟨g, 0, none⟩ (.slice CA (m - 1) (c - 1)) = w2 at *
    clear cb c0
    have q1 : bits BinOp.and IntKind.u8 (bn : Int) 127 = (bn : Int) % 128 := A1.out
    have q3 : bits BinOp.or IntKind.i64 ((rt : Int) * 128) ((bn : Int) % 128) = (rt : Int) * 128 + (bn : Int) % 128 := by have := A3.out; rw [Int.natCast_emod] at this; exact this
    have hfw : Fr [g] w0 w2 := by rw [Hw0.out, ← hw2]; exact HF.out.set_ (.inl (by simp)) _
    have Hfw := Lib.hid hfw
    clear hw2 hfw
    have ho2 : Blk w2 go 3 #[.int .i64 x0] := Hfw.out.blk (by rw [Hw0.out]; exact Ho.out) (by simp; exact h1.symm)
    have o0 := ho2.one
    have of0 := ho2.frozen 0
    have Ho2 := Lib.hid ho2
    clear ho2
    have hz2 : (j = 0 ∧ ((bn : Int) == 128) = false) ∨ ((j : Int) == 0) = false := by
      rcases hz with ⟨a, b⟩ | a
      · left; exact ⟨a, by simp; omega⟩
      · right; simp; omega
    clear hz
    by_cases hlt : bn < 128
    · have q2 : bits BinOp.and IntKind.u8 (bn : Int) 128 = 0 := by rw [A2.out, if_pos (by omega)]
      have q4 : (bn : Int) % 128 = (bn : Int) := by omega
      rw [q4] at q3
      have hres : v = rt * 128 + bn ∧ rest = r := by
        rcases hcase'.out with ⟨_, h⟩ | ⟨h, _⟩
        · injection h with h1 h2
          refine ⟨?_, h2⟩
          rw [h1]
          congr 1
          omega
        · omega
      have Hres := Lib.hid hres
      clear hres
      rcases hz2 with ⟨rfl, hz2⟩ | hz2
      all_goals (
        go_wp2_with fail
        go_ret
        obtain ⟨e1, e2⟩ := Hres.out
        refine ⟨rfl, ?_, ?_, ?_⟩
        · rw [← Hw0.out]
          exact (Hfw.out.mono (by simp)).set_ (p := ⟨go, 0, none⟩) (.inl (by simp)) _
        · rw [e2]
          exact HS1.out.fr (S := [go]) ((Fr.refl [go] w2).set_ (.inl (by simp)) _) (by simp; exact h1) (by simp; exact hBo)
        · have := Ho2.out.set_ 0 (.int .i64 ((rt : Int) * 128 + (bn : Int)))
          rw [e1]
          simpa using this)
    · have q2 : bits BinOp.and IntKind.u8 (bn : Int) 128 = 128 := by rw [A2.out, if_neg (by omega)]
      obtain ⟨j1, hj1⟩ : ∃ j1, j1 = j + 1 := ⟨_, rfl⟩
      have HJ1 := Lib.hid hj1
      clear hj1
      rcases hz2 with ⟨rfl, hz2⟩ | hz2
      all_goals (
        go_wp2_with fail
        go_roundw
        case rel =>
          rcases hcase'.out with ⟨h, _⟩ | ⟨_, h⟩
          · omega
          · have e1 := HJ1.out
            refine ⟨j1, rt * 128 + bn % 128, r, by omega, ?_, ?_, HS1.out, by have := Hm1.out; omega, Lib.hid (by rw [e1, show rt * 128 + bn % 128 = rt * 128 + ((bn : Int) % 128).toNat by omega]; exact h), by rw [← Hw0.out]; exact Hfw.out⟩
            · first | rfl | (congr 1; omega) | (simp; done) | (simp; omega)
            · rw [e1]; first | rfl | (congr 1; omega) | (simp; done) | (simp; omega)
        case measure => first | (simp [intOf]; done) | (simp [intOf]; omega))
end Go.Proofs.Ytnknidehcihcnaa
