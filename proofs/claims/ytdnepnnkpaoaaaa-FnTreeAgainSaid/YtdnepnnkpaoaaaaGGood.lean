/- The ASN.1 methods of a builder that holds no error, whatever its flag. -/
import Derived.Test.YtdnepnnkpaoaaaaGMeth
namespace Go.Proofs.Ytdnepnnkpaoaaaa
open Go.RowKit
set_option linter.unusedVariables false

theorem Outc.ends' {K : Kd} {base g off pl : Nat} {pb : Bool} {ic : Value} {rb : Option Nat} {ins : Bool} {dep M : Nat} {w : World} {res : Option (List Int)} : Ends (Outc K base g off pl pb ic rb ins dep M w res) := fun _ _ h => h.ends
theorem Outc.endsF {K : Kd} {base g off pl : Nat} {pb : Bool} {ic : Value} {rb : Option Nat} {ins : Bool} {dep M : Nat} {w : World} {res : Option (List Int)} : Ends (Outc K base g off pl pb ic rb ins dep M w res) := fun _ _ h => h.ends
theorem fS_lt {K : Kd} {w : World} {base g : Nat} {xs : List Int} {off pl : Int} {pa : Bool} {ic : Value} {rb : Option Nat} {ins ins' : Bool} (hg : Bld K w base g xs off pl pa ic rb) (hfl : Flag w base ic ins) : ∀ i ∈ fS g rb ic ins', i < w.heap.size := by
  intro i hi
  unfold fS at hi
  simp only [List.mem_cons, List.mem_append] at hi
  rcases hi with rfl | hi | hi
  · exact hg.lt
  · cases rb with
    | none => simp at hi
    | some q => simp at hi; subst hi; exact (hg.row _ rfl).2
  · have hi' : i ∈ icB ic := by cases ins' <;> simp at hi; exact hi
    rcases hfl with ⟨_, h⟩ | ⟨gq, h, hq, _⟩
    · rw [h] at hi'; simp [icB] at hi'
    · rw [h] at hi'; simp [icB] at hi'; subst hi'; exact hq.lt
theorem Flag.keep0 {w w1 : World} {base : Nat} {ic : Value} {ins : Bool} (hfl : Flag w base ic ins) (hf : Fr [] w w1) : Flag w1 base ic ins := hfl.fr hf (fun _ _ => by simp)

/-- An element whose continuation adds and returns. -/
theorem gElem (K : Kd) (base g off pl : Nat) (pb : Bool) (tag : Int) (xs out : List Int) (ic : Value) (rb : Option Nat) (ins : Bool) (dep M : Nat) (w : World) (KF : Nat) (cs : Array Value) (ty : TypeId)
    (hg : Bld K w base g xs off pl pb ic rb) (hfl : Flag w base ic ins) (hop : off + pl ≤ xs.length) (hb : base ≤ w.heap.size) (ht : tag % 32 ≠ 31) (h0 : 0 ≤ tag) (h1 : tag < 256)
    (hl : xs.length + (derWrap tag out).length ≤ K.lim) (ho : out.length ≤ 16777215) (hK : ∀ args W, (callFunc KF args).run Try.prog W = .ok (.enter KF args) W)
    (hc : ∀ (gc rc : Nat) (icc : Value) (wa : World) (xs' : List Int) (off' pl' : Nat), Bld K wa base gc xs' off' pl' true icc (some rc) → Blk wa w.heap.size ty cs → w.heap.size ≠ gc → w.heap.size ≠ rc → Fr (fS g rb ic false) w wa → w.heap.size < gc → (rb = some rc ∨ w.heap.size < rc) → xs'.length + out.length ≤ K.lim → base ≤ wa.heap.size →
      Calls Try.prog KF #[.pointer (some ⟨gc, 0, none⟩), .pointer (some ⟨w.heap.size, 0, none⟩)] wa (AddPost K base gc (xs' ++ out) off' pl' true icc (some rc) wa)) :
    Calls Try.prog 40 #[.pointer (some ⟨g, 0, none⟩), .int .u8 tag, .func (.func KF) #[] #[.pointer (some ⟨w.heap.size, 0, none⟩)]] (w.alloc (.cells cs ty)) (Outc K base g off pl pb ic rb ins (dep + 1) M w (some (xs ++ derWrap tag out))) := by
  have F1 : Fr [] w (w.alloc (.cells cs ty)) := (Fr.refl [] w).alloc _
  have hlx := derWrap_lenx tag out
  have S1 : (w.alloc (.cells cs ty)).heap.size = w.heap.size + 1 := by simp
  refine (addASN1 K base g KF w.heap.size off pl pb tag xs (some out) ic rb ins dep M (w.alloc (.cells cs ty)) (hg.keep F1) (hfl.keep0 F1) hop (Nat.le_trans hb F1.size) ht h0 h1 (by omega)
    (fun o h => by injection h with h; subst h; exact ⟨hl, ho⟩) (fun h => by cases h) hK ?_).mono fun e w' h => Outc.from_ F1 h
  intro gc rc icc wa fa _ ba fla hba hgc hrc
  have pa := fa.blk (Blk.new w ty cs) (fun h => by have := fS_lt hg hfl _ h; omega)
  have hrc' : rb = some rc ∨ w.heap.size < rc := hrc.imp id (fun h => by omega)
  have hpr : w.heap.size ≠ rc := by
    rcases hrc' with h | h
    · have := (hg.row rc h).2; omega
    · omega
  have hFw : Fr (fS g rb ic false) w wa := (F1.mono (by simp)).trans fa (fun i hi => .inl hi)
  refine (hc gc rc icc wa _ _ _ ba pa (by omega) hpr hFw (by omega) hrc' ?_ hba).mono fun e w' h => ?_
  · simp only [List.length_append, List.length_replicate, List.length_singleton]
    omega
  · have := Outc.of_add (ins := true) (dep := dep) (M := M) ba fla h
    rw [List.append_assoc] at this
    exact this

section
variable (K : Kd) (base g off pl : Nat) (pb : Bool) (xs : List Int) (ic : Value) (rb : Option Nat) (ins : Bool) (dep M : Nat) (w : World)
  (hg : Bld K w base g xs off pl pb ic rb) (hfl : Flag w base ic ins) (hop : off + pl ≤ xs.length) (hb : base ≤ w.heap.size)
include hg hfl hop hb
theorem gBool (v : Bool) (hl : xs.length + (derWrap 1 [bByte v]).length ≤ K.lim) :
    Calls Try.prog 79 #[.pointer (some ⟨g, 0, none⟩), .bool v] w (Outc K base g off pl pb ic rb ins (dep + 1) M w (some (xs ++ derWrap 1 [bByte v]))) :=
  wBool g v w _ Outc.endsF (gElem K base g off pl pb 1 xs [bByte v] ic rb ins dep M w _ _ _ hg hfl hop hb (by decide) (by decide) (by decide) hl (by simp) (fun _ _ => by kernel_rfl)
    fun gc rc icc wa xs' off' pl' ba pa h1 h2 fa _ _ hl' hba => clos_bool K base gc rc _ _ _ _ _ _ v wa ba pa hl' hba)
theorem gSigned (tag v : Int) (h0 : -9223372036854775808 ≤ v) (h1 : v ≤ 9223372036854775807) (ht : tag % 32 ≠ 31) (t0 : 0 ≤ tag) (t1 : tag < 256) (hl : xs.length + (derWrap tag (bigB (intLen v) v)).length ≤ K.lim) :
    Calls Try.prog 101 #[.pointer (some ⟨g, 0, none⟩), .int .u8 tag, .int .i64 v] w (Outc K base g off pl pb ic rb ins (dep + 1) M w (some (xs ++ derWrap tag (bigB (intLen v) v)))) :=
  wSigned g tag v w _ Outc.endsF (gElem K base g off pl pb tag xs (bigB (intLen v) v) ic rb ins dep M w _ _ _ hg hfl hop hb ht t0 t1 hl (by rw [bigB_len]; have := intLen_bd v; omega) (fun _ _ => by kernel_rfl)
    fun gc rc icc wa xs' off' pl' ba pa h1' h2' fa _ _ hl' hba => clos_int K base gc rc _ _ _ _ _ _ v wa ba pa h1' h2' (by rw [bigB_len] at hl'; exact hl') hba h0 h1)
theorem gUint (v : Int) (h0 : 0 ≤ v) (h1 : v < 18446744073709551616) (hl : xs.length + (derWrap 2 (bigB (uintLen v) v)).length ≤ K.lim) :
    Calls Try.prog 82 #[.pointer (some ⟨g, 0, none⟩), .int .u64 v] w (Outc K base g off pl pb ic rb ins (dep + 1) M w (some (xs ++ derWrap 2 (bigB (uintLen v) v)))) :=
  wUint g v w _ Outc.endsF (gElem K base g off pl pb 2 xs (bigB (uintLen v) v) ic rb ins dep M w _ _ _ hg hfl hop hb (by decide) (by decide) (by decide) hl (by rw [bigB_len]; have := uintLen_bd v; omega) (fun _ _ => by kernel_rfl)
    fun gc rc icc wa xs' off' pl' ba pa h1' h2' fa _ _ hl' hba => clos_uint K base gc rc _ _ _ _ _ _ v wa ba pa h1' h2' (by rw [bigB_len] at hl'; exact hl') hba h0 h1)
theorem gOct (a : Option Addr) (n c : Nat) (ys : List Int) (hn : ys.length = n) (hy : BIn w w.heap.size a ys) (hya : ∀ b, a = some b → b.block < w.heap.size ∧ b.block ∉ fS g rb ic false) (hs : n ≤ 16000000) (hl : xs.length + (derWrap 4 ys).length ≤ K.lim) :
    Calls Try.prog 85 #[.pointer (some ⟨g, 0, none⟩), .slice a n c] w (Outc K base g off pl pb ic rb ins (dep + 1) M w (some (xs ++ derWrap 4 ys))) :=
  wOct g a n c w _ Outc.endsF (gElem K base g off pl pb 4 xs ys ic rb ins dep M w _ _ _ hg hfl hop hb (by decide) (by decide) (by decide) hl (by omega) (fun _ _ => by kernel_rfl)
    fun gc rc icc wa xs' off' pl' ba pa h1' h2' fa hgc hrc hl' hba => clos_oct K base gc rc _ _ ys _ _ _ _ a n c wa ba pa h1' h2' hn (fa.bin' hy (fun b hb => (hya b hb).2)).lt
      (fun b hb => ⟨by have := (hya b hb).1; omega, by
        rcases hrc with h | h
        · intro e; exact (hya b hb).2 (by rw [e, h]; simp [fS])
        · have := (hya b hb).1; omega⟩) (by rw [← hn]; exact hl') hba)
theorem gBits (a : Option Addr) (n c : Nat) (ys : List Int) (hn : ys.length = n) (hy : BIn w w.heap.size a ys) (hya : ∀ b, a = some b → b.block < w.heap.size ∧ b.block ∉ fS g rb ic false) (hs : n ≤ 16000000) (hl : xs.length + (derWrap 3 (0 :: ys)).length ≤ K.lim) :
    Calls Try.prog 86 #[.pointer (some ⟨g, 0, none⟩), .slice a n c] w (Outc K base g off pl pb ic rb ins (dep + 1) M w (some (xs ++ derWrap 3 (0 :: ys)))) :=
  wBits g a n c w _ Outc.endsF (gElem K base g off pl pb 3 xs (0 :: ys) ic rb ins dep M w _ _ _ hg hfl hop hb (by decide) (by decide) (by decide) hl (by simp; omega) (fun _ _ => by kernel_rfl)
    fun gc rc icc wa xs' off' pl' ba pa h1' h2' fa hgc hrc hl' hba => clos_bits K base gc rc _ _ ys _ _ _ _ a n c wa ba pa h1' h2' hn (fa.bin' hy (fun b hb => (hya b hb).2)).lt
      (fun b hb => ⟨by have := (hya b hb).1; omega, by
        rcases hrc with h | h
        · intro e; exact (hya b hb).2 (by rw [e, h]; simp [fS])
        · have := (hya b hb).1; omega⟩) (by rw [← hn]; simpa using hl') hba)
theorem gOid (a : Option Addr) (n c : Nat) (zs : List Int) (hn : zs.length = n) (hc : n ≤ c) (hy : IIn w w.heap.size a zs) (hya : ∀ b, a = some b → b.block < w.heap.size ∧ b.block ∉ fS g rb ic false) (hs : n ≤ 2000000) (hok : oidOk zs = true) (hsm : Small zs) (ho : (oidB zs).length ≤ 16777215) (hl : xs.length + (derWrap 6 (oidB zs)).length ≤ K.lim) :
    Calls Try.prog 36 #[.pointer (some ⟨g, 0, none⟩), .slice a n c] w (Outc K base g off pl pb ic rb ins (dep + 1) M w (some (xs ++ derWrap 6 (oidB zs)))) :=
  wOid g a n c w _ Outc.endsF (gElem K base g off pl pb 6 xs (oidB zs) ic rb ins dep M w _ _ _ hg hfl hop hb (by decide) (by decide) (by decide) hl ho (fun _ _ => by kernel_rfl)
    fun gc rc icc wa xs' off' pl' ba pa h1' h2' fa hgc hrc hl' hba => clos_oid K base gc _ _ zs _ _ _ _ (some rc) a n c wa ba pa h1' (fun k hk => by injection hk with hk; subst hk; exact h2') hn hc (fa.iin' hy (fun b hb => (hya b hb).2)).lt
      (fun b hb => ⟨by have := (hya b hb).1; omega, fun k hk => by
        injection hk with hk
        subst hk
        rcases hrc with h | h
        · intro e; exact (hya b hb).2 (by rw [e, h]; simp [fS])
        · have := (hya b hb).1; omega⟩) (by omega) hok hsm hl' hba)
end
end Go.Proofs.Ytdnepnnkpaoaaaa
