/- A step on a builder that holds an error leaves it so. (Printed by gen_badi.py.) -/
import Derived.Test.YtdnepnnkpaoaaaaSteps0
namespace Go.Proofs.Ytdnepnnkpaoaaaa
open Go.RowKit
set_option linter.unusedVariables false

theorem item_bad (dep : Nat) (hS : SBad dep) (g : Nat) (ins : Bool) (B : Nat) (w : World) (x : It) (v : Value) (hb : Bad w g) (hv : ItV w B x v) (hok : okI ins (dep + 1) x = true) (hBg : B ≤ g) (hBw : B ≤ w.heap.size) (hc : x.cost ≤ Mx) :
    Calls Try.prog (itemFn x.kd) #[.pointer (some ⟨g, 0, none⟩), v] w (BadS g ins w) := by
  obtain ⟨kd, n, t, d, o, ks⟩ := x
  obtain ⟨hn, a3, c3, a4, c4, a5, c5, rfl, ⟨l3, m3, b3, y3⟩, ⟨l4, m4, b4⟩, ⟨l5, m5, b5⟩⟩ := hv
  obtain ⟨k0', k1', t0, t1, h23, h4, hsm, hdp, hks⟩ := okI_mk hok
  rw [cost_mk] at hc
  unfold Mx at hc
  have hE : Ends (BadS g ins w) := BadS.ends
  have hf := fun (w1 : World) (h : Fr [] w w1) => hb.keep h
  have hc' : costs ks ≤ Mx := by unfold Mx; omega
  have hP : ∀ (w1 : World) (f : FuncId) (args : Array Value), Fr [] w w1 → Calls Try.prog f args w1 (BadP g w1) → Calls Try.prog f args w1 (BadS g ins w) := fun w1 f args h1 h2 => h2.mono fun e w' h => (h.from_ h1).toS
  show Calls Try.prog (itemFn kd) _ w _
  have hkd : kd = 0 ∨ kd = 1 ∨ kd = 2 ∨ kd = 3 ∨ kd = 4 ∨ kd = 5 ∨ kd = 6 ∨ kd = 7 ∨ kd = 8 ∨ kd = 9 ∨ kd = 10 ∨ kd = 11 ∨ kd = 12 ∨ kd = 13 ∨ kd = 14 ∨ kd = 15 ∨ kd = 16 ∨ kd = 17 ∨ kd = 18 ∨ kd = 19 ∨ kd = 20 ∨ kd = 21 ∨ kd = 22 ∨ kd = 23 ∨ kd = 24 ∨ kd = 25 := by omega
  rcases hkd with rfl | rfl | rfl | rfl | rfl | rfl | rfl | rfl | rfl | rfl | rfl | rfl | rfl | rfl | rfl | rfl | rfl | rfl | rfl | rfl | rfl | rfl | rfl | rfl | rfl | rfl
  · exact k0 g n t _ _ _ w _ hE fun w1 h1 => hP w1 _ _ h1 (xU8 g _ w1 (hf w1 h1))
  · exact k1 g n t _ _ _ w _ hE fun w1 h1 => hP w1 _ _ h1 (xU16 g _ w1 (hf w1 h1))
  · exact k2 g n t _ _ _ w _ hE fun w1 h1 => hP w1 _ _ h1 (xU24 g _ w1 (hf w1 h1))
  · exact k3 g n t _ _ _ w _ hE fun w1 h1 => hP w1 _ _ h1 (xU32 g _ w1 (hf w1 h1))
  · exact k4 g n t _ _ _ w _ hE fun w1 h1 => hP w1 _ _ h1 (xU48 g _ w1 (hf w1 h1))
  · exact k5 g n t _ _ _ w _ hE fun w1 h1 => hP w1 _ _ h1 (xU64 g _ w1 (hf w1 h1))
  · exact k6 g w n t _ _ a3 _ c3 d rfl b3.lt (by omega) w rfl _ hE fun a' c' w1 h1 _ _ => hP w1 _ _ h1 (xBytes g _ w1 (hf w1 h1))
  · exact k7 g n t _ _ _ _ _ w _ hE fun p w1 h1 _ _ => wP8 g _ w1 _ hE (hP w1 _ _ h1 (xLP g _ _ _ w1 (hf w1 h1)))
  · exact k8 g n t _ _ _ _ _ w _ hE fun p w1 h1 _ _ => wP16 g _ w1 _ hE (hP w1 _ _ h1 (xLP g _ _ _ w1 (hf w1 h1)))
  · exact k9 g n t _ _ _ _ _ w _ hE fun p w1 h1 _ _ => wP24 g _ w1 _ hE (hP w1 _ _ h1 (xLP g _ _ _ w1 (hf w1 h1)))
  · exact k10 g n t _ _ _ _ _ w _ hE fun p w1 h1 _ _ => wP32 g _ w1 _ hE (hP w1 _ _ h1 (xLP g _ _ _ w1 (hf w1 h1)))
  · exact k11 g n t _ _ _ _ _ w _ hE fun p w1 h1 _ _ => hP w1 _ _ h1 (xASN1 g _ _ w1 (hf w1 h1))
  · exact k12 g n t _ _ _ w _ hE fun w1 h1 => wBool g _ w1 _ hE (hP _ _ _ (h1.alloc _) (xASN1 g _ _ _ (hf _ (h1.alloc _))))
  · exact k13 g n t _ _ _ w _ hE fun w1 h1 => wInt64 g n w1 _ hE (wSigned g 2 n w1 _ hE (hP _ _ _ (h1.alloc _) (xASN1 g _ _ _ (hf _ (h1.alloc _)))))
  · exact k14 g n t _ _ _ w _ hE fun w1 h1 => wInt64T g n (t % 256) w1 _ hE (wSigned g (t % 256) n w1 _ hE (hP _ _ _ (h1.alloc _) (xASN1 g _ _ _ (hf _ (h1.alloc _)))))
  · exact k15 g n t _ _ _ w _ hE fun w1 h1 => wUint g _ w1 _ hE (hP _ _ _ (h1.alloc _) (xASN1 g _ _ _ (hf _ (h1.alloc _))))
  · exact k16 g n t _ _ _ w _ hE fun w1 h1 => wEnum g n w1 _ hE (wSigned g 10 n w1 _ hE (hP _ _ _ (h1.alloc _) (xASN1 g _ _ _ (hf _ (h1.alloc _)))))
  · exact k17 g n t _ _ _ w _ hE fun w1 h1 => hP w1 _ _ h1 (xNull g w1 (hf w1 h1))
  · exact k18 g w n t _ _ a3 _ c3 d rfl b3.lt (by omega) w rfl _ hE fun a' c' w1 h1 _ _ => wOct g _ _ _ w1 _ hE (hP _ _ _ (h1.alloc _) (xASN1 g _ _ _ (hf _ (h1.alloc _))))
  · exact k19 g w n t _ _ a3 _ c3 d rfl b3.lt (by omega) w rfl _ hE fun a' c' w1 h1 _ _ => wBits g _ _ _ w1 _ hE (hP _ _ _ (h1.alloc _) (xASN1 g _ _ _ (hf _ (h1.alloc _))))
  · exact k20 g w n t _ _ a4 _ c4 o rfl b4.lt (by omega) w rfl _ hE fun a' c' w1 h1 _ _ _ => wOid g _ _ _ w1 _ hE (hP _ _ _ (h1.alloc _) (xASN1 g _ _ _ (hf _ (h1.alloc _))))
  · exact k21 g n t _ _ _ w _ hE fun ty u w1 h1 => hP w1 _ _ h1 (by obtain ⟨t, u', v1, v2, v4, v5, v6, v7, k⟩ := hf w1 h1; exact setErr g ty u _ _ _ _ _ _ _ w1 k)
  · exact k22 g n t _ _ _ w _ hE fun w1 h1 => hP w1 _ _ h1 (xUnwrite g _ w1 (hf w1 h1))
  · exact k23 g n t _ _ _ w _ fun ty u w1 h1 => ⟨.inr ⟨h23 rfl, ty, u, rfl⟩, hf w1 h1, h1.mono (by simp)⟩
  · refine k24 g n t _ _ a5 _ c5 w _ hE fun w1 h1 => ?_
    have hks' : okIs ins dep ks = true := by simpa using hks
    have F2 : Fr [] w (w1.alloc (.cells #[.slice a5 ks.length c5, .bool false] 121)) := h1.alloc _
    refine (addValue_any g a5 ks.length c5 false [g] w1 (BadS g ins (w1.alloc (.cells #[.slice a5 ks.length c5, .bool false] 121))) BadS.ends (by intro i hi; simp at hi; subst hi; exact (hf w1 h1).lt) ?_ ?_).mono ?_
    · rintro w2 ⟨_, ⟨t, u', v1, v2, v4, v5, v6, v7, k⟩, _⟩
      exact ⟨_, _, _, _, _, _, _, _, k⟩
    · exact (hS g ins B _ ks a5 ks.length c5 (hf _ F2) (F2.its hBw (by simp) b5) rfl hks' hBg (Nat.le_trans hBw F2.size) hc').mono fun e w2 h => ⟨h, h.2.2⟩
    · rintro e w2 (⟨hp, hq⟩ | ⟨rfl, ⟨_, hq⟩ | ⟨_, ty, u, w3, w4, hq, hf4, rfl⟩⟩)
      · exact hq.from_ F2
      · exact hq.from_ F2
      · obtain ⟨_, ⟨t, u', v1, v2, v4, v5, v6, v7, k⟩, f3⟩ := hq.from_ F2
        exact ⟨.inl rfl, ⟨ty, u, v1, v2, v4, v5, v6, v7, (hf4.blk k (by simp)).set_ 0 _⟩, (f3.trans hf4 (by simp)).set_ (p := ⟨g, 0, none⟩) (.inl (by simp)) _⟩
  · refine k25 g n t _ _ a5 _ c5 w _ hE fun w1 h1 => ?_
    have hks' : okIs ins dep ks = true := by simpa using hks
    have F2 : Fr [] w (w1.alloc (.cells #[.slice a5 ks.length c5, .bool true] 121)) := h1.alloc _
    refine (addValue_any g a5 ks.length c5 true [g] w1 (BadS g ins (w1.alloc (.cells #[.slice a5 ks.length c5, .bool true] 121))) BadS.ends (by intro i hi; simp at hi; subst hi; exact (hf w1 h1).lt) ?_ ?_).mono ?_
    · rintro w2 ⟨_, ⟨t, u', v1, v2, v4, v5, v6, v7, k⟩, _⟩
      exact ⟨_, _, _, _, _, _, _, _, k⟩
    · exact (hS g ins B _ ks a5 ks.length c5 (hf _ F2) (F2.its hBw (by simp) b5) rfl hks' hBg (Nat.le_trans hBw F2.size) hc').mono fun e w2 h => ⟨h, h.2.2⟩
    · rintro e w2 (⟨hp, hq⟩ | ⟨rfl, ⟨_, hq⟩ | ⟨_, ty, u, w3, w4, hq, hf4, rfl⟩⟩)
      · exact hq.from_ F2
      · exact hq.from_ F2
      · obtain ⟨_, ⟨t, u', v1, v2, v4, v5, v6, v7, k⟩, f3⟩ := hq.from_ F2
        exact ⟨.inl rfl, ⟨ty, u, v1, v2, v4, v5, v6, v7, (hf4.blk k (by simp)).set_ 0 _⟩, (f3.trans hf4 (by simp)).set_ (p := ⟨g, 0, none⟩) (.inl (by simp)) _⟩
end Go.Proofs.Ytdnepnnkpaoaaaa
