/- The builder's methods that only hand on: each ends as the call within it ends. (Printed by gen_gmeth.py.) -/
import Derived.Test.YtdnepnnkpaoaaaaGAsn
namespace Go.Proofs.Ytdnepnnkpaoaaaa
open Go.RowKit
set_option linter.unusedVariables false

/-- It returns, or panics with an error. -/
def Ends (R : Ending → World → Prop) : Prop := ∀ e w', R e w' → e = .returned (.tuple #[]) ∨ Panics e

set_option maxRecDepth 100000 in
set_option maxHeartbeats 800000 in
theorem wP8 (g : Nat) (fv : Value) (w : World) (R : Ending → World → Prop) (hR : Ends R)
    (h : Calls Try.prog 59 #[.pointer (some ⟨g, 0, none⟩), .int .i64 1, .bool false, fv] w R) :
    Calls Try.prog 74 #[.pointer (some ⟨g, 0, none⟩), fv] w R := by
  have H := Lib.hid h
  have HR := Lib.hid hR
  clear h hR
  go_enter Try.func74, Try.ntmps74
  go_wp2_with fail
  refine H.out.mono ?_
  intro e w2 hq
  rcases HR.out e w2 hq with rfl | ⟨t, u, rfl⟩
  · have hq' := Lib.hid hq
    clear hq
    go_wp2_with fail
    go_end0
    exact hq'.out
  · exact ⟨rfl, hq⟩

set_option maxRecDepth 100000 in
set_option maxHeartbeats 800000 in
theorem wP16 (g : Nat) (fv : Value) (w : World) (R : Ending → World → Prop) (hR : Ends R)
    (h : Calls Try.prog 59 #[.pointer (some ⟨g, 0, none⟩), .int .i64 2, .bool false, fv] w R) :
    Calls Try.prog 76 #[.pointer (some ⟨g, 0, none⟩), fv] w R := by
  have H := Lib.hid h
  have HR := Lib.hid hR
  clear h hR
  go_enter Try.func76, Try.ntmps76
  go_wp2_with fail
  refine H.out.mono ?_
  intro e w2 hq
  rcases HR.out e w2 hq with rfl | ⟨t, u, rfl⟩
  · have hq' := Lib.hid hq
    clear hq
    go_wp2_with fail
    go_end0
    exact hq'.out
  · exact ⟨rfl, hq⟩

set_option maxRecDepth 100000 in
set_option maxHeartbeats 800000 in
theorem wP24 (g : Nat) (fv : Value) (w : World) (R : Ending → World → Prop) (hR : Ends R)
    (h : Calls Try.prog 59 #[.pointer (some ⟨g, 0, none⟩), .int .i64 3, .bool false, fv] w R) :
    Calls Try.prog 77 #[.pointer (some ⟨g, 0, none⟩), fv] w R := by
  have H := Lib.hid h
  have HR := Lib.hid hR
  clear h hR
  go_enter Try.func77, Try.ntmps77
  go_wp2_with fail
  refine H.out.mono ?_
  intro e w2 hq
  rcases HR.out e w2 hq with rfl | ⟨t, u, rfl⟩
  · have hq' := Lib.hid hq
    clear hq
    go_wp2_with fail
    go_end0
    exact hq'.out
  · exact ⟨rfl, hq⟩

set_option maxRecDepth 100000 in
set_option maxHeartbeats 800000 in
theorem wP32 (g : Nat) (fv : Value) (w : World) (R : Ending → World → Prop) (hR : Ends R)
    (h : Calls Try.prog 59 #[.pointer (some ⟨g, 0, none⟩), .int .i64 4, .bool false, fv] w R) :
    Calls Try.prog 78 #[.pointer (some ⟨g, 0, none⟩), fv] w R := by
  have H := Lib.hid h
  have HR := Lib.hid hR
  clear h hR
  go_enter Try.func78, Try.ntmps78
  go_wp2_with fail
  refine H.out.mono ?_
  intro e w2 hq
  rcases HR.out e w2 hq with rfl | ⟨t, u, rfl⟩
  · have hq' := Lib.hid hq
    clear hq
    go_wp2_with fail
    go_end0
    exact hq'.out
  · exact ⟨rfl, hq⟩

set_option maxRecDepth 100000 in
set_option maxHeartbeats 800000 in
theorem wBool (g : Nat) (v : Bool) (w : World) (R : Ending → World → Prop) (hR : Ends R)
    (h : Calls Try.prog 40 #[.pointer (some ⟨g, 0, none⟩), .int .u8 1, .func (.func 100) #[] #[.pointer (some ⟨w.heap.size, 0, none⟩)]] (w.alloc (.cells #[.bool v] 4)) R) :
    Calls Try.prog 79 #[.pointer (some ⟨g, 0, none⟩), .bool v] w R := by
  have H := Lib.hid h
  have HR := Lib.hid hR
  clear h hR
  have hmf : ∀ (fn : Fn) (first cap : Array Value) (w : World), (Instr.makeFunc fn first cap).run Try.prog w = .ok (.func fn first cap) w := fun _ _ _ _ => rfl
  go_enter Try.func79, Try.ntmps79
  go_wp2_with fail
  refine H.out.mono ?_
  intro e w2 hq
  rcases HR.out e w2 hq with rfl | ⟨t, u, rfl⟩
  · have hq' := Lib.hid hq
    clear hq
    go_wp2_with fail
    go_end0
    exact hq'.out
  · exact ⟨rfl, hq⟩

set_option maxRecDepth 100000 in
set_option maxHeartbeats 800000 in
theorem wSigned (g : Nat) (tag v : Int) (w : World) (R : Ending → World → Prop) (hR : Ends R)
    (h : Calls Try.prog 40 #[.pointer (some ⟨g, 0, none⟩), .int .u8 tag, .func (.func 112) #[] #[.pointer (some ⟨w.heap.size, 0, none⟩)]] (w.alloc (.cells #[.int .i64 v] 2)) R) :
    Calls Try.prog 101 #[.pointer (some ⟨g, 0, none⟩), .int .u8 tag, .int .i64 v] w R := by
  have H := Lib.hid h
  have HR := Lib.hid hR
  clear h hR
  have hmf : ∀ (fn : Fn) (first cap : Array Value) (w : World), (Instr.makeFunc fn first cap).run Try.prog w = .ok (.func fn first cap) w := fun _ _ _ _ => rfl
  go_enter Try.func101, Try.ntmps101
  go_wp2_with fail
  refine H.out.mono ?_
  intro e w2 hq
  rcases HR.out e w2 hq with rfl | ⟨t, u, rfl⟩
  · have hq' := Lib.hid hq
    clear hq
    go_wp2_with fail
    go_end0
    exact hq'.out
  · exact ⟨rfl, hq⟩

set_option maxRecDepth 100000 in
set_option maxHeartbeats 800000 in
theorem wUint (g : Nat) (v : Int) (w : World) (R : Ending → World → Prop) (hR : Ends R)
    (h : Calls Try.prog 40 #[.pointer (some ⟨g, 0, none⟩), .int .u8 2, .func (.func 102) #[] #[.pointer (some ⟨w.heap.size, 0, none⟩)]] (w.alloc (.cells #[.int .u64 v] 102)) R) :
    Calls Try.prog 82 #[.pointer (some ⟨g, 0, none⟩), .int .u64 v] w R := by
  have H := Lib.hid h
  have HR := Lib.hid hR
  clear h hR
  have hmf : ∀ (fn : Fn) (first cap : Array Value) (w : World), (Instr.makeFunc fn first cap).run Try.prog w = .ok (.func fn first cap) w := fun _ _ _ _ => rfl
  go_enter Try.func82, Try.ntmps82
  go_wp2_with fail
  refine H.out.mono ?_
  intro e w2 hq
  rcases HR.out e w2 hq with rfl | ⟨t, u, rfl⟩
  · have hq' := Lib.hid hq
    clear hq
    go_wp2_with fail
    go_end0
    exact hq'.out
  · exact ⟨rfl, hq⟩

set_option maxRecDepth 100000 in
set_option maxHeartbeats 800000 in
theorem wOct (g : Nat) (a : Option Addr) (n c : Nat) (w : World) (R : Ending → World → Prop) (hR : Ends R)
    (h : Calls Try.prog 40 #[.pointer (some ⟨g, 0, none⟩), .int .u8 4, .func (.func 103) #[] #[.pointer (some ⟨w.heap.size, 0, none⟩)]] (w.alloc (.cells #[.slice a n c] 22)) R) :
    Calls Try.prog 85 #[.pointer (some ⟨g, 0, none⟩), .slice a n c] w R := by
  have H := Lib.hid h
  have HR := Lib.hid hR
  clear h hR
  have hmf : ∀ (fn : Fn) (first cap : Array Value) (w : World), (Instr.makeFunc fn first cap).run Try.prog w = .ok (.func fn first cap) w := fun _ _ _ _ => rfl
  go_enter Try.func85, Try.ntmps85
  go_wp2_with fail
  refine H.out.mono ?_
  intro e w2 hq
  rcases HR.out e w2 hq with rfl | ⟨t, u, rfl⟩
  · have hq' := Lib.hid hq
    clear hq
    go_wp2_with fail
    go_end0
    exact hq'.out
  · exact ⟨rfl, hq⟩

set_option maxRecDepth 100000 in
set_option maxHeartbeats 800000 in
theorem wBits (g : Nat) (a : Option Addr) (n c : Nat) (w : World) (R : Ending → World → Prop) (hR : Ends R)
    (h : Calls Try.prog 40 #[.pointer (some ⟨g, 0, none⟩), .int .u8 3, .func (.func 104) #[] #[.pointer (some ⟨w.heap.size, 0, none⟩)]] (w.alloc (.cells #[.slice a n c] 22)) R) :
    Calls Try.prog 86 #[.pointer (some ⟨g, 0, none⟩), .slice a n c] w R := by
  have H := Lib.hid h
  have HR := Lib.hid hR
  clear h hR
  have hmf : ∀ (fn : Fn) (first cap : Array Value) (w : World), (Instr.makeFunc fn first cap).run Try.prog w = .ok (.func fn first cap) w := fun _ _ _ _ => rfl
  go_enter Try.func86, Try.ntmps86
  go_wp2_with fail
  refine H.out.mono ?_
  intro e w2 hq
  rcases HR.out e w2 hq with rfl | ⟨t, u, rfl⟩
  · have hq' := Lib.hid hq
    clear hq
    go_wp2_with fail
    go_end0
    exact hq'.out
  · exact ⟨rfl, hq⟩

set_option maxRecDepth 100000 in
set_option maxHeartbeats 800000 in
theorem wOid (g : Nat) (a : Option Addr) (n c : Nat) (w : World) (R : Ending → World → Prop) (hR : Ends R)
    (h : Calls Try.prog 40 #[.pointer (some ⟨g, 0, none⟩), .int .u8 6, .func (.func 52) #[] #[.pointer (some ⟨w.heap.size, 0, none⟩)]] (w.alloc (.cells #[.slice a n c] 73)) R) :
    Calls Try.prog 36 #[.pointer (some ⟨g, 0, none⟩), .slice a n c] w R := by
  have H := Lib.hid h
  have HR := Lib.hid hR
  clear h hR
  have hmf : ∀ (fn : Fn) (first cap : Array Value) (w : World), (Instr.makeFunc fn first cap).run Try.prog w = .ok (.func fn first cap) w := fun _ _ _ _ => rfl
  go_enter Try.func36, Try.ntmps36
  go_wp2_with fail
  refine H.out.mono ?_
  intro e w2 hq
  rcases HR.out e w2 hq with rfl | ⟨t, u, rfl⟩
  · have hq' := Lib.hid hq
    clear hq
    go_wp2_with fail
    go_end0
    exact hq'.out
  · exact ⟨rfl, hq⟩

set_option maxRecDepth 100000 in
set_option maxHeartbeats 800000 in
theorem wInt64 (g : Nat) (v : Int) (w : World) (R : Ending → World → Prop) (hR : Ends R)
    (h : Calls Try.prog 101 #[.pointer (some ⟨g, 0, none⟩), .int .u8 2, .int .i64 v] w R) :
    Calls Try.prog 80 #[.pointer (some ⟨g, 0, none⟩), .int .i64 v] w R := by
  have H := Lib.hid h
  have HR := Lib.hid hR
  clear h hR
  go_enter Try.func80, Try.ntmps80
  go_wp2_with fail
  refine H.out.mono ?_
  intro e w2 hq
  rcases HR.out e w2 hq with rfl | ⟨t, u, rfl⟩
  · have hq' := Lib.hid hq
    clear hq
    go_wp2_with fail
    go_end0
    exact hq'.out
  · exact ⟨rfl, hq⟩

set_option maxRecDepth 100000 in
set_option maxHeartbeats 800000 in
theorem wEnum (g : Nat) (v : Int) (w : World) (R : Ending → World → Prop) (hR : Ends R)
    (h : Calls Try.prog 101 #[.pointer (some ⟨g, 0, none⟩), .int .u8 10, .int .i64 v] w R) :
    Calls Try.prog 83 #[.pointer (some ⟨g, 0, none⟩), .int .i64 v] w R := by
  have H := Lib.hid h
  have HR := Lib.hid hR
  clear h hR
  go_enter Try.func83, Try.ntmps83
  go_wp2_with fail
  refine H.out.mono ?_
  intro e w2 hq
  rcases HR.out e w2 hq with rfl | ⟨t, u, rfl⟩
  · have hq' := Lib.hid hq
    clear hq
    go_wp2_with fail
    go_end0
    exact hq'.out
  · exact ⟨rfl, hq⟩

set_option maxRecDepth 100000 in
set_option maxHeartbeats 800000 in
theorem wInt64T (g : Nat) (v tag : Int) (w : World) (R : Ending → World → Prop) (hR : Ends R)
    (h : Calls Try.prog 101 #[.pointer (some ⟨g, 0, none⟩), .int .u8 tag, .int .i64 v] w R) :
    Calls Try.prog 81 #[.pointer (some ⟨g, 0, none⟩), .int .i64 v, .int .u8 tag] w R := by
  have H := Lib.hid h
  have HR := Lib.hid hR
  clear h hR
  go_enter Try.func81, Try.ntmps81
  go_wp2_with fail
  refine H.out.mono ?_
  intro e w2 hq
  rcases HR.out e w2 hq with rfl | ⟨t, u, rfl⟩
  · have hq' := Lib.hid hq
    clear hq
    go_wp2_with fail
    go_end0
    exact hq'.out
  · exact ⟨rfl, hq⟩

/-- A builder that holds an error, left alone. -/
def BadP (g : Nat) (w : World) (e : Ending) (w' : World) : Prop := e = .returned (.tuple #[]) ∧ Bad w' g ∧ Fr [g] w w'
theorem BadP.ends (g : Nat) (w : World) : Ends (BadP g w) := fun _ _ h => .inl h.1
theorem BadP.from_ {g : Nat} {w w1 : World} {e : Ending} {w' : World} (hf : Fr [] w w1) (h : BadP g w1 e w') : BadP g w e w' := ⟨h.1, h.2.1, (hf.mono (by simp)).trans h.2.2 (fun i hi => .inl hi)⟩
theorem Bad.keep {g : Nat} {w w1 : World} (h : Bad w g) (hf : Fr [] w w1) : Bad w1 g := h.fr hf (by simp)

set_option maxRecDepth 100000 in
set_option maxHeartbeats 800000 in
theorem xAdd (g : Nat) (sl : Value) (w : World) (hb : Bad w g) : Calls Try.prog 60 #[.pointer (some ⟨g, 0, none⟩), sl] w (BadP g w) := by
  obtain ⟨t, u, v1, v2, v4, v5, v6, v7, k⟩ := hb
  have c0 : w.cell? ⟨g, 0, none⟩ = some (.iface t u) := k.cell 0
  have K := Lib.hid k
  clear k
  go_enter Try.func60, Try.ntmps60
  go_wp2_with fail
  first | go_end0 | refine bodyPost_ret (results_none rfl _ _ _) rfl ?_
  exact ⟨rfl, ⟨t, u, v1, v2, v4, v5, v6, v7, K.out⟩, Fr.refl _ _⟩

set_option maxRecDepth 100000 in
set_option maxHeartbeats 800000 in
theorem xLP (g : Nat) (k : Int) (pa : Bool) (fv : Value) (w : World) (hb : Bad w g) : Calls Try.prog 59 #[.pointer (some ⟨g, 0, none⟩), .int .i64 k, .bool pa, fv] w (BadP g w) := by
  obtain ⟨t, u, v1, v2, v4, v5, v6, v7, k⟩ := hb
  have c0 : w.cell? ⟨g, 0, none⟩ = some (.iface t u) := k.cell 0
  have K := Lib.hid k
  clear k
  go_enter Try.func59, Try.ntmps59
  go_wp2_with fail
  first | go_end0 | refine bodyPost_ret (results_none rfl _ _ _) rfl ?_
  exact ⟨rfl, ⟨t, u, v1, v2, v4, v5, v6, v7, K.out⟩, Fr.refl _ _⟩

set_option maxRecDepth 100000 in
set_option maxHeartbeats 800000 in
theorem xASN1 (g : Nat) (tag fv : Value) (w : World) (hb : Bad w g) : Calls Try.prog 40 #[.pointer (some ⟨g, 0, none⟩), tag, fv] w (BadP g w) := by
  obtain ⟨t, u, v1, v2, v4, v5, v6, v7, k⟩ := hb
  have c0 : w.cell? ⟨g, 0, none⟩ = some (.iface t u) := k.cell 0
  have K := Lib.hid k
  clear k
  go_enter Try.func40, Try.ntmps40
  go_wp2_with fail
  first | go_end0 | refine bodyPost_ret (results_none rfl _ _ _) rfl ?_
  exact ⟨rfl, ⟨t, u, v1, v2, v4, v5, v6, v7, K.out⟩, Fr.refl _ _⟩

set_option maxRecDepth 100000 in
set_option maxHeartbeats 800000 in
theorem xUnwrite (g : Nat) (n : Value) (w : World) (hb : Bad w g) : Calls Try.prog 88 #[.pointer (some ⟨g, 0, none⟩), n] w (BadP g w) := by
  obtain ⟨t, u, v1, v2, v4, v5, v6, v7, k⟩ := hb
  have c0 : w.cell? ⟨g, 0, none⟩ = some (.iface t u) := k.cell 0
  have K := Lib.hid k
  clear k
  go_enter Try.func88, Try.ntmps88
  go_wp2_with fail
  first | go_end0 | refine bodyPost_ret (results_none rfl _ _ _) rfl ?_
  exact ⟨rfl, ⟨t, u, v1, v2, v4, v5, v6, v7, K.out⟩, Fr.refl _ _⟩

set_option maxHeartbeats 800000 in
theorem xBytes (g : Nat) (sl : Value) (w : World) (hb : Bad w g) : Calls Try.prog 42 #[.pointer (some ⟨g, 0, none⟩), sl] w (BadP g w) := by
  have H := Lib.hid (xAdd g sl w hb)
  clear hb
  go_enter Try.func42, Try.ntmps42
  go_wp2_with fail
  refine H.out.mono ?_
  intro e w2 hq
  have hq' := Lib.hid hq
  obtain ⟨rfl, _⟩ := hq
  go_wp2_with fail
  go_end0
  exact hq'.out

set_option maxRecDepth 100000 in
set_option maxHeartbeats 800000 in
theorem xU8 (g : Nat) (v : Int) (w : World) (hb : Bad w g) : Calls Try.prog 58 #[.pointer (some ⟨g, 0, none⟩), .int .u8 v] w (BadP g w) := by
  have H := Lib.hid (fun (sl : Value) (w1 : World) (hf : Fr [] w w1) => xAdd g sl w1 (hb.keep hf))
  clear hb
  go_enter Try.func58, Try.ntmps58
  go_wp2_with fail
  refine (H.out _ _ ((Fr.refl [] w).alloc _)).mono ?_
  intro e w2 hq
  have hq' := Lib.hid (hq.from_ ((Fr.refl [] w).alloc _))
  obtain ⟨rfl, _⟩ := hq
  go_wp2_with fail
  go_end0
  exact hq'.out

set_option maxRecDepth 100000 in
set_option maxHeartbeats 800000 in
theorem xU16 (g : Nat) (v : Int) (w : World) (hb : Bad w g) : Calls Try.prog 69 #[.pointer (some ⟨g, 0, none⟩), .int .u16 v] w (BadP g w) := by
  have H := Lib.hid (fun (sl : Value) (w1 : World) (hf : Fr [] w w1) => xAdd g sl w1 (hb.keep hf))
  clear hb
  go_enter Try.func69, Try.ntmps69
  go_wp2_with fail
  refine (H.out _ _ ((Fr.refl [] w).alloc _)).mono ?_
  intro e w2 hq
  have hq' := Lib.hid (hq.from_ ((Fr.refl [] w).alloc _))
  obtain ⟨rfl, _⟩ := hq
  go_wp2_with fail
  go_end0
  exact hq'.out

set_option maxRecDepth 100000 in
set_option maxHeartbeats 800000 in
theorem xU24 (g : Nat) (v : Int) (w : World) (hb : Bad w g) : Calls Try.prog 70 #[.pointer (some ⟨g, 0, none⟩), .int .u32 v] w (BadP g w) := by
  have H := Lib.hid (fun (sl : Value) (w1 : World) (hf : Fr [] w w1) => xAdd g sl w1 (hb.keep hf))
  clear hb
  go_enter Try.func70, Try.ntmps70
  go_wp2_with fail
  refine (H.out _ _ ((Fr.refl [] w).alloc _)).mono ?_
  intro e w2 hq
  have hq' := Lib.hid (hq.from_ ((Fr.refl [] w).alloc _))
  obtain ⟨rfl, _⟩ := hq
  go_wp2_with fail
  go_end0
  exact hq'.out

set_option maxRecDepth 100000 in
set_option maxHeartbeats 800000 in
theorem xU32 (g : Nat) (v : Int) (w : World) (hb : Bad w g) : Calls Try.prog 71 #[.pointer (some ⟨g, 0, none⟩), .int .u32 v] w (BadP g w) := by
  have H := Lib.hid (fun (sl : Value) (w1 : World) (hf : Fr [] w w1) => xAdd g sl w1 (hb.keep hf))
  clear hb
  go_enter Try.func71, Try.ntmps71
  go_wp2_with fail
  refine (H.out _ _ ((Fr.refl [] w).alloc _)).mono ?_
  intro e w2 hq
  have hq' := Lib.hid (hq.from_ ((Fr.refl [] w).alloc _))
  obtain ⟨rfl, _⟩ := hq
  go_wp2_with fail
  go_end0
  exact hq'.out

set_option maxRecDepth 100000 in
set_option maxHeartbeats 800000 in
theorem xU48 (g : Nat) (v : Int) (w : World) (hb : Bad w g) : Calls Try.prog 72 #[.pointer (some ⟨g, 0, none⟩), .int .u64 v] w (BadP g w) := by
  have H := Lib.hid (fun (sl : Value) (w1 : World) (hf : Fr [] w w1) => xAdd g sl w1 (hb.keep hf))
  clear hb
  go_enter Try.func72, Try.ntmps72
  go_wp2_with fail
  refine (H.out _ _ ((Fr.refl [] w).alloc _)).mono ?_
  intro e w2 hq
  have hq' := Lib.hid (hq.from_ ((Fr.refl [] w).alloc _))
  obtain ⟨rfl, _⟩ := hq
  go_wp2_with fail
  go_end0
  exact hq'.out

set_option maxRecDepth 100000 in
set_option maxHeartbeats 800000 in
theorem xU64 (g : Nat) (v : Int) (w : World) (hb : Bad w g) : Calls Try.prog 73 #[.pointer (some ⟨g, 0, none⟩), .int .u64 v] w (BadP g w) := by
  have H := Lib.hid (fun (sl : Value) (w1 : World) (hf : Fr [] w w1) => xAdd g sl w1 (hb.keep hf))
  clear hb
  go_enter Try.func73, Try.ntmps73
  go_wp2_with fail
  refine (H.out _ _ ((Fr.refl [] w).alloc _)).mono ?_
  intro e w2 hq
  have hq' := Lib.hid (hq.from_ ((Fr.refl [] w).alloc _))
  obtain ⟨rfl, _⟩ := hq
  go_wp2_with fail
  go_end0
  exact hq'.out

set_option maxRecDepth 100000 in
set_option maxHeartbeats 800000 in
theorem xNull (g : Nat) (w : World) (hb : Bad w g) : Calls Try.prog 84 #[.pointer (some ⟨g, 0, none⟩)] w (BadP g w) := by
  have H := Lib.hid (fun (sl : Value) (w1 : World) (hf : Fr [] w w1) => xAdd g sl w1 (hb.keep hf))
  clear hb
  go_enter Try.func84, Try.ntmps84
  go_wp2_with fail
  refine (H.out _ _ ((Fr.refl [] w).alloc _)).mono ?_
  intro e w2 hq
  have hq' := Lib.hid (hq.from_ ((Fr.refl [] w).alloc _))
  obtain ⟨rfl, _⟩ := hq
  go_wp2_with fail
  go_end0
  exact hq'.out

/-- SetError, whatever the builder holds. -/
theorem setErr (g : Nat) (t : TypeId) (u : Value) (ev v1 v2 v4 v5 v6 v7 : Value) (w : World) (hb : Blk w g 65 #[ev, v1, v2, .pointer none, v4, v5, v6, v7]) :
    Calls Try.prog 87 #[.pointer (some ⟨g, 0, none⟩), .iface t u] w (BadP g w) := by
  have c0 : w.cell? ⟨g, 0, none⟩ = some ev := hb.cell 0
  have f0 := hb.frozen 0
  have K := Lib.hid hb
  clear hb
  go_enter Try.func87, Try.ntmps87
  go_wp2_with fail
  go_end0
  exact ⟨rfl, ⟨t, u, v1, v2, v4, v5, v6, v7, K.out.set_ 0 _⟩, (Fr.refl [g] w).set_ (p := ⟨g, 0, none⟩) (.inl (by simp)) _⟩
end Go.Proofs.Ytdnepnnkpaoaaaa
