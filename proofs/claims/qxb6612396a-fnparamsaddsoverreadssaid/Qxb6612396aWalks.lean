import Derived.Test.Qxb6612396aRows
import Derived.WalkKit
import Derived.WalkSpells
import Derived.WalkLawsBesides
import Derived.BigQuiet
import Derived.Deep.QuietTactic
namespace Go.Proofs.Qxb6612396a
open Go.RowKit

/-- What Params reckons: the five counts, added one after another, each sum wrapped. -/
def psum (a0 a1 a2 a3 a4 : Int) : Int := wrap64 (wrap64 (wrap64 (wrap64 (a0 + a1) + a2) + a3) + a4)

/-- The number of bytes of eight texts. -/
def tl (s0 s1 s2 s3 s4 s5 s6 s7 : ByteArray) : Int := ((s0.size + s1.size + s2.size + s3.size + s4.size + s5.size + s6.size + s7.size : Nat) : Int)

theorem ret_int {k : IntKind} {a b : Int} (h : a = b) : Ending.returned (.int k a) = .returned (.int k b) := by rw [h]

set_option maxHeartbeats 400000 in
theorem params_any (b : Nat) (a0 a1 a2 a3 a4 : Int) (w : World)
    (h0 : w.cell? ⟨b, 11, none⟩ = some (.int .i64 a0)) (h1 : w.cell? ⟨b, 12, none⟩ = some (.int .i64 a1)) (h2 : w.cell? ⟨b, 13, none⟩ = some (.int .i64 a2))
    (h3 : w.cell? ⟨b, 14, none⟩ = some (.int .i64 a3)) (h4 : w.cell? ⟨b, 15, none⟩ = some (.int .i64 a4)) :
    Calls Try.prog 7 #[.pointer (some ⟨b, 0, none⟩)] w fun e w' => e = .returned (.int .i64 (psum a0 a1 a2 a3 a4)) ∧ ∃ n, w' = w.drewN n := by
  go_enter Try.func7, Try.ntmps7
  go_wp2
  go_quiet (fail)
  go_wp2
  go_ret
  exact ⟨rfl, _, rfl⟩

set_option maxHeartbeats 400000 in
theorem build_any (s0 s1 s2 s3 s4 s5 s6 s7 : ByteArray) (q0 q1 : Bool) (a0 a1 a2 a3 a4 : Int) (w : World) :
    Calls Try.prog 6 #[.agg #[.string s0, .string s1, .string s2, .string s3, .string s4, .string s5, .string s6, .string s7, .bool q0, .bool q1, .int .i64 a0, .int .i64 a1, .int .i64 a2, .int .i64 a3, .int .i64 a4]] w fun e w' => 
     e = .returned (.pointer (some ⟨w.heap.size+1, 0, none⟩)) ∧ ∃ c1 c2 : Array Value, w' = (w.alloc (.cells c1 23)).alloc (.cells c2 34) ∧
       c2[11]? = some (.int .i64 a0) ∧ c2[12]? = some (.int .i64 a1) ∧ c2[13]? = some (.int .i64 a2) ∧ c2[14]? = some (.int .i64 a3) ∧ c2[15]? = some (.int .i64 a4) := by
  go_enter Try.func6, Try.ntmps6
  go_wp2
  go_ret
  exact ⟨rfl, _, _, rfl, rfl, rfl, rfl, rfl, rfl⟩

set_option maxHeartbeats 1000000 in
theorem text_any (s0 s1 s2 s3 s4 s5 s6 s7 : ByteArray) (q0 q1 : Bool) (a0 a1 a2 a3 a4 : Int) (w : World)
    (h0 : s0.size ≤ 1048576) (h1 : s1.size ≤ 1048576) (h2 : s2.size ≤ 1048576) (h3 : s3.size ≤ 1048576) (h4 : s4.size ≤ 1048576) (h5 : s5.size ≤ 1048576) (h6 : s6.size ≤ 1048576) (h7 : s7.size ≤ 1048576) :
    Calls Try.prog 5 #[.agg #[.string s0, .string s1, .string s2, .string s3, .string s4, .string s5, .string s6, .string s7, .bool q0, .bool q1, .int .i64 a0, .int .i64 a1, .int .i64 a2, .int .i64 a3, .int .i64 a4]] w fun e w' => 
     e = .returned (.int .i64 (tl s0 s1 s2 s3 s4 s5 s6 s7)) ∧ ∃ c1 : Array Value, w' = w.alloc (.cells c1 23) := by
  go_enter Try.func5, Try.ntmps5
  go_wp2
  go_ret
  exact ⟨ret_int (by unfold tl; omega), _, rfl⟩
end Go.Proofs.Qxb6612396a
