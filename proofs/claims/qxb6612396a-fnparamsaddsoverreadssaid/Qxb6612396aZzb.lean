import Derived.Test.Qxb6612396aWalks
namespace Go.Proofs.Qxb6612396a
open Go.RowKit

set_option maxRecDepth 100000 in
set_option maxHeartbeats 4000000 in
theorem zzb_any (s0 s1 s2 s3 s4 s5 s6 s7 : ByteArray) (q0 q1 : Bool) (a0 a1 a2 a3 a4 : Int) 
   (t0 t1 t2 t3 t4 t5 t6 t7 : ByteArray) (p0 p1 : Bool) (b0 b1 b2 b3 b4 : Int) (w : World) :
    Calls Try.prog 4 #[.agg #[.string s0, .string s1, .string s2, .string s3, .string s4, .string s5, .string s6, .string s7, .bool q0, .bool q1, .int .i64 a0, .int .i64 a1, .int .i64 a2, .int .i64 a3, .int .i64 a4],
      .agg #[.string t0, .string t1, .string t2, .string t3, .string t4, .string t5, .string t6, .string t7, .bool p0, .bool p1, .int .i64 b0, .int .i64 b1, .int .i64 b2, .int .i64 b3, .int .i64 b4]] w fun e w' => 
     ∃ r, e = .returned (.bool r) ∧ (r = true → s0.size + s1.size + s2.size + s3.size + s4.size + s5.size + s6.size + s7.size + t0.size + t1.size + t2.size + t3.size + t4.size + t5.size + t6.size + t7.size ≤ 1048576) ∧
      ∃ c1 c2 : Array Value, w' = (w.alloc (.cells c1 23)).alloc (.cells c2 23) := by
  go_enter Try.func4, Try.ntmps4
  go_wp2
  all_goals go_ret
  all_goals first | exact ⟨false, rfl, (fun h => by cases h), _, _, rfl⟩ | exact ⟨true, rfl, (fun _ => by omega), _, _, rfl⟩
end Go.Proofs.Qxb6612396a
