import Derived.Test.Qxb6612396aWalks
namespace Go.Proofs.Qxb6612396a
open Go.RowKit

theorem wl (a b : Int) : wrap64 (wrap64 a + b) = wrap64 (a + b) := by unfold wrap64; omega
theorem wr (a b : Int) : wrap64 (a + wrap64 b) = wrap64 (a + b) := by unfold wrap64; omega
theorem psum_eq (a0 a1 a2 a3 a4 : Int) : psum a0 a1 a2 a3 a4 = wrap64 (a0 + a1 + a2 + a3 + a4) := by
  unfold psum
  have e1 : wrap64 (wrap64 (wrap64 (a0 + a1) + a2) + a3) = wrap64 (a0 + a1 + a2 + a3) := by
    rw [wl (a0 + a1) a2, wl (a0 + a1 + a2) a3]
  rw [e1, wl]
theorem psum_adds (a0 a1 a2 a3 a4 b0 b1 b2 b3 b4 : Int) :
    psum (wrap64 (a0 + b0)) (wrap64 (a1 + b1)) (wrap64 (a2 + b2)) (wrap64 (a3 + b3)) (wrap64 (a4 + b4)) = wrap64 (psum a0 a1 a2 a3 a4 + psum b0 b1 b2 b3 b4) := by
  rw [psum_eq, psum_eq, psum_eq, wl, wr]
  rw [wr, Int.add_comm _ (wrap64 (a3 + b3)), Int.add_assoc, wl]
  have h1 : wrap64 (a3 + b3 + (wrap64 (a0 + b0) + wrap64 (a1 + b1) + wrap64 (a2 + b2) + (a4 + b4))) = wrap64 (wrap64 (a0 + b0) + (wrap64 (a1 + b1) + wrap64 (a2 + b2) + (a4 + b4) + (a3 + b3))) := by
    congr 1; omega
  rw [h1, wl]
  have h2 : wrap64 (a0 + b0 + (wrap64 (a1 + b1) + wrap64 (a2 + b2) + (a4 + b4) + (a3 + b3))) = wrap64 (wrap64 (a1 + b1) + (wrap64 (a2 + b2) + (a4 + b4) + (a3 + b3) + (a0 + b0))) := by
    congr 1; omega
  rw [h2, wl]
  have h3 : wrap64 (a1 + b1 + (wrap64 (a2 + b2) + (a4 + b4) + (a3 + b3) + (a0 + b0))) = wrap64 (wrap64 (a2 + b2) + ((a4 + b4) + (a3 + b3) + (a0 + b0) + (a1 + b1))) := by
    congr 1; omega
  rw [h3, wl]
  congr 1; omega
theorem psum_ones : psum 1 1 1 1 1 = 5 := by rw [psum_eq]; unfold wrap64; omega
end Go.Proofs.Qxb6612396a
