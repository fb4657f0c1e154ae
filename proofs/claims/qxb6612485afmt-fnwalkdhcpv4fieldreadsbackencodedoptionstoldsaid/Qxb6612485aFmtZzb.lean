import Derived.Test.Qxb6612485aFmtRows
import Derived.WalkKit
import Derived.WalkSpells
namespace Go.Proofs.Qxb6612485aFmt
open Go.RowKit

def Says (e : Ending) (p : Prop) : Prop := ∃ r, e = .returned (.bool r) ∧ (r = true → p)
theorem Says.no (p : Prop) : Says (.returned (.bool false)) p := ⟨_, rfl, fun h => by cases h⟩
theorem Says.yes {p : Prop} (h : p) : Says (.returned (.bool true)) p := ⟨_, rfl, fun _ => h⟩

set_option maxRecDepth 100000 in
set_option maxHeartbeats 1000000 in
theorem zzb5 (a : Option Addr) (n cap : Nat) (st en : Int) (nm : ByteArray) (w : World) :
    Calls Tryf.prog 5 #[.slice a n cap, .int .i64 st, .int .i64 en, .string nm] w fun e w' => w' = w ∧ Says e (n + nm.size ≤ 1048576) := by
  by_cases h1 : (1048576 : Int) < (n : Int)
  · go_enter Tryf.func5, Tryf.ntmps5
    go_wp2_with fail
    go_ret
    exact ⟨rfl, Says.no _⟩
  by_cases h2 : (1048576 : Int) < (nm.size : Int)
  · go_enter Tryf.func5, Tryf.ntmps5
    go_wp2_with fail
    go_ret
    exact ⟨rfl, Says.no _⟩
  by_cases h3 : (1048576 : Int) < (n : Int) + (nm.size : Int)
  · go_enter Tryf.func5, Tryf.ntmps5
    go_wp2_with fail
    go_ret
    exact ⟨rfl, Says.no _⟩
  · go_enter Tryf.func5, Tryf.ntmps5
    go_wp2_with fail
    go_ret
    exact ⟨rfl, Says.yes (by omega)⟩

set_option maxRecDepth 100000 in
set_option maxHeartbeats 1000000 in
theorem zzb9 (a0 a1 a2 a3 : Option Addr) (n0 n1 n2 n3 c0 c1 c2 c3 : Nat) (w : World) :
    Calls Tryf.prog 9 #[.slice a0 n0 c0, .slice a1 n1 c1, .slice a2 n2 c2, .slice a3 n3 c3] w fun e w' => w' = w ∧ Says e (n0 + n1 + n2 + n3 ≤ 1048576) := by
  by_cases h0 : (1048576 : Int) < (n0 : Int)
  · go_enter Tryf.func9, Tryf.ntmps9
    go_wp2_with fail
    go_ret
    exact ⟨rfl, Says.no _⟩
  by_cases h1 : (1048576 : Int) < (n1 : Int)
  · go_enter Tryf.func9, Tryf.ntmps9
    go_wp2_with fail
    go_ret
    exact ⟨rfl, Says.no _⟩
  by_cases h2 : (1048576 : Int) < (n0 : Int) + (n1 : Int)
  · go_enter Tryf.func9, Tryf.ntmps9
    go_wp2_with fail
    go_ret
    exact ⟨rfl, Says.no _⟩
  by_cases h3 : (1048576 : Int) < (n2 : Int)
  · go_enter Tryf.func9, Tryf.ntmps9
    go_wp2_with fail
    go_ret
    exact ⟨rfl, Says.no _⟩
  by_cases h4 : (1048576 : Int) < (n0 : Int) + (n1 : Int) + (n2 : Int)
  · go_enter Tryf.func9, Tryf.ntmps9
    go_wp2_with fail
    go_ret
    exact ⟨rfl, Says.no _⟩
  by_cases h5 : (1048576 : Int) < (n3 : Int)
  · go_enter Tryf.func9, Tryf.ntmps9
    go_wp2_with fail
    go_ret
    exact ⟨rfl, Says.no _⟩
  by_cases h6 : (1048576 : Int) < (n0 : Int) + (n1 : Int) + (n2 : Int) + (n3 : Int)
  · go_enter Tryf.func9, Tryf.ntmps9
    go_wp2_with fail
    go_ret
    exact ⟨rfl, Says.no _⟩
  · go_enter Tryf.func9, Tryf.ntmps9
    go_wp2_with fail
    go_ret
    exact ⟨rfl, Says.yes (by omega)⟩
end Go.Proofs.Qxb6612485aFmt
