import Derived.Test.Qxb6612511aFlush
namespace Go.Proofs.Qxb6612511a
open Go.RowKit

/-! ### WHAT A Pieces HOLDS: the full rooms R that lie in its list, the bytes c of the room in hand, that room's capacity -/
def bytesOf (l : List Int) : List Value := l.map (Value.int .u8)
/-- Block g is a row of 'cap' bytes that begins with the bytes l. -/
def Room (w : World) (g : Nat) (l : List Int) (cap : Nat) : Prop := ∃ cur : Array Value, w.heap[g]? = some (.cells cur 5 (0, 0)) ∧ cur.size = cap ∧ cur.toList.take l.length = bytesOf l
/-- A piece's two cells. -/
def pc (p : Nat × List Int) : List Value := [.slice (some ⟨p.1, 0, none⟩) p.2.length p.2.length, .int .i64 0]
def Inv (b : Nat) (w : World) (R : List (List Int)) (c : List Int) (cap : Nat) : Prop :=
  ∃ (v room : Value) (gs : List (Nat × List Int)), gs.map Prod.snd = R ∧ w.heap[b]? = some (.cells #[v, room, .int .i64 0] 26 (0, 0)) ∧
    w.ownsRow (b + 1) 34 2 v gs.length (gs.flatMap pc) ∧ (∀ p ∈ gs, b < p.1 ∧ Room w p.1 p.2 p.2.length) ∧
    ((cap = 0 ∧ c = [] ∧ room = .slice none 0 0) ∨ ∃ g, room = .slice (some ⟨g, 0, none⟩) c.length cap ∧ b < g ∧ c.length ≤ cap ∧ 0 < cap ∧ Room w g c cap ∧ ∀ p ∈ gs, p.1 ≠ g)

/-- The capacity of the room that follows. -/
def nextCap (cap : Nat) : Nat := min (max (2 * cap) 512) 65536

theorem Room.kept {w w' : World} {g : Nat} {l : List Int} {cap : Nat} (h : Room w g l cap) (hk : w'.heap[g]? = w.heap[g]?) : Room w' g l cap := by
  obtain ⟨cur, h1, h2, h3⟩ := h
  exact ⟨cur, hk.trans h1, h2, h3⟩
theorem Room.lt {w : World} {g : Nat} {l : List Int} {cap : Nat} (h : Room w g l cap) : g < w.heap.size := by
  obtain ⟨cur, h1, _⟩ := h
  exact blk_lt h1
theorem Room.ne {w : World} {g b : Nat} {l : List Int} {cap : Nat} {cs : Array Value} {t : TypeId} {fr : Nat × Nat} (h : Room w g l cap) (hb : w.heap[b]? = some (.cells cs t fr)) (ht : t ≠ 5) : g ≠ b := by
  rintro rfl
  obtain ⟨cur, h1, _⟩ := h
  rw [h1] at hb
  simp only [Option.some.injEq, Obj.cells.injEq] at hb
  exact ht hb.2.1.symm
theorem Room.own_ne {w : World} {g B size n : Nat} {l : List Int} {cap : Nat} {v : Value} {xs : List Value} {e : TypeId} (h : Room w g l cap) (hown : w.ownsRow B e size v n xs) (he : (5 : TypeId) ≠ e) : some g ≠ v.ownBlock := by
  obtain ⟨cur, h1, _⟩ := h
  exact (Qxb6612511a.own_ne hown h1 he).symm
theorem bytesOf_length (l : List Int) : (bytesOf l).length = l.length := by simp [bytesOf]
theorem Room.owns {w : World} {g b : Nat} {l : List Int} {cap : Nat} (h : Room w g l cap) (hb : b < g) (hl : l.length ≤ cap) (hm : cap ≤ 65536) : w.ownsRow (b + 1) 5 1 (.slice (some ⟨g, 0, none⟩) l.length cap) l.length (bytesOf l) := by
  obtain ⟨cur, h1, h2, h3⟩ := h
  exact ⟨by rw [bytesOf_length, Nat.mul_one], .inr ⟨g, cap, cur, rfl, hb, h1, hl, by unfold maxLen; omega, by omega, by simpa using h3⟩⟩
theorem Room.of_owns {w : World} {g B : Nat} {l : List Int} {cap n : Nat} (h : w.ownsRow B 5 1 (.slice (some ⟨g, 0, none⟩) n cap) n (bytesOf l)) (hn : n = l.length) : Room w g l cap := by
  rcases h.2 with ⟨hv, _⟩ | ⟨g', cap', cur, hv, _, hg, _, _, hcs, htake⟩
  · cases hv
  · injection hv with h1 _ h3
    simp only [Option.some.injEq, Addr.mk.injEq] at h1
    obtain ⟨rfl, _⟩ := h1
    subst h3
    exact ⟨cur, hg, by omega, by rw [← hn]; simpa using htake⟩

/-- The list and its rooms outlast a step that turns block b and makes new blocks alone. -/
theorem rooms_kept {w w' : World} {b : Nat} {gs : List (Nat × List Int)} (h : ∀ p ∈ gs, b < p.1 ∧ Room w p.1 p.2 p.2.length) (hk : ∀ p ∈ gs, w'.heap[p.1]? = w.heap[p.1]?) : ∀ p ∈ gs, b < p.1 ∧ Room w' p.1 p.2 p.2.length :=
  fun p hp => ⟨(h p hp).1, (h p hp).2.kept (hk p hp)⟩

theorem make_room (n : Nat) (C : Int) (hC : C = n) (hn : n ≤ 65536) : ∃ M : Array Value, M.size = n ∧ ∀ w : World,
    (Instr.makeSlice 24 (.int .i64 0) (.int .i64 C)).run Try.prog w = .ok (.slice (some ⟨w.heap.size, 0, none⟩) 0 n) (w.alloc (.cells M 5)) := by
  subst hC
  obtain ⟨i, hi, hz0, hz1, hz2⟩ := info_parts info5
  refine ⟨madeCells (Value.int .u8 0).cells (n * i.size), by rw [hz1]; simp [madeCells, Value.cells], fun w => (run_make w 24 5 i _ Try.underlying24 hi hz0 .i64 .i64 0 n (by omega) (by omega) ?_ (by omega)).trans (by simp)⟩
  rw [hz2]
  omega

set_option maxRecDepth 100000 in
set_option maxHeartbeats 1000000 in
/-- roomFor(1), where there is room. -/
theorem roomFor_room (b g n cap : Nat) (v : Value) (w : World) (hn : n < cap) (hcap : cap ≤ 65536)
    (hb : w.heap[b]? = some (.cells #[v, .slice (some ⟨g, 0, none⟩) n cap, .int .i64 0] 26 (0, 0))) :
    Calls Try.prog 15 #[.pointer (some ⟨b, 0, none⟩), .int .i64 1] w fun e w' => e = .returned (.tuple #[]) ∧ ∃ k, w' = w.drewN k := by
  have c := blk_cell hb
  have h1 : (1 : Int) ≤ (cap : Int) - (n : Int) := by omega
  go_enter Try.func15, Try.ntmps15
  go_wp2_with fail
  go_quiet (fail)
  go_wp2_with fail
  exact bodyPost_ret (results_none rfl _ _ _) rfl ⟨rfl, _, rfl⟩

set_option maxRecDepth 100000 in
set_option maxHeartbeats 1000000 in
theorem full_low (b cap : Nat) (v : Value) (ao : Option Addr) (w : World) (hc : cap < 256)
    (hb : w.heap[b]? = some (.cells #[v, .slice ao cap cap, .int .i64 0] 26 (0, 0)))
    (R : World → Prop) (hfl : ∀ w0 : World, (∃ k, w0 = w.drewN k) → Calls Try.prog 16 #[.pointer (some ⟨b, 0, none⟩)] w0 fun e w1 => e = .returned (.tuple #[]) ∧ R w1)
    (hR : ∀ w1, R w1 → ∃ v1 x1, w1.heap[b]? = some (.cells #[v1, .slice ao cap cap, x1] 26 (0, 0))) :
    Calls Try.prog 15 #[.pointer (some ⟨b, 0, none⟩), .int .i64 1] w fun e w' => e = .returned (.tuple #[]) ∧
      ∃ (w1 : World) (M : Array Value), R w1 ∧ M.size = 512 ∧ w' = ((w1.setCell ⟨b, 1, none⟩ (.slice (some ⟨w1.heap.size, 0, none⟩) 0 (512))).setCell ⟨b, 2, none⟩ (.int .i64 0)).alloc (.cells M 5) := by
  have c := blk_cell hb
  have h1 : ¬ (1 : Int) ≤ (cap : Int) - (cap : Int) := by omega
  obtain ⟨M, hM, hmk⟩ := make_room (512) (512) (by omega) (by omega)
  have k1 : (2 : Int) * (cap : Int) < 512 := by omega
  go_enter Try.func15, Try.ntmps15
  go_wp2_with fail
  go_quiet (fail)
  go_wp2_with fail
  refine (hfl _ ⟨_, rfl⟩).mono ?_
  rintro e w1 ⟨rfl, hR1⟩
  obtain ⟨v1, x1, hb1⟩ := hR w1 hR1
  have c1 := blk_cell hb1
  have f1 := blk_frozen hb1
  have hlt := blk_lt hb1
  go_wp2_with fail
  go_end0
  exact ⟨rfl, w1, M, hR1, hM, rfl⟩

set_option maxRecDepth 100000 in
set_option maxHeartbeats 1000000 in
theorem full_mid (b cap : Nat) (v : Value) (ao : Option Addr) (w : World) (hc : 256 < cap) (hc2 : cap ≤ 32768)
    (hb : w.heap[b]? = some (.cells #[v, .slice ao cap cap, .int .i64 0] 26 (0, 0)))
    (R : World → Prop) (hfl : ∀ w0 : World, (∃ k, w0 = w.drewN k) → Calls Try.prog 16 #[.pointer (some ⟨b, 0, none⟩)] w0 fun e w1 => e = .returned (.tuple #[]) ∧ R w1)
    (hR : ∀ w1, R w1 → ∃ v1 x1, w1.heap[b]? = some (.cells #[v1, .slice ao cap cap, x1] 26 (0, 0))) :
    Calls Try.prog 15 #[.pointer (some ⟨b, 0, none⟩), .int .i64 1] w fun e w' => e = .returned (.tuple #[]) ∧
      ∃ (w1 : World) (M : Array Value), R w1 ∧ M.size = 2 * cap ∧ w' = ((w1.setCell ⟨b, 1, none⟩ (.slice (some ⟨w1.heap.size, 0, none⟩) 0 (2 * cap))).setCell ⟨b, 2, none⟩ (.int .i64 0)).alloc (.cells M 5) := by
  have c := blk_cell hb
  have h1 : ¬ (1 : Int) ≤ (cap : Int) - (cap : Int) := by omega
  obtain ⟨M, hM, hmk⟩ := make_room (2 * cap) (2 * (cap : Int)) (by omega) (by omega)
  have k1 : (512 : Int) < 2 * (cap : Int) := by omega
  have k2 : 2 * (cap : Int) ≤ 65536 := by omega
  go_enter Try.func15, Try.ntmps15
  go_wp2_with fail
  go_quiet (fail)
  go_wp2_with fail
  refine (hfl _ ⟨_, rfl⟩).mono ?_
  rintro e w1 ⟨rfl, hR1⟩
  obtain ⟨v1, x1, hb1⟩ := hR w1 hR1
  have c1 := blk_cell hb1
  have f1 := blk_frozen hb1
  have hlt := blk_lt hb1
  go_wp2_with fail
  go_end0
  exact ⟨rfl, w1, M, hR1, hM, rfl⟩

set_option maxRecDepth 100000 in
set_option maxHeartbeats 1000000 in
theorem full_high (b cap : Nat) (v : Value) (ao : Option Addr) (w : World) (hc : 32768 < cap) (hc2 : cap ≤ 65536)
    (hb : w.heap[b]? = some (.cells #[v, .slice ao cap cap, .int .i64 0] 26 (0, 0)))
    (R : World → Prop) (hfl : ∀ w0 : World, (∃ k, w0 = w.drewN k) → Calls Try.prog 16 #[.pointer (some ⟨b, 0, none⟩)] w0 fun e w1 => e = .returned (.tuple #[]) ∧ R w1)
    (hR : ∀ w1, R w1 → ∃ v1 x1, w1.heap[b]? = some (.cells #[v1, .slice ao cap cap, x1] 26 (0, 0))) :
    Calls Try.prog 15 #[.pointer (some ⟨b, 0, none⟩), .int .i64 1] w fun e w' => e = .returned (.tuple #[]) ∧
      ∃ (w1 : World) (M : Array Value), R w1 ∧ M.size = 65536 ∧ w' = ((w1.setCell ⟨b, 1, none⟩ (.slice (some ⟨w1.heap.size, 0, none⟩) 0 (65536))).setCell ⟨b, 2, none⟩ (.int .i64 0)).alloc (.cells M 5) := by
  have c := blk_cell hb
  have h1 : ¬ (1 : Int) ≤ (cap : Int) - (cap : Int) := by omega
  obtain ⟨M, hM, hmk⟩ := make_room (65536) (65536) (by omega) (by omega)
  have k1 : (65536 : Int) < 2 * (cap : Int) := by omega
  go_enter Try.func15, Try.ntmps15
  go_wp2_with fail
  go_quiet (fail)
  go_wp2_with fail
  refine (hfl _ ⟨_, rfl⟩).mono ?_
  rintro e w1 ⟨rfl, hR1⟩
  obtain ⟨v1, x1, hb1⟩ := hR w1 hR1
  have c1 := blk_cell hb1
  have f1 := blk_frozen hb1
  have hlt := blk_lt hb1
  go_wp2_with fail
  go_end0
  exact ⟨rfl, w1, M, hR1, hM, rfl⟩

/-- roomFor(1), where the room is full, or there is none. -/
theorem roomFor_full (b cap : Nat) (v : Value) (ao : Option Addr) (w : World) (hcap : cap < 256 ∨ 256 < cap) (hc2 : cap ≤ 65536)
    (hb : w.heap[b]? = some (.cells #[v, .slice ao cap cap, .int .i64 0] 26 (0, 0)))
    (R : World → Prop) (hfl : ∀ w0 : World, (∃ k, w0 = w.drewN k) → Calls Try.prog 16 #[.pointer (some ⟨b, 0, none⟩)] w0 fun e w1 => e = .returned (.tuple #[]) ∧ R w1)
    (hR : ∀ w1, R w1 → ∃ v1 x1, w1.heap[b]? = some (.cells #[v1, .slice ao cap cap, x1] 26 (0, 0))) :
    Calls Try.prog 15 #[.pointer (some ⟨b, 0, none⟩), .int .i64 1] w fun e w' => e = .returned (.tuple #[]) ∧
      ∃ (w1 : World) (M : Array Value), R w1 ∧ M.size = nextCap cap ∧ w' = ((w1.setCell ⟨b, 1, none⟩ (.slice (some ⟨w1.heap.size, 0, none⟩) 0 (nextCap cap))).setCell ⟨b, 2, none⟩ (.int .i64 0)).alloc (.cells M 5) := by
  rcases hcap with h | h
  · have e : nextCap cap = 512 := by unfold nextCap; omega
    rw [e]
    exact full_low b cap v ao w h hb R hfl hR
  · by_cases h3 : cap ≤ 32768
    · have e : nextCap cap = 2 * cap := by unfold nextCap; omega
      rw [e]
      exact full_mid b cap v ao w h h3 hb R hfl hR
    · have e : nextCap cap = 65536 := by unfold nextCap; omega
      rw [e]
      exact full_high b cap v ao w (by omega) hc2 hb R hfl hR
end Go.Proofs.Qxb6612511a
