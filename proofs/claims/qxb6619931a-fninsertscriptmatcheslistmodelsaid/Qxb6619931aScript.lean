import Derived.Test.Qxb6619931aInsWalk
namespace Go.Proofs.Qxb6619931a
open Go.RowKit

def SomeB (e : Ending) : Prop := ∃ b, e = .returned (.bool b)

set_option maxRecDepth 100000 in
set_option maxHeartbeats 2000000 in
theorem bytes_any (a0 a1 a6 a7 a8 : Option Addr) (l0 c0 l1 c1 l6 c6 l7 c7 l8 c8 : Nat) (x2 x3 x4 : Int) (x5 : Bool) (w : World) :
    Calls Try.prog 13 #[.slice a0 l0 c0, .slice a1 l1 c1, .int .i64 x2, .int .i64 x3, .int .i64 x4, .bool x5, .slice a6 l6 c6, .slice a7 l7 c7, .slice a8 l8 c8] w fun e w' => SomeB e ∧ w = w' := by
  go_enter Try.func13, Try.ntmps13
  go_wp2
  all_goals (go_ret; exact ⟨⟨_, rfl⟩, rfl⟩)

set_option maxRecDepth 100000 in
theorem zz_skip (sb : Nat) (fl tk : Int) (QB qc n SB sc : Nat) (I L : Nat → Int) (num id : Int) (w : World) (h : Scan w sb fl tk true QB qc n SB sc I L) :
    Calls Try.prog 16 #[.pointer (some ⟨sb, 0, none⟩), .int .i64 num, .int .i64 id] w fun e w' => e = .returned (.tuple #[]) ∧ Insd w w' sb fl tk true QB n SB I L := by
  go_enter Try.func16, Try.ntmps16
  go_wp2_with fail
  refine (insert_skip sb fl tk QB qc n SB sc I L num id w h).mono ?_
  rintro e w1 ⟨rfl, hI⟩
  go_wp2
  go_end0
  exact ⟨rfl, hI⟩

/-- Where an entry goes. -/
def Pos (num tk : Int) (n pos : Nat) : Prop := (num < tk ∧ pos = n) ∨ (num = tk + pos ∧ pos ≤ n)

set_option maxRecDepth 100000 in
theorem zz_put (sb : Nat) (fl tk : Int) (QB qc n SB sc : Nat) (I L : Nat → Int) (num id : Int) (pos : Nat) (w : World) (h : Scan w sb fl tk false QB qc n SB sc I L) (hn : n ≤ 65536) (n0 : 0 ≤ num) (n1 : num ≤ 9223372036854775807) (t0 : 0 ≤ tk) (t1 : tk ≤ 9223372036854775807) (hp : Pos num tk n pos) :
    Calls Try.prog 16 #[.pointer (some ⟨sb, 0, none⟩), .int .i64 num, .int .i64 id] w fun e w' => e = .returned (.tuple #[]) ∧ Insd w w' sb fl tk false QB (n + 1) SB (insF I pos id) (insF L pos fl) := by
  rcases hp with ⟨hlt, rfl⟩ | ⟨rfl, hle⟩
  · go_enter Try.func16, Try.ntmps16
    go_wp2_with fail
    refine (insert_end sb fl tk QB qc pos SB sc I L num id w h hn n0 n1 t0 t1 hlt).mono ?_
    rintro e w1 ⟨rfl, hI⟩
    go_wp2
    go_end0
    exact ⟨rfl, hI⟩
  · go_enter Try.func16, Try.ntmps16
    go_wp2_with fail
    refine (insert_at sb fl tk QB qc n SB sc I L pos id w h hn t0 n1 hle).mono ?_
    rintro e w1 ⟨rfl, hI⟩
    go_wp2
    go_end0
    exact ⟨rfl, hI⟩
end Go.Proofs.Qxb6619931a
