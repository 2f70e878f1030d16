/- Seat b6614675a: small contracts and the words for cutting a great function into stages. -/
import Derived.Test.Qxb6614675aCall
import Derived.Deep.DeepCutAuto
import Derived.WalkSpells
namespace Go.Proofs.Qxb6614675a
open Go.RowKit
set_option linter.unusedVariables false

/-- What is left of a body behind its first k statements; and the first statement. -/
def tailAt : Nat → Code → Code
  | 0, c => c
  | k + 1, .seq _ b => tailAt k b
  | _ + 1, c => c
def headOf : Code → Code
  | .seq a _ => a
  | c => c

theorem newDfa (a : Option Addr) (n c : Nat) (w : World) :
    Calls Try.prog 14 #[.slice a n c] w fun e w' => e = .returned (.pointer (some ⟨w.heap.size, 0, none⟩)) ∧ w'.cell? ⟨w.heap.size, 26, none⟩ = some (.slice a n c) ∧ Below w.heap.size w w' ∧ w'.heap.size = w.heap.size + 1 := by
  go_enter Try.func14, Try.ntmps14
  go_wp2
  go_ret
  exact ⟨rfl, World.cell?_alloc_at _ _ _ _ rfl, (Below.refl _ _).alloc (Nat.le_refl _) _, by simp⟩

theorem dead (w : World) : Calls Try.prog 10 #[] w fun e w' => e = .returned (.int .i32 0) ∧ w = w' := by
  go_enter Try.func10, Try.ntmps10
  go_wp2
  go_ret
  exact ⟨rfl, rfl⟩

/-- Behind the set-up: the thread list and the dfa lie as takeIn reads them. -/
theorem lay_of {wS w1 w2 : World} {sb n m : Nat} {P S T sn : Nat → Int} {id gen : Int} (hr : RowTo .u64 sb wS m m sn) (hl : LL w1 (wS.heap.size + 2) (wS.heap.size + 1) wS.heap.size n P S T id gen)
    (b1 : Below wS.heap.size wS w1) (s1 : w1.heap.size = wS.heap.size + 3) (hd : w2.cell? ⟨w1.heap.size, 26, none⟩ = some (.slice (some ⟨sb, 0, none⟩) m m)) (b2 : Below w1.heap.size w1 w2) (s2 : w2.heap.size = w1.heap.size + 1) :
    Lay w2 (wS.heap.size + 2) w1.heap.size (wS.heap.size + 1) wS.heap.size sb n m P S T sn id gen := by
  have hsb := hr.lt
  have hr2 := (hr.below b1 hsb).below b2 (by omega)
  exact {
    lanes := (b2.cell (by show _ + 2 < _; omega)).trans hl.lanes
    id := (b2.cell (by show _ + 2 < _; omega)).trans hl.id
    gen := (b2.cell (by show _ + 2 < _; omega)).trans hl.gen
    lane := (b2.cell (by show _ + 1 < _; omega)).trans hl.lane
    seen := hd
    pc := fun i hi => (b2.cell (by show wS.heap.size < _; omega)).trans (hl.pc i hi)
    start := fun i hi => (b2.cell (by show wS.heap.size < _; omega)).trans (hl.start i hi)
    state := fun i hi => (b2.cell (by show wS.heap.size < _; omega)).trans (hl.state i hi)
    marks := hr2.cell
    lfree := fun o => (b2.frozen (by show wS.heap.size < _; omega)).trans (hl.lfree o)
    sfree := hr2.free
    llp := by omega
    ldp := by omega
    lnb := by omega
    llb := by omega
    lsb := by omega
    d1 := hsb
    d2 := by omega
    d3 := by omega
    d4 := by omega
    d5 := by omega
    d6 := by omega
    d7 := by omega }

end Go.Proofs.Qxb6614675a
