/-
  THE WALK OF inBox (12), and what it says in terms of keys.
-/
import Derived.Test.Qxb6604197aSpans
import Derived.Test.Qxb6604197aKeys
namespace Go.Proofs.Qxb6604197a
open Go.RowKit

def leF (x y : Nat) : Bool := FloatKind.f64.format.order x y == some .lt || FloatKind.f64.format.order x y == some .eq
def geF (x y : Nat) : Bool := FloatKind.f64.format.order x y == some .gt || FloatKind.f64.format.order x y == some .eq
def inB (we ea l : Nat) : Bool := (geF l m180 && leF l c180) && (bif leF we ea then leF we l && leF l ea else geF l we || leF l ea)

theorem ret_bool {a b : Bool} (h : a = b) : Ending.returned (.bool a) = .returned (.bool b) := by rw [h]

theorem tri_ge (x y : Nat) : FloatKind.f64.format.order x y = some .gt ∨ FloatKind.f64.format.order x y = some .eq ∨ ((FloatKind.f64.format.order x y == some .gt) = false ∧ (FloatKind.f64.format.order x y == some .eq) = false) := by
  cases FloatKind.f64.format.order x y with
  | none => exact .inr (.inr ⟨rfl, rfl⟩)
  | some o => cases o <;> simp
theorem tri_le (x y : Nat) : FloatKind.f64.format.order x y = some .lt ∨ FloatKind.f64.format.order x y = some .eq ∨ ((FloatKind.f64.format.order x y == some .lt) = false ∧ (FloatKind.f64.format.order x y == some .eq) = false) := by
  cases FloatKind.f64.format.order x y with
  | none => exact .inr (.inr ⟨rfl, rfl⟩)
  | some o => cases o <;> simp

set_option maxHeartbeats 4000000 in
set_option linter.unusedSimpArgs false in
theorem inBox_any (we ea l : Nat) (w : World) : Calls Try.prog 12 #[F we, F ea, F l] w fun e w' => e = .returned (.bool (inB we ea l)) ∧ w = w' := by
  have HI : Hid (inB we ea l = (((FloatKind.f64.format.order l 13863909240395005952 == some .gt || FloatKind.f64.format.order l 13863909240395005952 == some .eq) && (FloatKind.f64.format.order l 4640537203540230144 == some .lt || FloatKind.f64.format.order l 4640537203540230144 == some .eq)) &&
    (bif (FloatKind.f64.format.order we ea == some .lt || FloatKind.f64.format.order we ea == some .eq) then (FloatKind.f64.format.order we l == some .lt || FloatKind.f64.format.order we l == some .eq) && (FloatKind.f64.format.order l ea == some .lt || FloatKind.f64.format.order l ea == some .eq)
      else (FloatKind.f64.format.order l we == some .gt || FloatKind.f64.format.order l we == some .eq) || (FloatKind.f64.format.order l ea == some .lt || FloatKind.f64.format.order l ea == some .eq)))) := rfl
  rcases tri_ge l 13863909240395005952 with h1 | h1 | ⟨h1, g1⟩
  · rcases tri_le l 4640537203540230144 with h2 | h2 | ⟨h2, g2⟩
    · rcases tri_le we ea with h3 | h3 | ⟨h3, g3⟩
      · rcases tri_le we l with h4 | h4 | ⟨h4, g4⟩
        · rcases tri_le l ea with h5 | h5 | ⟨h5, g5⟩
          · go_enter Try.func12, Try.ntmps12
            go_wp2
            go_ret
            exact ⟨ret_bool (by rw [HI.out]; simp [h1, h2, h3, h4, h5]), rfl⟩
          · go_enter Try.func12, Try.ntmps12
            go_wp2
            go_ret
            exact ⟨ret_bool (by rw [HI.out]; simp [h1, h2, h3, h4, h5]), rfl⟩
          · go_enter Try.func12, Try.ntmps12
            go_wp2
            go_ret
            exact ⟨ret_bool (by rw [HI.out]; simp [h1, h2, h3, h4, h5, g5]), rfl⟩
        · rcases tri_le l ea with h6 | h6 | ⟨h6, g6⟩
          · go_enter Try.func12, Try.ntmps12
            go_wp2
            go_ret
            exact ⟨ret_bool (by rw [HI.out]; simp [h1, h2, h3, h4, h6]), rfl⟩
          · go_enter Try.func12, Try.ntmps12
            go_wp2
            go_ret
            exact ⟨ret_bool (by rw [HI.out]; simp [h1, h2, h3, h4, h6]), rfl⟩
          · go_enter Try.func12, Try.ntmps12
            go_wp2
            go_ret
            exact ⟨ret_bool (by rw [HI.out]; simp [h1, h2, h3, h4, h6, g6]), rfl⟩
        · go_enter Try.func12, Try.ntmps12
          go_wp2
          go_ret
          exact ⟨ret_bool (by rw [HI.out]; simp [h1, h2, h3, h4, g4]), rfl⟩
      · rcases tri_le we l with h7 | h7 | ⟨h7, g7⟩
        · rcases tri_le l ea with h8 | h8 | ⟨h8, g8⟩
          · go_enter Try.func12, Try.ntmps12
            go_wp2
            go_ret
            exact ⟨ret_bool (by rw [HI.out]; simp [h1, h2, h3, h7, h8]), rfl⟩
          · go_enter Try.func12, Try.ntmps12
            go_wp2
            go_ret
            exact ⟨ret_bool (by rw [HI.out]; simp [h1, h2, h3, h7, h8]), rfl⟩
          · go_enter Try.func12, Try.ntmps12
            go_wp2
            go_ret
            exact ⟨ret_bool (by rw [HI.out]; simp [h1, h2, h3, h7, h8, g8]), rfl⟩
        · rcases tri_le l ea with h9 | h9 | ⟨h9, g9⟩
          · go_enter Try.func12, Try.ntmps12
            go_wp2
            go_ret
            exact ⟨ret_bool (by rw [HI.out]; simp [h1, h2, h3, h7, h9]), rfl⟩
          · go_enter Try.func12, Try.ntmps12
            go_wp2
            go_ret
            exact ⟨ret_bool (by rw [HI.out]; simp [h1, h2, h3, h7, h9]), rfl⟩
          · go_enter Try.func12, Try.ntmps12
            go_wp2
            go_ret
            exact ⟨ret_bool (by rw [HI.out]; simp [h1, h2, h3, h7, h9, g9]), rfl⟩
        · go_enter Try.func12, Try.ntmps12
          go_wp2
          go_ret
          exact ⟨ret_bool (by rw [HI.out]; simp [h1, h2, h3, h7, g7]), rfl⟩
      · rcases tri_ge l we with h10 | h10 | ⟨h10, g10⟩
        · go_enter Try.func12, Try.ntmps12
          go_wp2
          go_ret
          exact ⟨ret_bool (by rw [HI.out]; simp [h1, h2, h3, g3, h10]), rfl⟩
        · go_enter Try.func12, Try.ntmps12
          go_wp2
          go_ret
          exact ⟨ret_bool (by rw [HI.out]; simp [h1, h2, h3, g3, h10]), rfl⟩
        · rcases tri_le l ea with h11 | h11 | ⟨h11, g11⟩
          · go_enter Try.func12, Try.ntmps12
            go_wp2
            go_ret
            exact ⟨ret_bool (by rw [HI.out]; simp [h1, h2, h3, g3, h10, g10, h11]), rfl⟩
          · go_enter Try.func12, Try.ntmps12
            go_wp2
            go_ret
            exact ⟨ret_bool (by rw [HI.out]; simp [h1, h2, h3, g3, h10, g10, h11]), rfl⟩
          · go_enter Try.func12, Try.ntmps12
            go_wp2
            go_ret
            exact ⟨ret_bool (by rw [HI.out]; simp [h1, h2, h3, g3, h10, g10, h11, g11]), rfl⟩
    · rcases tri_le we ea with h12 | h12 | ⟨h12, g12⟩
      · rcases tri_le we l with h13 | h13 | ⟨h13, g13⟩
        · rcases tri_le l ea with h14 | h14 | ⟨h14, g14⟩
          · go_enter Try.func12, Try.ntmps12
            go_wp2
            go_ret
            exact ⟨ret_bool (by rw [HI.out]; simp [h1, h2, h12, h13, h14]), rfl⟩
          · go_enter Try.func12, Try.ntmps12
            go_wp2
            go_ret
            exact ⟨ret_bool (by rw [HI.out]; simp [h1, h2, h12, h13, h14]), rfl⟩
          · go_enter Try.func12, Try.ntmps12
            go_wp2
            go_ret
            exact ⟨ret_bool (by rw [HI.out]; simp [h1, h2, h12, h13, h14, g14]), rfl⟩
        · rcases tri_le l ea with h15 | h15 | ⟨h15, g15⟩
          · go_enter Try.func12, Try.ntmps12
            go_wp2
            go_ret
            exact ⟨ret_bool (by rw [HI.out]; simp [h1, h2, h12, h13, h15]), rfl⟩
          · go_enter Try.func12, Try.ntmps12
            go_wp2
            go_ret
            exact ⟨ret_bool (by rw [HI.out]; simp [h1, h2, h12, h13, h15]), rfl⟩
          · go_enter Try.func12, Try.ntmps12
            go_wp2
            go_ret
            exact ⟨ret_bool (by rw [HI.out]; simp [h1, h2, h12, h13, h15, g15]), rfl⟩
        · go_enter Try.func12, Try.ntmps12
          go_wp2
          go_ret
          exact ⟨ret_bool (by rw [HI.out]; simp [h1, h2, h12, h13, g13]), rfl⟩
      · rcases tri_le we l with h16 | h16 | ⟨h16, g16⟩
        · rcases tri_le l ea with h17 | h17 | ⟨h17, g17⟩
          · go_enter Try.func12, Try.ntmps12
            go_wp2
            go_ret
            exact ⟨ret_bool (by rw [HI.out]; simp [h1, h2, h12, h16, h17]), rfl⟩
          · go_enter Try.func12, Try.ntmps12
            go_wp2
            go_ret
            exact ⟨ret_bool (by rw [HI.out]; simp [h1, h2, h12, h16, h17]), rfl⟩
          · go_enter Try.func12, Try.ntmps12
            go_wp2
            go_ret
            exact ⟨ret_bool (by rw [HI.out]; simp [h1, h2, h12, h16, h17, g17]), rfl⟩
        · rcases tri_le l ea with h18 | h18 | ⟨h18, g18⟩
          · go_enter Try.func12, Try.ntmps12
            go_wp2
            go_ret
            exact ⟨ret_bool (by rw [HI.out]; simp [h1, h2, h12, h16, h18]), rfl⟩
          · go_enter Try.func12, Try.ntmps12
            go_wp2
            go_ret
            exact ⟨ret_bool (by rw [HI.out]; simp [h1, h2, h12, h16, h18]), rfl⟩
          · go_enter Try.func12, Try.ntmps12
            go_wp2
            go_ret
            exact ⟨ret_bool (by rw [HI.out]; simp [h1, h2, h12, h16, h18, g18]), rfl⟩
        · go_enter Try.func12, Try.ntmps12
          go_wp2
          go_ret
          exact ⟨ret_bool (by rw [HI.out]; simp [h1, h2, h12, h16, g16]), rfl⟩
      · rcases tri_ge l we with h19 | h19 | ⟨h19, g19⟩
        · go_enter Try.func12, Try.ntmps12
          go_wp2
          go_ret
          exact ⟨ret_bool (by rw [HI.out]; simp [h1, h2, h12, g12, h19]), rfl⟩
        · go_enter Try.func12, Try.ntmps12
          go_wp2
          go_ret
          exact ⟨ret_bool (by rw [HI.out]; simp [h1, h2, h12, g12, h19]), rfl⟩
        · rcases tri_le l ea with h20 | h20 | ⟨h20, g20⟩
          · go_enter Try.func12, Try.ntmps12
            go_wp2
            go_ret
            exact ⟨ret_bool (by rw [HI.out]; simp [h1, h2, h12, g12, h19, g19, h20]), rfl⟩
          · go_enter Try.func12, Try.ntmps12
            go_wp2
            go_ret
            exact ⟨ret_bool (by rw [HI.out]; simp [h1, h2, h12, g12, h19, g19, h20]), rfl⟩
          · go_enter Try.func12, Try.ntmps12
            go_wp2
            go_ret
            exact ⟨ret_bool (by rw [HI.out]; simp [h1, h2, h12, g12, h19, g19, h20, g20]), rfl⟩
    · go_enter Try.func12, Try.ntmps12
      go_wp2
      go_ret
      exact ⟨ret_bool (by rw [HI.out]; simp [h1, h2, g2]), rfl⟩
  · rcases tri_le l 4640537203540230144 with h21 | h21 | ⟨h21, g21⟩
    · rcases tri_le we ea with h22 | h22 | ⟨h22, g22⟩
      · rcases tri_le we l with h23 | h23 | ⟨h23, g23⟩
        · rcases tri_le l ea with h24 | h24 | ⟨h24, g24⟩
          · go_enter Try.func12, Try.ntmps12
            go_wp2
            go_ret
            exact ⟨ret_bool (by rw [HI.out]; simp [h1, h21, h22, h23, h24]), rfl⟩
          · go_enter Try.func12, Try.ntmps12
            go_wp2
            go_ret
            exact ⟨ret_bool (by rw [HI.out]; simp [h1, h21, h22, h23, h24]), rfl⟩
          · go_enter Try.func12, Try.ntmps12
            go_wp2
            go_ret
            exact ⟨ret_bool (by rw [HI.out]; simp [h1, h21, h22, h23, h24, g24]), rfl⟩
        · rcases tri_le l ea with h25 | h25 | ⟨h25, g25⟩
          · go_enter Try.func12, Try.ntmps12
            go_wp2
            go_ret
            exact ⟨ret_bool (by rw [HI.out]; simp [h1, h21, h22, h23, h25]), rfl⟩
          · go_enter Try.func12, Try.ntmps12
            go_wp2
            go_ret
            exact ⟨ret_bool (by rw [HI.out]; simp [h1, h21, h22, h23, h25]), rfl⟩
          · go_enter Try.func12, Try.ntmps12
            go_wp2
            go_ret
            exact ⟨ret_bool (by rw [HI.out]; simp [h1, h21, h22, h23, h25, g25]), rfl⟩
        · go_enter Try.func12, Try.ntmps12
          go_wp2
          go_ret
          exact ⟨ret_bool (by rw [HI.out]; simp [h1, h21, h22, h23, g23]), rfl⟩
      · rcases tri_le we l with h26 | h26 | ⟨h26, g26⟩
        · rcases tri_le l ea with h27 | h27 | ⟨h27, g27⟩
          · go_enter Try.func12, Try.ntmps12
            go_wp2
            go_ret
            exact ⟨ret_bool (by rw [HI.out]; simp [h1, h21, h22, h26, h27]), rfl⟩
          · go_enter Try.func12, Try.ntmps12
            go_wp2
            go_ret
            exact ⟨ret_bool (by rw [HI.out]; simp [h1, h21, h22, h26, h27]), rfl⟩
          · go_enter Try.func12, Try.ntmps12
            go_wp2
            go_ret
            exact ⟨ret_bool (by rw [HI.out]; simp [h1, h21, h22, h26, h27, g27]), rfl⟩
        · rcases tri_le l ea with h28 | h28 | ⟨h28, g28⟩
          · go_enter Try.func12, Try.ntmps12
            go_wp2
            go_ret
            exact ⟨ret_bool (by rw [HI.out]; simp [h1, h21, h22, h26, h28]), rfl⟩
          · go_enter Try.func12, Try.ntmps12
            go_wp2
            go_ret
            exact ⟨ret_bool (by rw [HI.out]; simp [h1, h21, h22, h26, h28]), rfl⟩
          · go_enter Try.func12, Try.ntmps12
            go_wp2
            go_ret
            exact ⟨ret_bool (by rw [HI.out]; simp [h1, h21, h22, h26, h28, g28]), rfl⟩
        · go_enter Try.func12, Try.ntmps12
          go_wp2
          go_ret
          exact ⟨ret_bool (by rw [HI.out]; simp [h1, h21, h22, h26, g26]), rfl⟩
      · rcases tri_ge l we with h29 | h29 | ⟨h29, g29⟩
        · go_enter Try.func12, Try.ntmps12
          go_wp2
          go_ret
          exact ⟨ret_bool (by rw [HI.out]; simp [h1, h21, h22, g22, h29]), rfl⟩
        · go_enter Try.func12, Try.ntmps12
          go_wp2
          go_ret
          exact ⟨ret_bool (by rw [HI.out]; simp [h1, h21, h22, g22, h29]), rfl⟩
        · rcases tri_le l ea with h30 | h30 | ⟨h30, g30⟩
          · go_enter Try.func12, Try.ntmps12
            go_wp2
            go_ret
            exact ⟨ret_bool (by rw [HI.out]; simp [h1, h21, h22, g22, h29, g29, h30]), rfl⟩
          · go_enter Try.func12, Try.ntmps12
            go_wp2
            go_ret
            exact ⟨ret_bool (by rw [HI.out]; simp [h1, h21, h22, g22, h29, g29, h30]), rfl⟩
          · go_enter Try.func12, Try.ntmps12
            go_wp2
            go_ret
            exact ⟨ret_bool (by rw [HI.out]; simp [h1, h21, h22, g22, h29, g29, h30, g30]), rfl⟩
    · rcases tri_le we ea with h31 | h31 | ⟨h31, g31⟩
      · rcases tri_le we l with h32 | h32 | ⟨h32, g32⟩
        · rcases tri_le l ea with h33 | h33 | ⟨h33, g33⟩
          · go_enter Try.func12, Try.ntmps12
            go_wp2
            go_ret
            exact ⟨ret_bool (by rw [HI.out]; simp [h1, h21, h31, h32, h33]), rfl⟩
          · go_enter Try.func12, Try.ntmps12
            go_wp2
            go_ret
            exact ⟨ret_bool (by rw [HI.out]; simp [h1, h21, h31, h32, h33]), rfl⟩
          · go_enter Try.func12, Try.ntmps12
            go_wp2
            go_ret
            exact ⟨ret_bool (by rw [HI.out]; simp [h1, h21, h31, h32, h33, g33]), rfl⟩
        · rcases tri_le l ea with h34 | h34 | ⟨h34, g34⟩
          · go_enter Try.func12, Try.ntmps12
            go_wp2
            go_ret
            exact ⟨ret_bool (by rw [HI.out]; simp [h1, h21, h31, h32, h34]), rfl⟩
          · go_enter Try.func12, Try.ntmps12
            go_wp2
            go_ret
            exact ⟨ret_bool (by rw [HI.out]; simp [h1, h21, h31, h32, h34]), rfl⟩
          · go_enter Try.func12, Try.ntmps12
            go_wp2
            go_ret
            exact ⟨ret_bool (by rw [HI.out]; simp [h1, h21, h31, h32, h34, g34]), rfl⟩
        · go_enter Try.func12, Try.ntmps12
          go_wp2
          go_ret
          exact ⟨ret_bool (by rw [HI.out]; simp [h1, h21, h31, h32, g32]), rfl⟩
      · rcases tri_le we l with h35 | h35 | ⟨h35, g35⟩
        · rcases tri_le l ea with h36 | h36 | ⟨h36, g36⟩
          · go_enter Try.func12, Try.ntmps12
            go_wp2
            go_ret
            exact ⟨ret_bool (by rw [HI.out]; simp [h1, h21, h31, h35, h36]), rfl⟩
          · go_enter Try.func12, Try.ntmps12
            go_wp2
            go_ret
            exact ⟨ret_bool (by rw [HI.out]; simp [h1, h21, h31, h35, h36]), rfl⟩
          · go_enter Try.func12, Try.ntmps12
            go_wp2
            go_ret
            exact ⟨ret_bool (by rw [HI.out]; simp [h1, h21, h31, h35, h36, g36]), rfl⟩
        · rcases tri_le l ea with h37 | h37 | ⟨h37, g37⟩
          · go_enter Try.func12, Try.ntmps12
            go_wp2
            go_ret
            exact ⟨ret_bool (by rw [HI.out]; simp [h1, h21, h31, h35, h37]), rfl⟩
          · go_enter Try.func12, Try.ntmps12
            go_wp2
            go_ret
            exact ⟨ret_bool (by rw [HI.out]; simp [h1, h21, h31, h35, h37]), rfl⟩
          · go_enter Try.func12, Try.ntmps12
            go_wp2
            go_ret
            exact ⟨ret_bool (by rw [HI.out]; simp [h1, h21, h31, h35, h37, g37]), rfl⟩
        · go_enter Try.func12, Try.ntmps12
          go_wp2
          go_ret
          exact ⟨ret_bool (by rw [HI.out]; simp [h1, h21, h31, h35, g35]), rfl⟩
      · rcases tri_ge l we with h38 | h38 | ⟨h38, g38⟩
        · go_enter Try.func12, Try.ntmps12
          go_wp2
          go_ret
          exact ⟨ret_bool (by rw [HI.out]; simp [h1, h21, h31, g31, h38]), rfl⟩
        · go_enter Try.func12, Try.ntmps12
          go_wp2
          go_ret
          exact ⟨ret_bool (by rw [HI.out]; simp [h1, h21, h31, g31, h38]), rfl⟩
        · rcases tri_le l ea with h39 | h39 | ⟨h39, g39⟩
          · go_enter Try.func12, Try.ntmps12
            go_wp2
            go_ret
            exact ⟨ret_bool (by rw [HI.out]; simp [h1, h21, h31, g31, h38, g38, h39]), rfl⟩
          · go_enter Try.func12, Try.ntmps12
            go_wp2
            go_ret
            exact ⟨ret_bool (by rw [HI.out]; simp [h1, h21, h31, g31, h38, g38, h39]), rfl⟩
          · go_enter Try.func12, Try.ntmps12
            go_wp2
            go_ret
            exact ⟨ret_bool (by rw [HI.out]; simp [h1, h21, h31, g31, h38, g38, h39, g39]), rfl⟩
    · go_enter Try.func12, Try.ntmps12
      go_wp2
      go_ret
      exact ⟨ret_bool (by rw [HI.out]; simp [h1, h21, g21]), rfl⟩
  · go_enter Try.func12, Try.ntmps12
    go_wp2
    go_ret
    exact ⟨ret_bool (by rw [HI.out]; simp [h1, g1]), rfl⟩

theorem leF_key {x y : Nat} {a b : Int} (hx : Fl.key x = some a) (hy : Fl.key y = some b) : leF x y = decide (a ≤ b) := by
  have h : FloatKind.f64.format.order x y = some (compare a b) := Fl.ord hx hy
  unfold leF
  rw [h]
  rcases Int.lt_trichotomy a b with h1 | h1 | h1
  · rw [Fl.cmp_lt h1, decide_eq_true (by omega)]; rfl
  · rw [Fl.cmp_eq h1, decide_eq_true (by omega)]; rfl
  · rw [Fl.cmp_gt h1, decide_eq_false (by omega)]; rfl
theorem geF_key {x y : Nat} {a b : Int} (hx : Fl.key x = some a) (hy : Fl.key y = some b) : geF x y = decide (b ≤ a) := by
  have h : FloatKind.f64.format.order x y = some (compare a b) := Fl.ord hx hy
  unfold geF
  rw [h]
  rcases Int.lt_trichotomy a b with h1 | h1 | h1
  · rw [Fl.cmp_lt h1, decide_eq_false (by omega)]; rfl
  · rw [Fl.cmp_eq h1, decide_eq_true (by omega)]; rfl
  · rw [Fl.cmp_gt h1, decide_eq_true (by omega)]; rfl

/-- In the box, by the keys. -/
theorem inB_key {we ea l : Nat} {W E L K : Int} (kw : Fl.key we = some W) (ke : Fl.key ea = some E) (kl : Fl.key l = some L) (k1 : Fl.key c180 = some K) (k2 : Fl.key m180 = some (-K)) :
    inB we ea l = decide (-K ≤ L ∧ L ≤ K ∧ ((W ≤ E ∧ W ≤ L ∧ L ≤ E) ∨ (E < W ∧ (W ≤ L ∨ L ≤ E)))) := by
  unfold inB
  rw [geF_key kl k2, leF_key kl k1, leF_key kw ke, leF_key kw kl, leF_key kl ke, geF_key kl kw]
  rw [Bool.eq_iff_iff]
  by_cases h : W ≤ E
  · rw [decide_eq_true h]
    simp
    omega
  · rw [decide_eq_false h]
    simp
    omega
theorem inB_nan {we ea l : Nat} (kl : Fl.key l = none) : inB we ea l = false := by
  have h1 : FloatKind.f64.format.order l m180 = none := Fl.ord_nan_l kl
  unfold inB geF
  rw [h1]
  rfl

end Go.Proofs.Qxb6604197a
