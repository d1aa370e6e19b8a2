/- The contract of spec.Ordered: pairs lie in a text in order. -/
import Derived.Test.YtbfelpgojgaeoaaDoorPairs
import Derived.Deep.QuietTactic
import Derived.BigQuiet
set_option linter.unusedVariables false
set_option linter.unusedSimpArgs false
namespace Go.Proofs.YtbfelpgojgaeoaaDoor
open Go.RowKit

/-- Whether pairs, behind a place, lie in order in a text of a size; those that stand for nil are passed over. -/
def ordB (size : Int) : Int → List (Int × Int) → Bool
  | _, [] => true
  | last, (a, b) :: r => if b < a then ordB size last r else if a < last ∨ a = b ∨ size < b then false else ordB size b r

theorem ordB_cons (size last A B : Int) (r : List (Int × Int)) : ordB size last ((A, B) :: r) = if B < A then ordB size last r else if A < last ∨ A = B ∨ size < B then false else ordB size B r := rfl

set_option maxHeartbeats 4000000 in
theorem ordered (b o cap n : Nat) (ad : Option Addr) (xs : List (Int × Int)) (hn : xs.length = n) (had : n = 0 ∨ ad = some ⟨b, o, none⟩) (hn20 : n ≤ 2147483647) (size : Int) (w : World) (hp : PairsAt w b o xs) :
    Calls Tryd.prog 5 #[.slice ad n cap, .int .i64 size] w fun e w' => e = .returned (.bool (ordB size 0 xs)) ∧ ∃ d, w' = w.drewN d := by
  have HP := Lib.hid hp
  clear hp
  go_enter Tryd.func5, Tryd.ntmps5
  go_wp2
  go_loopg [5, 6] n (fun g s5 s6 wx => ∃ (i d : Nat) (last : Int), i ≤ n ∧ g = n - i ∧ s6 = .int .i64 i ∧ s5 = .int .i64 last ∧ wx = w.drewN d ∧ Hid (ordB size last (xs.drop i) = ordB size 0 xs))
  case atStart => exact ⟨0, 0, 0, by omega, by omega, rfl, rfl, rfl, Lib.hid rfl⟩
  case round =>
    obtain ⟨i, d, last, hi, hg, rfl, rfl, rfl, HO⟩ := hrel
    by_cases him : i < n
    · have hix : i < xs.length := by omega
      have had' : ad = some ⟨b, o, none⟩ := by rcases had with h | h; omega; exact h
      subst had'
      obtain ⟨q1, q2⟩ := HP.out i hix
      have hdrop := List.drop_eq_getElem_cons hix
      obtain ⟨y, hy⟩ : ∃ y, xs[i] = y := ⟨_, rfl⟩
      rw [hy] at q1 q2 hdrop
      obtain ⟨A, B⟩ := y
      have HO' := HO.out
      rw [hdrop] at HO'
      rw [ordB_cons] at HO'
      have HS := Lib.hid HO'
      simp only [] at q1 q2
      have q1' : (w.drewN d).cell? ⟨b, o + i * 2, none⟩ = some (.int .i64 A) := q1
      have q2' : (w.drewN d).cell? ⟨b, o + i * 2 + 1, none⟩ = some (.int .i64 B) := q2
      generalize hwr : w.drewN d = wr at *
      have HW := Lib.hid hwr
      clear HO HO' hdrop hy q1 q2 hwr
      by_cases h1 : B < A
      · have d1 : decide (B < A) = true := by simpa using h1
        have HS' := HS.out
        rw [if_pos h1] at HS'
        have HS := Lib.hid HS'
        clear HS' h1
        go_wp2_with fail
        go_quiet (fail)
        generalize hw2 : wr.drewN nq = wr2 at *
        have q1b : wr2.cell? ⟨b, o + i * 2, none⟩ = some (.int .i64 A) := by rw [← hw2]; exact q1'
        have q2b : wr2.cell? ⟨b, o + i * 2 + 1, none⟩ = some (.int .i64 B) := by rw [← hw2]; exact q2'
        have HW2 := Lib.hid (show wr2 = w.drewN (d + nq) by rw [← hw2, ← HW.out, World.drewN_drewN])
        clear q1' q2' hw2
        go_wp2_with fail
        go_roundg (n - (i + 1))
        case measure => omega
        case rel => exact ⟨i + 1, d + nq, last, by omega, rfl, by congr 1, rfl, HW2.out, HS⟩
      · have d1 : decide (B < A) = false := by simpa using h1
        have HS' := HS.out
        rw [if_neg h1] at HS'
        have HS := Lib.hid HS'
        clear HS' h1
        have bad : (A < last ∨ A = B ∨ size < B) → false = ordB size 0 xs := fun h => by have := HS.out; rw [if_pos h] at this; exact this
        have good : ¬ (A < last ∨ A = B ∨ size < B) → ordB size B (xs.drop (i + 1)) = ordB size 0 xs := fun h => by have := HS.out; rw [if_neg h] at this; exact this
        have BAD := Lib.hid bad
        have GOOD := Lib.hid good
        clear bad good HS
        by_cases h2 : A < last
        · have d2 : decide (A < last) = true := by simpa using h2
          have F := Lib.hid (BAD.out (.inl h2))
          clear h2 BAD GOOD
          go_wp2_with fail
          go_quiet (fail)
          generalize hw2 : wr.drewN nq = wr2 at *
          have q1b : wr2.cell? ⟨b, o + i * 2, none⟩ = some (.int .i64 A) := by rw [← hw2]; exact q1'
          have q2b : wr2.cell? ⟨b, o + i * 2 + 1, none⟩ = some (.int .i64 B) := by rw [← hw2]; exact q2'
          have HW2 := Lib.hid (show wr2 = w.drewN (d + nq) by rw [← hw2, ← HW.out, World.drewN_drewN])
          clear q1' q2' hw2
          go_wp2_with fail
          go_quiet (fail)
          go_wp2_with fail
          go_ret
          exact ⟨by rw [← F.out]; rfl, _, by rw [HW2.out, World.drewN_drewN]⟩
        · have d2 : decide (A < last) = false := by simpa using h2
          by_cases h3 : A = B
          · have d3 : (A == B) = true := by simpa using h3
            have F := Lib.hid (BAD.out (.inr (.inl h3)))
            clear h2 h3 BAD GOOD
            go_wp2_with fail
            go_quiet (fail)
            generalize hw2 : wr.drewN nq = wr2 at *
            have q1b : wr2.cell? ⟨b, o + i * 2, none⟩ = some (.int .i64 A) := by rw [← hw2]; exact q1'
            have q2b : wr2.cell? ⟨b, o + i * 2 + 1, none⟩ = some (.int .i64 B) := by rw [← hw2]; exact q2'
            have HW2 := Lib.hid (show wr2 = w.drewN (d + nq) by rw [← hw2, ← HW.out, World.drewN_drewN])
            clear q1' q2' hw2
            go_wp2_with fail
            go_quiet (fail)
            go_wp2_with fail
            go_ret
            exact ⟨by rw [← F.out]; rfl, _, by rw [HW2.out, World.drewN_drewN]⟩
          · have d3 : (A == B) = false := by simpa using h3
            by_cases h4 : size < B
            · have d4 : decide (size < B) = true := by simpa using h4
              have F := Lib.hid (BAD.out (.inr (.inr h4)))
              clear h2 h3 h4 BAD GOOD
              go_wp2_with fail
              go_quiet (fail)
              generalize hw2 : wr.drewN nq = wr2 at *
              have q1b : wr2.cell? ⟨b, o + i * 2, none⟩ = some (.int .i64 A) := by rw [← hw2]; exact q1'
              have q2b : wr2.cell? ⟨b, o + i * 2 + 1, none⟩ = some (.int .i64 B) := by rw [← hw2]; exact q2'
              have HW2 := Lib.hid (show wr2 = w.drewN (d + nq) by rw [← hw2, ← HW.out, World.drewN_drewN])
              clear q1' q2' hw2
              go_wp2_with fail
              go_quiet (fail)
              go_wp2_with fail
              go_ret
              exact ⟨by rw [← F.out]; rfl, _, by rw [HW2.out, World.drewN_drewN]⟩
            · have d4 : decide (size < B) = false := by simpa using h4
              have F := Lib.hid (GOOD.out (by omega))
              clear h2 h3 h4 BAD GOOD
              go_wp2_with fail
              go_quiet (fail)
              generalize hw2 : wr.drewN nq = wr2 at *
              have q1b : wr2.cell? ⟨b, o + i * 2, none⟩ = some (.int .i64 A) := by rw [← hw2]; exact q1'
              have q2b : wr2.cell? ⟨b, o + i * 2 + 1, none⟩ = some (.int .i64 B) := by rw [← hw2]; exact q2'
              have HW2 := Lib.hid (show wr2 = w.drewN (d + nq) by rw [← hw2, ← HW.out, World.drewN_drewN])
              clear q1' q2' hw2
              go_wp2_with fail
              go_quiet (fail)
              go_wp2_with fail
              go_roundg (n - (i + 1))
              case measure => omega
              case rel => exact ⟨i + 1, _, B, by omega, rfl, by congr 1, rfl, by rw [HW2.out, World.drewN_drewN], F⟩
    · have hdl : xs.drop i = [] := List.drop_of_length_le (by omega)
      have F := HO.out
      rw [hdl] at F
      have F := Lib.hid F
      clear HO hdl
      go_wp2_with fail
      go_ret
      exact ⟨by rw [← F.out]; rfl, d, rfl⟩
end Go.Proofs.YtbfelpgojgaeoaaDoor
