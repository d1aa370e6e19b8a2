/- The contracts of HasSuffixRunes and spec.Between. -/
import Derived.Test.YtaohmmpfiehniaaSpecFirst
set_option linter.unusedVariables false
set_option linter.unusedSimpArgs false
namespace Go.Proofs.Ytaohmmpfiehniaa
open Go.RowKit

theorem has_suffix (p b cap c ccap : Nat) (r1 r2 rv : Int) (rs cs : List Int) (hn : rs.length ≤ 2147483647) (hcn : cs.length ≤ 2147483647) (w : World)
    (h : WordAt w p (wordRow b rs.length cap r1 r2 rv)) (hr : RunesAt w b rs) (hc : RunesAt w c cs) :
    Calls Try.prog 43 #[.pointer (some ⟨p, 0, none⟩), .slice (some ⟨c, 0, none⟩) cs.length ccap] w fun x w' => x = .returned (.bool (decide (cs <:+ rs))) ∧ ∃ d, w' = w.drewN d := by
  have c0 : w.cell? ⟨p, 0, none⟩ = some (.slice (some ⟨b, 0, none⟩) rs.length cap) := h.row 0 _ rfl
  have F := Lib.hid (has_in p b cap c ccap r1 r2 rv rs cs 0 rs.length (Nat.zero_le _) (Nat.le_refl _) hn hcn w h hr hc)
  have hp : partOf rs 0 rs.length = rs := by simp [partOf]
  rw [hp] at F
  clear h hr hc
  go_enter Try.func43, Try.ntmps43
  go_wp2_with fail
  refine F.out.mono ?_
  rintro x w' ⟨rfl, d, rfl⟩
  go_wp2
  go_ret
  exact ⟨rfl, d, rfl⟩

theorem conv_part (b st e c : Nat) (rs : List Int) (w : World) (hr : RunesAt w b rs) (h1 : st ≤ e) (h2 : e ≤ rs.length) : (convert 24 9 (.slice (some ⟨b, st, none⟩) (e - st) c)).run Try.prog w = .ok (.string (runesBytes (partOf rs st e))) w := by
  have hl := part_len rs st e h2
  have := run_convert_runes (P := Try.prog) w 24 9 21 ⟨b, st, none⟩ (partOf rs st e).length c (partOf rs st e) (Nat.le_refl _) Try.underlying24 Try.underlying21 Try.underlying9 (fun j hj => by
    have h := hr (st + j) (by omega)
    have e' : (⟨b, st, none⟩ : Addr).add j = ⟨b, st + j, none⟩ := by unfold Addr.add; split <;> simp_all
    rw [e', h]
    have hlt : st + j < e := by omega
    simp [partOf, List.getD, List.getElem?_take, hlt])
  rw [List.take_length, hl] at this
  exact this
end Go.Proofs.Ytaohmmpfiehniaa
