/- Walks of the program's functions, printed by a program of mine (walk.py) over the words of Stride: each function's contract. -/
import Derived.Test.YtmendapdibnbdaaGreatDoorDeG
import Derived.LaidEqlPtr
namespace Go.Proofs.YtmendapdibnbdaaGreatDoor.Stride
open Go Go.RowKit Go.Proofs.YtmendapdibnbdaaGreatDoor.Mag
set_option linter.unusedVariables false
set_option linter.unusedSimpArgs false
set_option maxHeartbeats 4000000
set_option maxRecDepth 100000
theorem setAny_spec {C : Nat → Prop} {w : World} {ad : Option Addr} {xc l : Nat} {xs : List Nat} (hxl : xs.length = l) (hx : Sl .u64 18446744073709551616 C w ad xc xs) (hnb : xs.length ≤ 65536) :
  Calls P 67 #[.slice none 0 0, .slice ad l xc] w fun ex w' => ∃ ad2 l2 c rs, ex = .returned (.slice ad2 l2 c) ∧ rs.length = l2 ∧ Keep (fun b => b < w.heap.size) w w' ∧ Sl .u64 18446744073709551616 (fun b => w.heap.size ≤ b) w' ad2 c rs ∧ rs = xs := by
 subst hxl
 rcases Nat.eq_zero_or_pos xs.length with h | h
 ·
  have h0 := List.eq_nil_of_length_eq_zero h
  subst h0
  refine (setNil_spec (C := C)).mono ?_
  rintro ex w' ⟨rfl, hk⟩
  exact ⟨none, 0, 0, [], rfl, rfl, hk, ⟨Cells.nil, fun _ h => by simp at h, Nat.le_refl _, by decide⟩, rfl⟩
 · exact setNew_spec hx h hnb

end Go.Proofs.YtmendapdibnbdaaGreatDoor.Stride
