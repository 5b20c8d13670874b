/- Contracts of session one, as contracts over frozen data. -/
import Derived.Test.YtnflcmpdaoobcaaLaw1
import Derived.Test.YtnflcmpdaoobcaaTy
import Derived.Test.YtnflcmpdaoobcaaBytes
namespace Go.Proofs.Ytnflcmpdaoobcaa
open Go.RowKit

theorem checksum_p (l : List UInt8) (x : Nat) (hx : crc l = x) (hn : l.length ≤ 140737488355328) : PCalls Try.prog 13 [.d (bytesD l)] (.raw (.int .u32 (x : Int))) :=
  pcalls_of Try.func13 rfl rfl fun w O ρ vs hl hr => by
    obtain ⟨v, rfl⟩ := List.length_eq_one_iff.1 hl
    have h0 := hr 0 _ v rfl rfl
    cases h0 with
    | d h0 =>
      obtain ⟨A, c, rfl, h1, h2, h3⟩ := bytesD_reads h0
      refine (checksum_num l l.length x rfl hx A c _ w (Nat.le_refl _) h3 hn).mono ?_
      rintro e w' ⟨rfl, hb⟩
      exact ⟨_, rfl, fun _ _ => .raw rfl, hb⟩
theorem known_p : PCalls Try.prog 12 [] (.raw (.bool true)) :=
  pcalls_of Try.func12 rfl rfl fun w O ρ vs hl hr => by
    have := List.length_eq_zero_iff.1 hl
    subst this
    refine (known_any w).mono ?_
    rintro e w' ⟨rfl, hb⟩
    exact ⟨_, rfl, fun _ _ => .raw rfl, hb⟩
end Go.Proofs.Ytnflcmpdaoobcaa
