/- Layer 30: tildes. -/
import Derived.Test.YtneihdahboilnaaGreatMg25
import Derived.Laws.Concat
namespace Go.Proofs.YtneihdahboilnaaGreat
open Go.RowKit
set_option maxRecDepth 100000
section
variable {P : Program} {F : Fr} {s : AS} {d : Nat} {x y : Operand} {T : TypeId} {T' : TypeId} {ty : TypeId} {pos : String} {aft : Array Edge} {g : Option (Nat × Bool)}
theorem st_addL (a b : List UInt8) (hx : s.ev x = some (.d (strD a))) (hy : s.ev y = some (.d (strD b))) (hl : a.length + b.length ≤ 9223372036854775807) (hd : Nat.blt d s.n = true) :
    Zaa P F ⟨some d, .binOp .add T x y T', ty, pos, aft, g⟩ s d (.d (strD (a ++ b))) :=
  ZaM _ hd fun _ act w hs => ⟨.string ⟨(a ++ b).toArray⟩, by
    have h := run_string_add_sum (P := P) w ⟨a.toArray⟩ ⟨b.toArray⟩ (by simp [ByteArray.size]; omega);rw [ByteArray.mk_append_mk] at h
    simp [execOp, eqGuard, binOp, hs.raw hx, hs.raw hy, h], .d (.raw rfl)⟩
end
theorem str_at {l : List UInt8} {k : Nat} (h : k < l.length) : (⟨l.toArray⟩ : ByteArray)[k]? = some l[k] := by
  have h2 : k < (⟨l.toArray⟩ : ByteArray).size := by simpa [ByteArray.size] using h
  rw [getElem?_pos _ k h2]; rfl
theorem u8_126 {c : UInt8} : ((c.toNat : Int) = 126) ↔ c = 126 := by
  constructor
  · intro h
    have : c.toNat = (126 : UInt8).toNat := by
      have e : (126 : UInt8).toNat = 126 := rfl;omega
    exact UInt8.toNat_inj.1 this
  · intro h; rw [h]; rfl
theorem marked_p (l : List UInt8) (hl : LB l) : PCalls Tryz.prog 52 [.d (strD l)] (boolD (decide ((126 : UInt8) ∈ l))) := by
  have hll : l.length ≤ 140737488351232 := hl;refine ZaG Tryz.func52 rfl rfl Tryz.ntmps52 rfl rfl rfl fun F hF => (Zae (Zab ?_));refine goAs rfl rfl (Zac (Zae (Zae (Zab (goAs rfl rfl (Zac (Zaq (ZaP (α := Nat) (fun k => ⟨14, [(0, .d (strD l)), (3, (.d (intD (k : Int))))], []⟩) (fun k => k ≤ l.length ∧ ∀ x ∈ l.take k, x ≠ 126) (fun k => l.length - k) (0) (⟨Nat.zero_le _, by simp⟩) (Zau hF [] rfl rfl ⟨rfl, rfl, trivial⟩) ?_))))))));rintro k ⟨hk0, hk⟩;refine Zae (Zae (Zab (goMv rfl rfl (goMv rfl rfl ?_))))
  first | refine Zaa.go (ZaD rfl Tryz.underlying9 rfl) ?_ | refine Zaa.go (Zb2 rfl rfl Tryz.underlying9 rfl) ?_ | refine Zaa.go (Zb6 rfl Tryz.underlying9 rfl) ?_ | refine Zaa.go (ZbY rfl Tryz.underlying9 rfl) ?_ | refine Zaa.go (Zb1 rfl Tryz.underlying9 rfl) ?_ | refine Zaa.go (Zb5 rfl Tryz.underlying9 rfl) ?_
  first | refine Zaa.go (ZaN rfl rfl rfl) ?_ | refine Zaa.go (Zcb rfl rfl rfl) ?_
  refine Zac ?_
  first | refine ZaH rfl (fun h7 => ?_) (fun h7 => ?_) | refine Zbb rfl (fun h7 => ?_) (fun h7 => ?_)
  · have hk1 : k < l.length := ZaO h7;refine Zar (Zae (Zaq (Zae (Zab (goMv rfl rfl (goMv rfl rfl (Zaa.go (st_indexS (k) rfl rfl rfl (str_at hk1) Tryz.underlying9 rfl) ?_)))))))
    first | refine Zaa.go (ZbF rfl rfl rfl) ?_ | refine Zaa.go (Zbg rfl rfl rfl) ?_ | refine Zaa.go (st_eqlS rfl rfl rfl) ?_ | refine Zaa.go (st_eqlB Tryz.underlying5 rfl rfl rfl) ?_ | refine Zaa.go (st_eqlP Tryz.underlying5 rfl rfl rfl) ?_ | refine Zaa.go (st_eqlN Tryz.underlying5 rfl rfl) ?_ | refine Zaa.go (st_eqlF Tryz.underlying5 rfl rfl rfl) ?_ | refine Zaa.go (st_eqlFN Tryz.underlying5 rfl rfl) ?_
    refine Zac ?_
    first | refine ZaH rfl (fun h13 => ?_) (fun h13 => ?_) | refine Zbb rfl (fun h13 => ?_) (fun h13 => ?_)
    · refine Zae (Zab (goAs rfl rfl (Zac (Zao ?_))));exact ⟨_, [], [], Zam rfl, rfl, rfl, retT (by have := List.getElem_mem hk1; rw [u8_126.1 h13] at this; exact this), rfl⟩
    · refine Zar (Zab (goMv rfl rfl (Zaa.go (ZaF rfl rfl (wrapS (k + 1) (by omega)) rfl) (goAs rfl rfl (Zac ?_)))));exact ⟨k + 1, ⟨by show k + 1 ≤ _; omega, by rw [List.take_succ_eq_append_getElem hk1]; intro x hx; rcases List.mem_append.1 hx with hx | hx; exact hk x hx; rw [List.mem_singleton.1 hx]; exact fun e => h13 (u8_126.2 e)⟩, by show l.length - (k + 1) < l.length - k; omega, Zau hF [] rfl (rfl) ⟨rfl, rfl, trivial⟩⟩
  · refine ZaR (Zae (Zab (goAs rfl rfl (Zac (Zao ?_)))));exact ⟨_, [], [], Zam rfl, rfl, rfl, retF (fun hm => hk _ (by rw [List.take_of_length_le (by have h := h7; omega)]; exact hm) rfl), rfl⟩
theorem elsewhere_p (r : Rsc) (hr : RscL r) : PCalls Tryz.prog 53 [.d (rscD r)] (rscD (apR r)) := by
  have h1 : r.acc.o.length ≤ 140737488351232 := hr.1;have h2 : r.f.length ≤ 140737488351232 := hr.2.1;have h3 : r.t.length ≤ 140737488351232 := hr.2.2;refine ZaG Tryz.func53 rfl rfl Tryz.ntmps53 rfl rfl rfl fun F hF => (Zae (Zab (Zaj.go (Za0 1 rfl rfl rfl rfl rfl rfl rfl) (Zaj.go (ZaV 2 zl56 rfl rfl rfl rfl) (Zac (Zae (Zae (Zab ?_))))))))
  first | refine Zaa.go (Zag rfl Zbs rfl rfl rfl) ?_ | refine Zaa.go (Zap rfl Zbs rfl rfl rfl) ?_ | refine Zaa.go (Zas rfl Zbs rfl rfl rfl) ?_ | refine Zaa.go (Zaw rfl Zbs rfl rfl rfl) ?_ | refine Zaa.go (Zan rfl Zbs rfl rfl rfl) ?_
  first | refine Zaa.go (Zag rfl Zbl rfl rfl rfl) ?_ | refine Zaa.go (Zap rfl Zbl rfl rfl rfl) ?_ | refine Zaa.go (Zas rfl Zbl rfl rfl rfl) ?_ | refine Zaa.go (Zaw rfl Zbl rfl rfl rfl) ?_ | refine Zaa.go (Zan rfl Zbl rfl rfl rfl) ?_
  first | refine Zaa.go (Zat rfl rfl on9 rfl) ?_ | refine Zaa.go (Zah rfl rfl rfl on9 rfl) ?_ | refine Zaa.go (ZaK rfl rfl (rfl) rfl on9 rfl) ?_
  first | refine Zaa.go (Zbf rfl rfl rfl) ?_ | refine Zaa.go (Zbi rfl rfl rfl) ?_ | refine Zaa.go (ZbL rfl rfl rfl) ?_ | refine Zaa.go (ZbQ Tryz.underlying9 rfl rfl rfl) ?_ | refine Zaa.go (ZbO Tryz.underlying9 rfl rfl rfl) ?_ | refine Zaa.go (st_neqN Tryz.underlying9 rfl rfl) ?_ | refine Zaa.go (ZbP Tryz.underlying9 rfl rfl rfl) ?_ | refine Zaa.go (st_neqFN Tryz.underlying9 rfl rfl) ?_
  refine Zac ?_
  first | refine ZaH rfl (fun h6 => ?_) (fun h6 => ?_) | refine Zbb rfl (fun h6 => ?_) (fun h6 => ?_)
  · refine Zab ?_
    first | refine Zaa.go (Zag rfl Zbs rfl rfl rfl) ?_ | refine Zaa.go (Zap rfl Zbs rfl rfl rfl) ?_ | refine Zaa.go (Zas rfl Zbs rfl rfl rfl) ?_ | refine Zaa.go (Zaw rfl Zbs rfl rfl rfl) ?_ | refine Zaa.go (Zan rfl Zbs rfl rfl rfl) ?_
    first | refine Zaa.go (Zag rfl Zbl rfl rfl rfl) ?_ | refine Zaa.go (Zap rfl Zbl rfl rfl rfl) ?_ | refine Zaa.go (Zas rfl Zbl rfl rfl rfl) ?_ | refine Zaa.go (Zaw rfl Zbl rfl rfl rfl) ?_ | refine Zaa.go (Zan rfl Zbl rfl rfl rfl) ?_
    first | refine Zaa.go (Zat rfl rfl on9 rfl) ?_ | refine Zaa.go (Zah rfl rfl rfl on9 rfl) ?_ | refine Zaa.go (ZaK rfl rfl (rfl) rfl on9 rfl) ?_
    refine Zaa.go (st_addL r.acc.o [126] rfl rfl (by simp; omega) rfl) ?_
    first | refine Zaa.go (Zag rfl Zbs rfl rfl rfl) ?_ | refine Zaa.go (Zap rfl Zbs rfl rfl rfl) ?_ | refine Zaa.go (Zas rfl Zbs rfl rfl rfl) ?_ | refine Zaa.go (Zaw rfl Zbs rfl rfl rfl) ?_ | refine Zaa.go (Zan rfl Zbs rfl rfl rfl) ?_
    first | refine Zaa.go (Zag rfl Zbl rfl rfl rfl) ?_ | refine Zaa.go (Zap rfl Zbl rfl rfl rfl) ?_ | refine Zaa.go (Zas rfl Zbl rfl rfl rfl) ?_ | refine Zaa.go (Zaw rfl Zbl rfl rfl rfl) ?_ | refine Zaa.go (Zan rfl Zbl rfl rfl rfl) ?_
    refine Zaj.go (ZaA rfl rfl rfl rfl rfl rfl rfl sz9) (Zac (Zae (Zae (Zab ?_))))
    first | refine Zaa.go (Zag rfl Zba rfl rfl rfl) ?_ | refine Zaa.go (Zap rfl Zba rfl rfl rfl) ?_ | refine Zaa.go (Zas rfl Zba rfl rfl rfl) ?_ | refine Zaa.go (Zaw rfl Zba rfl rfl rfl) ?_ | refine Zaa.go (Zan rfl Zba rfl rfl rfl) ?_
    first | refine Zaa.go (Zat rfl rfl on9 rfl) ?_ | refine Zaa.go (Zah rfl rfl rfl on9 rfl) ?_ | refine Zaa.go (ZaK rfl rfl (rfl) rfl on9 rfl) ?_
    first | refine Zaa.go (Zbf rfl rfl rfl) ?_ | refine Zaa.go (Zbi rfl rfl rfl) ?_ | refine Zaa.go (ZbL rfl rfl rfl) ?_ | refine Zaa.go (ZbQ Tryz.underlying9 rfl rfl rfl) ?_ | refine Zaa.go (ZbO Tryz.underlying9 rfl rfl rfl) ?_ | refine Zaa.go (st_neqN Tryz.underlying9 rfl rfl) ?_ | refine Zaa.go (ZbP Tryz.underlying9 rfl rfl rfl) ?_ | refine Zaa.go (st_neqFN Tryz.underlying9 rfl rfl) ?_
    refine Zac ?_
    first | refine ZaH rfl (fun h15 => ?_) (fun h15 => ?_) | refine Zbb rfl (fun h15 => ?_) (fun h15 => ?_)
    · refine Zab ?_
      first | refine Zaa.go (Zag rfl Zba rfl rfl rfl) ?_ | refine Zaa.go (Zap rfl Zba rfl rfl rfl) ?_ | refine Zaa.go (Zas rfl Zba rfl rfl rfl) ?_ | refine Zaa.go (Zaw rfl Zba rfl rfl rfl) ?_ | refine Zaa.go (Zan rfl Zba rfl rfl rfl) ?_
      first | refine Zaa.go (Zat rfl rfl on9 rfl) ?_ | refine Zaa.go (Zah rfl rfl rfl on9 rfl) ?_ | refine Zaa.go (ZaK rfl rfl (rfl) rfl on9 rfl) ?_
      refine Zaa.go (st_addL r.f [126] rfl rfl (by simp; omega) rfl) ?_
      first | refine Zaa.go (Zag rfl Zba rfl rfl rfl) ?_ | refine Zaa.go (Zap rfl Zba rfl rfl rfl) ?_ | refine Zaa.go (Zas rfl Zba rfl rfl rfl) ?_ | refine Zaa.go (Zaw rfl Zba rfl rfl rfl) ?_ | refine Zaa.go (Zan rfl Zba rfl rfl rfl) ?_
      refine Zaj.go (ZaA rfl rfl rfl rfl rfl rfl rfl sz9) (Zac (Zae (Zae (Zab ?_))))
      first | refine Zaa.go (Zag rfl ZaT rfl rfl rfl) ?_ | refine Zaa.go (Zap rfl ZaT rfl rfl rfl) ?_ | refine Zaa.go (Zas rfl ZaT rfl rfl rfl) ?_ | refine Zaa.go (Zaw rfl ZaT rfl rfl rfl) ?_ | refine Zaa.go (Zan rfl ZaT rfl rfl rfl) ?_
      first | refine Zaa.go (Zat rfl rfl on9 rfl) ?_ | refine Zaa.go (Zah rfl rfl rfl on9 rfl) ?_ | refine Zaa.go (ZaK rfl rfl (rfl) rfl on9 rfl) ?_
      first | refine Zaa.go (Zbf rfl rfl rfl) ?_ | refine Zaa.go (Zbi rfl rfl rfl) ?_ | refine Zaa.go (ZbL rfl rfl rfl) ?_ | refine Zaa.go (ZbQ Tryz.underlying9 rfl rfl rfl) ?_ | refine Zaa.go (ZbO Tryz.underlying9 rfl rfl rfl) ?_ | refine Zaa.go (st_neqN Tryz.underlying9 rfl rfl) ?_ | refine Zaa.go (ZbP Tryz.underlying9 rfl rfl rfl) ?_ | refine Zaa.go (st_neqFN Tryz.underlying9 rfl rfl) ?_
      refine Zac ?_
      first | refine ZaH rfl (fun h22 => ?_) (fun h22 => ?_) | refine Zbb rfl (fun h22 => ?_) (fun h22 => ?_)
      · refine Zab ?_
        first | refine Zaa.go (Zag rfl ZaT rfl rfl rfl) ?_ | refine Zaa.go (Zap rfl ZaT rfl rfl rfl) ?_ | refine Zaa.go (Zas rfl ZaT rfl rfl rfl) ?_ | refine Zaa.go (Zaw rfl ZaT rfl rfl rfl) ?_ | refine Zaa.go (Zan rfl ZaT rfl rfl rfl) ?_
        first | refine Zaa.go (Zat rfl rfl on9 rfl) ?_ | refine Zaa.go (Zah rfl rfl rfl on9 rfl) ?_ | refine Zaa.go (ZaK rfl rfl (rfl) rfl on9 rfl) ?_
        refine Zaa.go (st_addL r.t [126] rfl rfl (by simp; omega) rfl) ?_
        first | refine Zaa.go (Zag rfl ZaT rfl rfl rfl) ?_ | refine Zaa.go (Zap rfl ZaT rfl rfl rfl) ?_ | refine Zaa.go (Zas rfl ZaT rfl rfl rfl) ?_ | refine Zaa.go (Zaw rfl ZaT rfl rfl rfl) ?_ | refine Zaa.go (Zan rfl ZaT rfl rfl rfl) ?_
        refine Zaj.go (ZaA rfl rfl rfl rfl rfl rfl rfl sz9) (Zac (Zae (Zab ?_)))
        first | refine Zaa.go (ZaC rfl rfl rw56 rfl) ?_ | refine Zaa.go (Zav rfl rfl rw56 rfl rfl rfl) ?_ | refine Zaa.go (ZaX rfl rfl (rfl) rfl rw56 rfl) ?_
        refine Zaj.go (ZaA rfl rfl rfl rfl rfl rfl rfl sz56) (Zac (Zao ?_));exact ⟨_, [], [], Zam rfl, rfl, rfl, by unfold apR sfx; simp_all, rfl⟩
      · refine Zar (Zae (Zab ?_))
        first | refine Zaa.go (ZaC rfl rfl rw56 rfl) ?_ | refine Zaa.go (Zav rfl rfl rw56 rfl rfl rfl) ?_ | refine Zaa.go (ZaX rfl rfl (rfl) rfl rw56 rfl) ?_
        refine Zaj.go (ZaA rfl rfl rfl rfl rfl rfl rfl sz56) (Zac (Zao ?_));exact ⟨_, [], [], Zam rfl, rfl, rfl, by unfold apR sfx; simp_all, rfl⟩
    · refine Zar (Zae (Zae (Zab ?_)))
      first | refine Zaa.go (Zag rfl ZaT rfl rfl rfl) ?_ | refine Zaa.go (Zap rfl ZaT rfl rfl rfl) ?_ | refine Zaa.go (Zas rfl ZaT rfl rfl rfl) ?_ | refine Zaa.go (Zaw rfl ZaT rfl rfl rfl) ?_ | refine Zaa.go (Zan rfl ZaT rfl rfl rfl) ?_
      first | refine Zaa.go (Zat rfl rfl on9 rfl) ?_ | refine Zaa.go (Zah rfl rfl rfl on9 rfl) ?_ | refine Zaa.go (ZaK rfl rfl (rfl) rfl on9 rfl) ?_
      first | refine Zaa.go (Zbf rfl rfl rfl) ?_ | refine Zaa.go (Zbi rfl rfl rfl) ?_ | refine Zaa.go (ZbL rfl rfl rfl) ?_ | refine Zaa.go (ZbQ Tryz.underlying9 rfl rfl rfl) ?_ | refine Zaa.go (ZbO Tryz.underlying9 rfl rfl rfl) ?_ | refine Zaa.go (st_neqN Tryz.underlying9 rfl rfl) ?_ | refine Zaa.go (ZbP Tryz.underlying9 rfl rfl rfl) ?_ | refine Zaa.go (st_neqFN Tryz.underlying9 rfl rfl) ?_
      refine Zac ?_
      first | refine ZaH rfl (fun h22 => ?_) (fun h22 => ?_) | refine Zbb rfl (fun h22 => ?_) (fun h22 => ?_)
      · refine Zab ?_
        first | refine Zaa.go (Zag rfl ZaT rfl rfl rfl) ?_ | refine Zaa.go (Zap rfl ZaT rfl rfl rfl) ?_ | refine Zaa.go (Zas rfl ZaT rfl rfl rfl) ?_ | refine Zaa.go (Zaw rfl ZaT rfl rfl rfl) ?_ | refine Zaa.go (Zan rfl ZaT rfl rfl rfl) ?_
        first | refine Zaa.go (Zat rfl rfl on9 rfl) ?_ | refine Zaa.go (Zah rfl rfl rfl on9 rfl) ?_ | refine Zaa.go (ZaK rfl rfl (rfl) rfl on9 rfl) ?_
        refine Zaa.go (st_addL r.t [126] rfl rfl (by simp; omega) rfl) ?_
        first | refine Zaa.go (Zag rfl ZaT rfl rfl rfl) ?_ | refine Zaa.go (Zap rfl ZaT rfl rfl rfl) ?_ | refine Zaa.go (Zas rfl ZaT rfl rfl rfl) ?_ | refine Zaa.go (Zaw rfl ZaT rfl rfl rfl) ?_ | refine Zaa.go (Zan rfl ZaT rfl rfl rfl) ?_
        refine Zaj.go (ZaA rfl rfl rfl rfl rfl rfl rfl sz9) (Zac (Zae (Zab ?_)))
        first | refine Zaa.go (ZaC rfl rfl rw56 rfl) ?_ | refine Zaa.go (Zav rfl rfl rw56 rfl rfl rfl) ?_ | refine Zaa.go (ZaX rfl rfl (rfl) rfl rw56 rfl) ?_
        refine Zaj.go (ZaA rfl rfl rfl rfl rfl rfl rfl sz56) (Zac (Zao ?_));exact ⟨_, [], [], Zam rfl, rfl, rfl, by unfold apR sfx; simp_all, rfl⟩
      · refine Zar (Zae (Zab ?_))
        first | refine Zaa.go (ZaC rfl rfl rw56 rfl) ?_ | refine Zaa.go (Zav rfl rfl rw56 rfl rfl rfl) ?_ | refine Zaa.go (ZaX rfl rfl (rfl) rfl rw56 rfl) ?_
        refine Zaj.go (ZaA rfl rfl rfl rfl rfl rfl rfl sz56) (Zac (Zao ?_));exact ⟨_, [], [], Zam rfl, rfl, rfl, by unfold apR sfx; simp_all, rfl⟩
  · refine Zar (Zae (Zae (Zab ?_)))
    first | refine Zaa.go (Zag rfl Zba rfl rfl rfl) ?_ | refine Zaa.go (Zap rfl Zba rfl rfl rfl) ?_ | refine Zaa.go (Zas rfl Zba rfl rfl rfl) ?_ | refine Zaa.go (Zaw rfl Zba rfl rfl rfl) ?_ | refine Zaa.go (Zan rfl Zba rfl rfl rfl) ?_
    first | refine Zaa.go (Zat rfl rfl on9 rfl) ?_ | refine Zaa.go (Zah rfl rfl rfl on9 rfl) ?_ | refine Zaa.go (ZaK rfl rfl (rfl) rfl on9 rfl) ?_
    first | refine Zaa.go (Zbf rfl rfl rfl) ?_ | refine Zaa.go (Zbi rfl rfl rfl) ?_ | refine Zaa.go (ZbL rfl rfl rfl) ?_ | refine Zaa.go (ZbQ Tryz.underlying9 rfl rfl rfl) ?_ | refine Zaa.go (ZbO Tryz.underlying9 rfl rfl rfl) ?_ | refine Zaa.go (st_neqN Tryz.underlying9 rfl rfl) ?_ | refine Zaa.go (ZbP Tryz.underlying9 rfl rfl rfl) ?_ | refine Zaa.go (st_neqFN Tryz.underlying9 rfl rfl) ?_
    refine Zac ?_
    first | refine ZaH rfl (fun h15 => ?_) (fun h15 => ?_) | refine Zbb rfl (fun h15 => ?_) (fun h15 => ?_)
    · refine Zab ?_
      first | refine Zaa.go (Zag rfl Zba rfl rfl rfl) ?_ | refine Zaa.go (Zap rfl Zba rfl rfl rfl) ?_ | refine Zaa.go (Zas rfl Zba rfl rfl rfl) ?_ | refine Zaa.go (Zaw rfl Zba rfl rfl rfl) ?_ | refine Zaa.go (Zan rfl Zba rfl rfl rfl) ?_
      first | refine Zaa.go (Zat rfl rfl on9 rfl) ?_ | refine Zaa.go (Zah rfl rfl rfl on9 rfl) ?_ | refine Zaa.go (ZaK rfl rfl (rfl) rfl on9 rfl) ?_
      refine Zaa.go (st_addL r.f [126] rfl rfl (by simp; omega) rfl) ?_
      first | refine Zaa.go (Zag rfl Zba rfl rfl rfl) ?_ | refine Zaa.go (Zap rfl Zba rfl rfl rfl) ?_ | refine Zaa.go (Zas rfl Zba rfl rfl rfl) ?_ | refine Zaa.go (Zaw rfl Zba rfl rfl rfl) ?_ | refine Zaa.go (Zan rfl Zba rfl rfl rfl) ?_
      refine Zaj.go (ZaA rfl rfl rfl rfl rfl rfl rfl sz9) (Zac (Zae (Zae (Zab ?_))))
      first | refine Zaa.go (Zag rfl ZaT rfl rfl rfl) ?_ | refine Zaa.go (Zap rfl ZaT rfl rfl rfl) ?_ | refine Zaa.go (Zas rfl ZaT rfl rfl rfl) ?_ | refine Zaa.go (Zaw rfl ZaT rfl rfl rfl) ?_ | refine Zaa.go (Zan rfl ZaT rfl rfl rfl) ?_
      first | refine Zaa.go (Zat rfl rfl on9 rfl) ?_ | refine Zaa.go (Zah rfl rfl rfl on9 rfl) ?_ | refine Zaa.go (ZaK rfl rfl (rfl) rfl on9 rfl) ?_
      first | refine Zaa.go (Zbf rfl rfl rfl) ?_ | refine Zaa.go (Zbi rfl rfl rfl) ?_ | refine Zaa.go (ZbL rfl rfl rfl) ?_ | refine Zaa.go (ZbQ Tryz.underlying9 rfl rfl rfl) ?_ | refine Zaa.go (ZbO Tryz.underlying9 rfl rfl rfl) ?_ | refine Zaa.go (st_neqN Tryz.underlying9 rfl rfl) ?_ | refine Zaa.go (ZbP Tryz.underlying9 rfl rfl rfl) ?_ | refine Zaa.go (st_neqFN Tryz.underlying9 rfl rfl) ?_
      refine Zac ?_
      first | refine ZaH rfl (fun h22 => ?_) (fun h22 => ?_) | refine Zbb rfl (fun h22 => ?_) (fun h22 => ?_)
      · refine Zab ?_
        first | refine Zaa.go (Zag rfl ZaT rfl rfl rfl) ?_ | refine Zaa.go (Zap rfl ZaT rfl rfl rfl) ?_ | refine Zaa.go (Zas rfl ZaT rfl rfl rfl) ?_ | refine Zaa.go (Zaw rfl ZaT rfl rfl rfl) ?_ | refine Zaa.go (Zan rfl ZaT rfl rfl rfl) ?_
        first | refine Zaa.go (Zat rfl rfl on9 rfl) ?_ | refine Zaa.go (Zah rfl rfl rfl on9 rfl) ?_ | refine Zaa.go (ZaK rfl rfl (rfl) rfl on9 rfl) ?_
        refine Zaa.go (st_addL r.t [126] rfl rfl (by simp; omega) rfl) ?_
        first | refine Zaa.go (Zag rfl ZaT rfl rfl rfl) ?_ | refine Zaa.go (Zap rfl ZaT rfl rfl rfl) ?_ | refine Zaa.go (Zas rfl ZaT rfl rfl rfl) ?_ | refine Zaa.go (Zaw rfl ZaT rfl rfl rfl) ?_ | refine Zaa.go (Zan rfl ZaT rfl rfl rfl) ?_
        refine Zaj.go (ZaA rfl rfl rfl rfl rfl rfl rfl sz9) (Zac (Zae (Zab ?_)))
        first | refine Zaa.go (ZaC rfl rfl rw56 rfl) ?_ | refine Zaa.go (Zav rfl rfl rw56 rfl rfl rfl) ?_ | refine Zaa.go (ZaX rfl rfl (rfl) rfl rw56 rfl) ?_
        refine Zaj.go (ZaA rfl rfl rfl rfl rfl rfl rfl sz56) (Zac (Zao ?_));exact ⟨_, [], [], Zam rfl, rfl, rfl, by unfold apR sfx; simp_all, rfl⟩
      · refine Zar (Zae (Zab ?_))
        first | refine Zaa.go (ZaC rfl rfl rw56 rfl) ?_ | refine Zaa.go (Zav rfl rfl rw56 rfl rfl rfl) ?_ | refine Zaa.go (ZaX rfl rfl (rfl) rfl rw56 rfl) ?_
        refine Zaj.go (ZaA rfl rfl rfl rfl rfl rfl rfl sz56) (Zac (Zao ?_));exact ⟨_, [], [], Zam rfl, rfl, rfl, by unfold apR sfx; simp_all, rfl⟩
    · refine Zar (Zae (Zae (Zab ?_)))
      first | refine Zaa.go (Zag rfl ZaT rfl rfl rfl) ?_ | refine Zaa.go (Zap rfl ZaT rfl rfl rfl) ?_ | refine Zaa.go (Zas rfl ZaT rfl rfl rfl) ?_ | refine Zaa.go (Zaw rfl ZaT rfl rfl rfl) ?_ | refine Zaa.go (Zan rfl ZaT rfl rfl rfl) ?_
      first | refine Zaa.go (Zat rfl rfl on9 rfl) ?_ | refine Zaa.go (Zah rfl rfl rfl on9 rfl) ?_ | refine Zaa.go (ZaK rfl rfl (rfl) rfl on9 rfl) ?_
      first | refine Zaa.go (Zbf rfl rfl rfl) ?_ | refine Zaa.go (Zbi rfl rfl rfl) ?_ | refine Zaa.go (ZbL rfl rfl rfl) ?_ | refine Zaa.go (ZbQ Tryz.underlying9 rfl rfl rfl) ?_ | refine Zaa.go (ZbO Tryz.underlying9 rfl rfl rfl) ?_ | refine Zaa.go (st_neqN Tryz.underlying9 rfl rfl) ?_ | refine Zaa.go (ZbP Tryz.underlying9 rfl rfl rfl) ?_ | refine Zaa.go (st_neqFN Tryz.underlying9 rfl rfl) ?_
      refine Zac ?_
      first | refine ZaH rfl (fun h22 => ?_) (fun h22 => ?_) | refine Zbb rfl (fun h22 => ?_) (fun h22 => ?_)
      · refine Zab ?_
        first | refine Zaa.go (Zag rfl ZaT rfl rfl rfl) ?_ | refine Zaa.go (Zap rfl ZaT rfl rfl rfl) ?_ | refine Zaa.go (Zas rfl ZaT rfl rfl rfl) ?_ | refine Zaa.go (Zaw rfl ZaT rfl rfl rfl) ?_ | refine Zaa.go (Zan rfl ZaT rfl rfl rfl) ?_
        first | refine Zaa.go (Zat rfl rfl on9 rfl) ?_ | refine Zaa.go (Zah rfl rfl rfl on9 rfl) ?_ | refine Zaa.go (ZaK rfl rfl (rfl) rfl on9 rfl) ?_
        refine Zaa.go (st_addL r.t [126] rfl rfl (by simp; omega) rfl) ?_
        first | refine Zaa.go (Zag rfl ZaT rfl rfl rfl) ?_ | refine Zaa.go (Zap rfl ZaT rfl rfl rfl) ?_ | refine Zaa.go (Zas rfl ZaT rfl rfl rfl) ?_ | refine Zaa.go (Zaw rfl ZaT rfl rfl rfl) ?_ | refine Zaa.go (Zan rfl ZaT rfl rfl rfl) ?_
        refine Zaj.go (ZaA rfl rfl rfl rfl rfl rfl rfl sz9) (Zac (Zae (Zab ?_)))
        first | refine Zaa.go (ZaC rfl rfl rw56 rfl) ?_ | refine Zaa.go (Zav rfl rfl rw56 rfl rfl rfl) ?_ | refine Zaa.go (ZaX rfl rfl (rfl) rfl rw56 rfl) ?_
        refine Zaj.go (ZaA rfl rfl rfl rfl rfl rfl rfl sz56) (Zac (Zao ?_));exact ⟨_, [], [], Zam rfl, rfl, rfl, by unfold apR sfx; simp_all, rfl⟩
      · refine Zar (Zae (Zab ?_))
        first | refine Zaa.go (ZaC rfl rfl rw56 rfl) ?_ | refine Zaa.go (Zav rfl rfl rw56 rfl rfl rfl) ?_ | refine Zaa.go (ZaX rfl rfl (rfl) rfl rw56 rfl) ?_
        refine Zaj.go (ZaA rfl rfl rfl rfl rfl rfl rfl sz56) (Zac (Zao ?_));exact ⟨_, [], [], Zam rfl, rfl, rfl, by unfold apR sfx; simp_all, rfl⟩
section
variable {P : Program} {F : Fr} {s : AS} {d : Nat} {ty : TypeId} {pos : String} {aft : Array Edge} {g : Option (Nat × Bool)} {at_ : Array TypeId}
end
def wthI (id : Int) (y : Itm) : Itm := ⟨y.id, y.pr, y.sq, y.po, y.pa, without y.af id⟩
def setI1 (id : Int) (its : List Itm) : List Itm := (its.filter fun y => decide (y.id ≠ id)).map (wthI id)
def set1 (p : Prb) (id : Int) : Prb := ⟨p.ro.map fun x => ⟨x.r, x.n + dltE (itmOf p id) x.r⟩, setI1 id p.it⟩
theorem setI1_len (id : Int) (its : List Itm) : (setI1 id its).length ≤ its.length := by
  unfold setI1;rw [List.length_map];exact List.length_filter_le _ _
theorem tk_mapA {α β : Type} {l : List α} {f : α → β} {k : Nat} (hk : k < l.length) {acc : List β} (h : acc = (l.take k).map f) : acc ++ [f l[k]] = (l.take (k + 1)).map f := by
  rw [List.take_succ_eq_append_getElem hk, List.map_append, h]; rfl
structure Mid (p : Prb) (b : Int) : Prop where
  f : FewP p
  r : (p.ro.map Roo.r).Nodup
  n : ∀ x ∈ p.ro, -b ≤ x.n ∧ x.n ≤ b
theorem Mid.set {p : Prb} {b : Int} (h : Mid p b) (id : Int) : Mid (set1 p id) (b + 1000000000000000) := by
  refine ⟨⟨?_, ?_, fun x hx => ?_⟩, ?_, fun x hx => ?_⟩
  · have := setI1_len id p.it;have h1 := h.f.i;show (setI1 id p.it).length ≤ 30; omega
  · show (p.ro.map _).length ≤ 100;rw [List.length_map]; exact h.f.r
  · obtain ⟨y, hy, rfl⟩ := List.mem_map.1 hx;have h1 := h.f.x y (List.mem_filter.1 hy).1;exact ⟨h1.1, h1.2.1, Nat.le_trans (List.length_filter_le _ _) h1.2.2⟩
  · show ((p.ro.map _).map Roo.r).Nodup;rw [List.map_map]; exact h.r
  · obtain ⟨y, hy, rfl⟩ := List.mem_map.1 hx;have h1 := h.n y hy;have h2 := dltE_bnd (itmOf p id) y.r;show -(b + 1000000000000000) ≤ y.n + dltE (itmOf p id) y.r ∧ y.n + dltE (itmOf p id) y.r ≤ b + 1000000000000000;omega
def UnmI (x : Itm) : Prop := x.id < 1000000 ∧ x.sq < 1000000 ∧ (∀ y ∈ x.po, (126 : UInt8) ∉ y.acc.o) ∧ ∀ y ∈ x.pa, (126 : UInt8) ∉ y.f ∧ (126 : UInt8) ∉ y.t
noncomputable instance (p : Prb) : Decidable (Unm p) := Classical.propDecidable _
theorem nunm_i {p : Prb} {x : Itm} (hx : x ∈ p.it) (h : ¬ UnmI x) : ¬ Unm p := fun hu => h (hu.i x hx)
set_option maxHeartbeats 1000000 in
theorem tilde_p (p : Prb) (hW : FewP p) (hL : PrbL p) : PCalls Tryz.prog 27 [.d (prbD p)] (boolD (decide (¬ Unm p))) := by
  have g1 := hW.i;have g2 := hW.r;refine ZaG Tryz.func27 rfl rfl Tryz.ntmps27 rfl rfl rfl fun F hF => (Zae (Zab (Zaj.go (Za0 1 rfl rfl rfl rfl rfl rfl rfl) ?_)));refine goAs rfl rfl (Zac (Zae (Zae (Zab (goAs rfl rfl (Zac (Zaq (ZaP (α := Nat) (fun k => ⟨94, [(1, (.ptr 1 0 0)), (3, (.d (intD (k : Int))))], [(1, [prbB2 25 p])]⟩) (fun k => k ≤ p.ro.length ∧ ∀ x ∈ p.ro.take k, (126 : UInt8) ∉ x.r.acc.o ∧ (126 : UInt8) ∉ x.r.f ∧ (126 : UInt8) ∉ x.r.t) (fun k => p.ro.length - k) (0) (⟨Nat.zero_le _, by simp⟩) (Zau hF [1] rfl rfl ⟨rfl, rfl, trivial⟩) ?_))))))));rintro k ⟨hk0, hk⟩;refine Zae (Zae (Zab (goMv rfl rfl ?_)))
  first | refine Zaa.go (Zag rfl ZaS rfl rfl rfl) ?_ | refine Zaa.go (Zap rfl ZaS rfl rfl rfl) ?_ | refine Zaa.go (Zas rfl ZaS rfl rfl rfl) ?_ | refine Zaa.go (Zaw rfl ZaS rfl rfl rfl) ?_ | refine Zaa.go (Zan rfl ZaS rfl rfl rfl) ?_
  first | refine Zaa.go (Zat rfl rfl on22 rfl) ?_ | refine Zaa.go (Zah rfl rfl rfl on22 rfl) ?_ | refine Zaa.go (ZaK rfl rfl (rfl) rfl on22 rfl) ?_
  first | refine Zaa.go (ZaD rfl Tryz.underlying22 rfl) ?_ | refine Zaa.go (Zb2 rfl rfl Tryz.underlying22 rfl) ?_ | refine Zaa.go (Zb6 rfl Tryz.underlying22 rfl) ?_ | refine Zaa.go (ZbY rfl Tryz.underlying22 rfl) ?_ | refine Zaa.go (Zb1 rfl Tryz.underlying22 rfl) ?_ | refine Zaa.go (Zb5 rfl Tryz.underlying22 rfl) ?_
  first | refine Zaa.go (ZaN rfl rfl rfl) ?_ | refine Zaa.go (Zcb rfl rfl rfl) ?_
  refine Zac ?_
  first | refine ZaH rfl (fun h13 => ?_) (fun h13 => ?_) | refine Zbb rfl (fun h13 => ?_) (fun h13 => ?_)
  · have hk1 : k < p.ro.length := ZaO h13;refine Zar (Zae (Zaq (Zae ?_)));have hxL := hL.1 _ (List.getElem_mem hk1);refine Zab ?_
    first | refine Zaa.go (Zag rfl ZaS rfl rfl rfl) ?_ | refine Zaa.go (Zap rfl ZaS rfl rfl rfl) ?_ | refine Zaa.go (Zas rfl ZaS rfl rfl rfl) ?_ | refine Zaa.go (Zaw rfl ZaS rfl rfl rfl) ?_ | refine Zaa.go (Zan rfl ZaS rfl rfl rfl) ?_
    first | refine Zaa.go (Zat rfl rfl on22 rfl) ?_ | refine Zaa.go (Zah rfl rfl rfl on22 rfl) ?_ | refine Zaa.go (ZaK rfl rfl (rfl) rfl on22 rfl) ?_
    refine goMv rfl rfl ?_
    first | refine Zaa.go (Zaz (k) rfl rfl (rfl) (getm hk1) Tryz.underlying22 rfl sz67 rfl) ?_ | refine Zaa.go (Zbn (k) rfl rfl (rfl) (getm hk1) rfl Tryz.underlying22 sz67 rfl) ?_
    first | refine Zaa.go (Zag rfl Zca rfl rfl rfl) ?_ | refine Zaa.go (Zap rfl Zca rfl rfl rfl) ?_ | refine Zaa.go (Zas rfl Zca rfl rfl rfl) ?_ | refine Zaa.go (Zaw rfl Zca rfl rfl rfl) ?_ | refine Zaa.go (Zan rfl Zca rfl rfl rfl) ?_
    first | refine Zaa.go (ZaC rfl rfl rw56 rfl) ?_ | refine Zaa.go (Zav rfl rfl rw56 rfl rfl rfl) ?_ | refine Zaa.go (ZaX rfl rfl (rfl) rfl rw56 rfl) ?_
    refine Zaj.go (ZaV 2 zl56 rfl rfl rfl rfl) (Zaj.go (ZaA rfl rfl rfl rfl rfl rfl rfl sz56) (Zac (Zae (Zab ?_))))
    first | refine Zaa.go (Zag rfl Zbs rfl rfl rfl) ?_ | refine Zaa.go (Zap rfl Zbs rfl rfl rfl) ?_ | refine Zaa.go (Zas rfl Zbs rfl rfl rfl) ?_ | refine Zaa.go (Zaw rfl Zbs rfl rfl rfl) ?_ | refine Zaa.go (Zan rfl Zbs rfl rfl rfl) ?_
    first | refine Zaa.go (Zag rfl Zbl rfl rfl rfl) ?_ | refine Zaa.go (Zap rfl Zbl rfl rfl rfl) ?_ | refine Zaa.go (Zas rfl Zbl rfl rfl rfl) ?_ | refine Zaa.go (Zaw rfl Zbl rfl rfl rfl) ?_ | refine Zaa.go (Zan rfl Zbl rfl rfl rfl) ?_
    first | refine Zaa.go (Zat rfl rfl on9 rfl) ?_ | refine Zaa.go (Zah rfl rfl rfl on9 rfl) ?_ | refine Zaa.go (ZaK rfl rfl (rfl) rfl on9 rfl) ?_
    refine Zaa.go (Zax (marked_p p.ro[k].r.acc.o hxL.1) rfl rfl) ?_
    by_cases m1 : (126 : UInt8) ∈ p.ro[k].r.acc.o
    · refine goMv rfl rfl (o_setT 26 rfl ((decide_eq_true m1)) (Zai rfl rfl rfl rfl (Zai rfl rfl rfl rfl (Zai rfl rfl rfl rfl (Zaa.go (Zay rfl rfl rfl rfl) ?_)))))
      by_cases m2 : (126 : UInt8) ∈ p.ro[k].r.f
      · refine goMv rfl rfl (Zai rfl rfl rfl rfl (Zai rfl rfl rfl rfl ?_));refine Zai rfl rfl rfl rfl (Zaa.go (Zay rfl rfl rfl rfl) (Zac (ZaU rfl rfl (Zae (Zab (goAs rfl rfl (Zac (Zao ?_))))))));exact ⟨_, [], [], Zam rfl, rfl, rfl, retT (fun hu => by have h := hu.r _ (List.getElem_mem hk1); first | exact h.1 m1 | exact h.2.1 m2 | exact h.2.2 (by simpa using h35)), rfl⟩
      · refine goMv rfl rfl (Zai rfl rfl rfl rfl (Zai rfl rfl rfl rfl ?_));refine Zai rfl rfl rfl rfl (Zaa.go (Zay rfl rfl rfl rfl) (Zac (ZaU rfl rfl (Zae (Zab (goAs rfl rfl (Zac (Zao ?_))))))));exact ⟨_, [], [], Zam rfl, rfl, rfl, retT (fun hu => by have h := hu.r _ (List.getElem_mem hk1); first | exact h.1 m1 | exact h.2.1 m2 | exact h.2.2 (by simpa using h35)), rfl⟩
    · refine goMv rfl rfl (ZbX 26 rfl ((decide_eq_false m1)) (Zak rfl rfl rfl ?_))
      first | refine Zaa.go (Zag rfl Zba rfl rfl rfl) ?_ | refine Zaa.go (Zap rfl Zba rfl rfl rfl) ?_ | refine Zaa.go (Zas rfl Zba rfl rfl rfl) ?_ | refine Zaa.go (Zaw rfl Zba rfl rfl rfl) ?_ | refine Zaa.go (Zan rfl Zba rfl rfl rfl) ?_
      refine Zak rfl rfl rfl ?_
      first | refine Zaa.go (Zat rfl rfl on9 rfl) ?_ | refine Zaa.go (Zah rfl rfl rfl on9 rfl) ?_ | refine Zaa.go (ZaK rfl rfl (rfl) rfl on9 rfl) ?_
      refine Zak rfl rfl rfl (Zaa.go (Zax (marked_p p.ro[k].r.f hxL.2.1) rfl rfl) (Zaa.go (ZaB rfl rfl rfl rfl) ?_))
      by_cases m2 : (126 : UInt8) ∈ p.ro[k].r.f
      · refine goMv rfl rfl (o_setT 31 rfl ((decide_eq_true m2)) (Zai rfl rfl rfl rfl (Zai rfl rfl rfl rfl ?_)));refine Zai rfl rfl rfl rfl (Zaa.go (Zay rfl rfl rfl rfl) (Zac (ZaU rfl rfl (Zae (Zab (goAs rfl rfl (Zac (Zao ?_))))))));exact ⟨_, [], [], Zam rfl, rfl, rfl, retT (fun hu => by have h := hu.r _ (List.getElem_mem hk1); first | exact h.1 m1 | exact h.2.1 m2 | exact h.2.2 (by simpa using h35)), rfl⟩
      · refine goMv rfl rfl (ZbX 31 rfl ((decide_eq_false m2)) (Zak rfl rfl rfl ?_))
        first | refine Zaa.go (Zag rfl ZaT rfl rfl rfl) ?_ | refine Zaa.go (Zap rfl ZaT rfl rfl rfl) ?_ | refine Zaa.go (Zas rfl ZaT rfl rfl rfl) ?_ | refine Zaa.go (Zaw rfl ZaT rfl rfl rfl) ?_ | refine Zaa.go (Zan rfl ZaT rfl rfl rfl) ?_
        refine Zak rfl rfl rfl ?_
        first | refine Zaa.go (Zat rfl rfl on9 rfl) ?_ | refine Zaa.go (Zah rfl rfl rfl on9 rfl) ?_ | refine Zaa.go (ZaK rfl rfl (rfl) rfl on9 rfl) ?_
        refine Zak rfl rfl rfl (Zaa.go (Zax (marked_p p.ro[k].r.t hxL.2.2) rfl rfl) (Zaa.go (ZaB rfl rfl rfl rfl) (Zac ?_)))
        first | refine ZaH rfl (fun h35 => ?_) (fun h35 => ?_) | refine Zbb rfl (fun h35 => ?_) (fun h35 => ?_)
        · refine Zae (Zab (goAs rfl rfl (Zac (Zao ?_))));exact ⟨_, [], [], Zam rfl, rfl, rfl, retT (fun hu => by have h := hu.r _ (List.getElem_mem hk1); first | exact h.1 m1 | exact h.2.1 m2 | exact h.2.2 (by simpa using h35)), rfl⟩
        · refine Zar (Zab (goMv rfl rfl (Zaa.go (ZaF rfl rfl (wrapS (k + 1) (by omega)) rfl) (goAs rfl rfl (Zac ?_)))));exact ⟨k + 1, ⟨by show k + 1 ≤ _; omega, by rw [List.take_succ_eq_append_getElem hk1]; intro x hx; rcases List.mem_append.1 hx with hx | hx; exact hk x hx; rw [List.mem_singleton.1 hx]; exact ⟨m1, m2, by simpa using h35⟩⟩, by show p.ro.length - (k + 1) < p.ro.length - k; omega, Zau hF [1] rfl (rfl) ⟨rfl, rfl, trivial⟩⟩
  · refine ZaR (Zae (Zae ?_));have hro : ∀ x ∈ p.ro, (126 : UInt8) ∉ x.r.acc.o ∧ (126 : UInt8) ∉ x.r.f ∧ (126 : UInt8) ∉ x.r.t := by have e : k = p.ro.length := (by have h := h13; omega); rw [e, List.take_length] at hk; exact hk
    refine Zab (goAs rfl rfl (Zac (Zaq (ZaP (α := Nat) (fun j => ⟨94, [(1, (.ptr 1 0 0)), (5, (.d (intD (j : Int))))], [(1, [prbB2 25 p])]⟩) (fun j => j ≤ p.it.length ∧ ∀ x ∈ p.it.take j, UnmI x) (fun j => p.it.length - j) (0) (⟨Nat.zero_le _, by simp⟩) (Zau hF [1] rfl rfl ⟨rfl, rfl, trivial⟩) ?_))));rintro j ⟨hj0, hj⟩;refine Zae (Zae (Zab (goMv rfl rfl ?_)))
    first | refine Zaa.go (Zag rfl ZaY rfl rfl rfl) ?_ | refine Zaa.go (Zap rfl ZaY rfl rfl rfl) ?_ | refine Zaa.go (Zas rfl ZaY rfl rfl rfl) ?_ | refine Zaa.go (Zaw rfl ZaY rfl rfl rfl) ?_ | refine Zaa.go (Zan rfl ZaY rfl rfl rfl) ?_
    first | refine Zaa.go (Zat rfl rfl on23 rfl) ?_ | refine Zaa.go (Zah rfl rfl rfl on23 rfl) ?_ | refine Zaa.go (ZaK rfl rfl (rfl) rfl on23 rfl) ?_
    first | refine Zaa.go (ZaD rfl Tryz.underlying23 rfl) ?_ | refine Zaa.go (Zb2 rfl rfl Tryz.underlying23 rfl) ?_ | refine Zaa.go (Zb6 rfl Tryz.underlying23 rfl) ?_ | refine Zaa.go (ZbY rfl Tryz.underlying23 rfl) ?_ | refine Zaa.go (Zb1 rfl Tryz.underlying23 rfl) ?_ | refine Zaa.go (Zb5 rfl Tryz.underlying23 rfl) ?_
    first | refine Zaa.go (ZaN rfl rfl rfl) ?_ | refine Zaa.go (Zcb rfl rfl rfl) ?_
    refine Zac ?_
    first | refine ZaH rfl (fun h40 => ?_) (fun h40 => ?_) | refine Zbb rfl (fun h40 => ?_) (fun h40 => ?_)
    · have hj1 : j < p.it.length := ZaO h40;refine Zar (Zae (Zaq (Zae ?_)));have hXL := hL.2 _ (List.getElem_mem hj1);have hXF := hW.x _ (List.getElem_mem hj1);have hXm := List.getElem_mem hj1
      obtain ⟨X, hX⟩ : ∃ X, p.it[j] = X := ⟨_, rfl⟩
      have hgX : (p.it.map itmD)[j]? = some (itmD X) := by rw [getm hj1, hX]
      rw [hX] at hXL hXF hXm;refine Zab ?_
      first | refine Zaa.go (Zag rfl ZaY rfl rfl rfl) ?_ | refine Zaa.go (Zap rfl ZaY rfl rfl rfl) ?_ | refine Zaa.go (Zas rfl ZaY rfl rfl rfl) ?_ | refine Zaa.go (Zaw rfl ZaY rfl rfl rfl) ?_ | refine Zaa.go (Zan rfl ZaY rfl rfl rfl) ?_
      first | refine Zaa.go (Zat rfl rfl on23 rfl) ?_ | refine Zaa.go (Zah rfl rfl rfl on23 rfl) ?_ | refine Zaa.go (ZaK rfl rfl (rfl) rfl on23 rfl) ?_
      refine goMv rfl rfl ?_
      first | refine Zaa.go (Zaz (j) rfl rfl (rfl) (hgX) Tryz.underlying23 rfl sz64 rfl) ?_ | refine Zaa.go (Zbn (j) rfl rfl (rfl) (hgX) rfl Tryz.underlying23 sz64 rfl) ?_
      first | refine Zaa.go (ZaC rfl rfl rw64 rfl) ?_ | refine Zaa.go (Zav rfl rfl rw64 rfl rfl rfl) ?_ | refine Zaa.go (ZaX rfl rfl (rfl) rfl rw64 rfl) ?_
      refine Zaj.go (ZaV 3 zl64 rfl rfl rfl rfl) (Zaj.go (ZaA rfl rfl rfl rfl rfl rfl rfl sz64) (Zac (Zae (Zae (Zab ?_)))))
      first | refine Zaa.go (Zag rfl fi64_0 rfl rfl rfl) ?_ | refine Zaa.go (Zap rfl fi64_0 rfl rfl rfl) ?_ | refine Zaa.go (Zas rfl fi64_0 rfl rfl rfl) ?_ | refine Zaa.go (Zaw rfl fi64_0 rfl rfl rfl) ?_ | refine Zaa.go (Zan rfl fi64_0 rfl rfl rfl) ?_
      first | refine Zaa.go (Zat rfl rfl on3 rfl) ?_ | refine Zaa.go (Zah rfl rfl rfl on3 rfl) ?_ | refine Zaa.go (ZaK rfl rfl (rfl) rfl on3 rfl) ?_
      refine Zaa.go (st_geq rfl rfl rfl) ?_
      by_cases c1 : X.id ≥ 1000000
      · refine goMv rfl rfl (o_setT 51 rfl ((decide_eq_true c1)) (Zai rfl rfl rfl rfl (Zai rfl rfl rfl rfl ?_)));refine Zai rfl rfl rfl rfl (Zaa.go (Zay rfl rfl rfl rfl) (Zac (ZaU rfl rfl (Zae (Zab (goAs rfl rfl (Zac (Zao ?_))))))));exact ⟨_, [], [], Zam rfl, rfl, rfl, retT (nunm_i hXm fun hu => by have a := hu.1; have b := hu.2.1; omega), rfl⟩
      · refine goMv rfl rfl (ZbX 51 rfl ((decide_eq_false c1)) (Zak rfl rfl rfl ?_))
        first | refine Zaa.go (Zag rfl fi64_2 rfl rfl rfl) ?_ | refine Zaa.go (Zap rfl fi64_2 rfl rfl rfl) ?_ | refine Zaa.go (Zas rfl fi64_2 rfl rfl rfl) ?_ | refine Zaa.go (Zaw rfl fi64_2 rfl rfl rfl) ?_ | refine Zaa.go (Zan rfl fi64_2 rfl rfl rfl) ?_
        refine Zak rfl rfl rfl ?_
        first | refine Zaa.go (Zat rfl rfl on3 rfl) ?_ | refine Zaa.go (Zah rfl rfl rfl on3 rfl) ?_ | refine Zaa.go (ZaK rfl rfl (rfl) rfl on3 rfl) ?_
        refine Zak rfl rfl rfl (Zaa.go (st_geq rfl rfl rfl) (Zaa.go (ZaB rfl rfl rfl rfl) (Zac ?_)))
        first | refine ZaH rfl (fun h55 => ?_) (fun h55 => ?_) | refine Zbb rfl (fun h55 => ?_) (fun h55 => ?_)
        · refine Zae (Zab (goAs rfl rfl (Zac (Zao ?_))));exact ⟨_, [], [], Zam rfl, rfl, rfl, retT (nunm_i hXm fun hu => by have a := hu.1; have b := hu.2.1; omega), rfl⟩
        · refine Zar (Zae (Zae (Zab (goAs rfl rfl (Zac (Zaq (ZaP (α := Nat) (fun m => ⟨94, [(1, (.ptr 1 0 0)), (5, (.d (intD (j : Int)))), (6, (.ptr 3 0 0)), (7, (.d (intD (m : Int))))], [(1, [prbB2 25 p]), (3, [itmB 64 X])]⟩) (fun m => m ≤ X.po.length ∧ ∀ y ∈ X.po.take m, (126 : UInt8) ∉ y.acc.o) (fun m => X.po.length - m) (0) (⟨Nat.zero_le _, by simp⟩) (Zau hF [1, 3] rfl rfl ⟨rfl, rfl, rfl, rfl, trivial⟩) ?_)))))));rintro m ⟨hm0, hm⟩;refine Zae (Zae (Zab (goMv rfl rfl ?_)))
          first | refine Zaa.go (Zag rfl Za4 rfl rfl rfl) ?_ | refine Zaa.go (Zap rfl Za4 rfl rfl rfl) ?_ | refine Zaa.go (Zas rfl Za4 rfl rfl rfl) ?_ | refine Zaa.go (Zaw rfl Za4 rfl rfl rfl) ?_ | refine Zaa.go (Zan rfl Za4 rfl rfl rfl) ?_
          first | refine Zaa.go (Zat rfl rfl on61 rfl) ?_ | refine Zaa.go (Zah rfl rfl rfl on61 rfl) ?_ | refine Zaa.go (ZaK rfl rfl (rfl) rfl on61 rfl) ?_
          first | refine Zaa.go (ZaD rfl Tryz.underlying61 rfl) ?_ | refine Zaa.go (Zb2 rfl rfl Tryz.underlying61 rfl) ?_ | refine Zaa.go (Zb6 rfl Tryz.underlying61 rfl) ?_ | refine Zaa.go (ZbY rfl Tryz.underlying61 rfl) ?_ | refine Zaa.go (Zb1 rfl Tryz.underlying61 rfl) ?_ | refine Zaa.go (Zb5 rfl Tryz.underlying61 rfl) ?_
          first | refine Zaa.go (ZaN rfl rfl rfl) ?_ | refine Zaa.go (Zcb rfl rfl rfl) ?_
          refine Zac ?_
          first | refine ZaH rfl (fun h60 => ?_) (fun h60 => ?_) | refine Zbb rfl (fun h60 => ?_) (fun h60 => ?_)
          · have hm1 : m < X.po.length := ZaO h60;refine Zar (Zae (Zaq (Zae (Zab ?_))))
            first | refine Zaa.go (Zag rfl Za4 rfl rfl rfl) ?_ | refine Zaa.go (Zap rfl Za4 rfl rfl rfl) ?_ | refine Zaa.go (Zas rfl Za4 rfl rfl rfl) ?_ | refine Zaa.go (Zaw rfl Za4 rfl rfl rfl) ?_ | refine Zaa.go (Zan rfl Za4 rfl rfl rfl) ?_
            first | refine Zaa.go (Zat rfl rfl on61 rfl) ?_ | refine Zaa.go (Zah rfl rfl rfl on61 rfl) ?_ | refine Zaa.go (ZaK rfl rfl (rfl) rfl on61 rfl) ?_
            refine goMv rfl rfl ?_
            first | refine Zaa.go (Zaz (m) rfl rfl (rfl) (getm hm1) Tryz.underlying61 rfl sz125 rfl) ?_ | refine Zaa.go (Zbn (m) rfl rfl (rfl) (getm hm1) rfl Tryz.underlying61 sz125 rfl) ?_
            first | refine Zaa.go (Zag rfl ZbW rfl rfl rfl) ?_ | refine Zaa.go (Zap rfl ZbW rfl rfl rfl) ?_ | refine Zaa.go (Zas rfl ZbW rfl rfl rfl) ?_ | refine Zaa.go (Zaw rfl ZbW rfl rfl rfl) ?_ | refine Zaa.go (Zan rfl ZbW rfl rfl rfl) ?_
            first | refine Zaa.go (Zag rfl Zbl rfl rfl rfl) ?_ | refine Zaa.go (Zap rfl Zbl rfl rfl rfl) ?_ | refine Zaa.go (Zas rfl Zbl rfl rfl rfl) ?_ | refine Zaa.go (Zaw rfl Zbl rfl rfl rfl) ?_ | refine Zaa.go (Zan rfl Zbl rfl rfl rfl) ?_
            first | refine Zaa.go (Zat rfl rfl on9 rfl) ?_ | refine Zaa.go (Zah rfl rfl rfl on9 rfl) ?_ | refine Zaa.go (ZaK rfl rfl (rfl) rfl on9 rfl) ?_
            refine Zaa.go (Zax (marked_p X.po[m].acc.o (hXL.1 _ (List.getElem_mem hm1))) rfl rfl) (Zac ?_)
            first | refine ZaH rfl (fun h70 => ?_) (fun h70 => ?_) | refine Zbb rfl (fun h70 => ?_) (fun h70 => ?_)
            · refine Zae (Zab (goAs rfl rfl (Zac (Zao ?_))));exact ⟨_, [], [], Zam rfl, rfl, rfl, retT (nunm_i hXm fun hu => hu.2.2.1 _ (List.getElem_mem hm1) (by simpa using h70)), rfl⟩
            · refine Zar (Zab (goMv rfl rfl (Zaa.go (ZaF rfl rfl (wrapS (m + 1) (by omega)) rfl) (goAs rfl rfl (Zac ?_)))));exact ⟨m + 1, ⟨by show m + 1 ≤ _; omega, by rw [List.take_succ_eq_append_getElem hm1]; intro y hy; rcases List.mem_append.1 hy with hy | hy; exact hm y hy; rw [List.mem_singleton.1 hy]; simpa using h70⟩, by show X.po.length - (m + 1) < X.po.length - m; omega, Zau hF [1, 3] rfl (rfl) ⟨rfl, rfl, rfl, rfl, trivial⟩⟩
          · refine ZaR (Zae ?_);have hpo : ∀ y ∈ X.po, (126 : UInt8) ∉ y.acc.o := by have e : m = X.po.length := (by have h := h60; omega); rw [e, List.take_length] at hm; exact hm
            refine Zab (goAs rfl rfl (Zac (Zaq (ZaP (α := Nat) (fun m => ⟨94, [(1, (.ptr 1 0 0)), (5, (.d (intD (j : Int)))), (6, (.ptr 3 0 0)), (8, (.d (intD (m : Int))))], [(1, [prbB2 25 p]), (3, [itmB 64 X])]⟩) (fun m => m ≤ X.pa.length ∧ ∀ y ∈ X.pa.take m, (126 : UInt8) ∉ y.f ∧ (126 : UInt8) ∉ y.t) (fun m => X.pa.length - m) (0) (⟨Nat.zero_le _, by simp⟩) (Zau hF [1, 3] rfl rfl ⟨rfl, rfl, rfl, rfl, trivial⟩) ?_))));rintro m ⟨hm0, hm⟩;refine Zae (Zae (Zab (goMv rfl rfl ?_)))
            first | refine Zaa.go (Zag rfl ZaW rfl rfl rfl) ?_ | refine Zaa.go (Zap rfl ZaW rfl rfl rfl) ?_ | refine Zaa.go (Zas rfl ZaW rfl rfl rfl) ?_ | refine Zaa.go (Zaw rfl ZaW rfl rfl rfl) ?_ | refine Zaa.go (Zan rfl ZaW rfl rfl rfl) ?_
            first | refine Zaa.go (Zat rfl rfl on62 rfl) ?_ | refine Zaa.go (Zah rfl rfl rfl on62 rfl) ?_ | refine Zaa.go (ZaK rfl rfl (rfl) rfl on62 rfl) ?_
            first | refine Zaa.go (ZaD rfl Tryz.underlying62 rfl) ?_ | refine Zaa.go (Zb2 rfl rfl Tryz.underlying62 rfl) ?_ | refine Zaa.go (Zb6 rfl Tryz.underlying62 rfl) ?_ | refine Zaa.go (ZbY rfl Tryz.underlying62 rfl) ?_ | refine Zaa.go (Zb1 rfl Tryz.underlying62 rfl) ?_ | refine Zaa.go (Zb5 rfl Tryz.underlying62 rfl) ?_
            first | refine Zaa.go (ZaN rfl rfl rfl) ?_ | refine Zaa.go (Zcb rfl rfl rfl) ?_
            refine Zac ?_
            first | refine ZaH rfl (fun h75 => ?_) (fun h75 => ?_) | refine Zbb rfl (fun h75 => ?_) (fun h75 => ?_)
            · have hm1 : m < X.pa.length := ZaO h75;refine Zar (Zae (Zaq (Zae (Zab ?_))))
              first | refine Zaa.go (Zag rfl ZaW rfl rfl rfl) ?_ | refine Zaa.go (Zap rfl ZaW rfl rfl rfl) ?_ | refine Zaa.go (Zas rfl ZaW rfl rfl rfl) ?_ | refine Zaa.go (Zaw rfl ZaW rfl rfl rfl) ?_ | refine Zaa.go (Zan rfl ZaW rfl rfl rfl) ?_
              first | refine Zaa.go (Zat rfl rfl on62 rfl) ?_ | refine Zaa.go (Zah rfl rfl rfl on62 rfl) ?_ | refine Zaa.go (ZaK rfl rfl (rfl) rfl on62 rfl) ?_
              refine goMv rfl rfl ?_
              first | refine Zaa.go (Zaz (m) rfl rfl (rfl) (getm hm1) Tryz.underlying62 rfl sz127 rfl) ?_ | refine Zaa.go (Zbn (m) rfl rfl (rfl) (getm hm1) rfl Tryz.underlying62 sz127 rfl) ?_
              first | refine Zaa.go (Zag rfl Zbz rfl rfl rfl) ?_ | refine Zaa.go (Zap rfl Zbz rfl rfl rfl) ?_ | refine Zaa.go (Zas rfl Zbz rfl rfl rfl) ?_ | refine Zaa.go (Zaw rfl Zbz rfl rfl rfl) ?_ | refine Zaa.go (Zan rfl Zbz rfl rfl rfl) ?_
              first | refine Zaa.go (Zat rfl rfl on9 rfl) ?_ | refine Zaa.go (Zah rfl rfl rfl on9 rfl) ?_ | refine Zaa.go (ZaK rfl rfl (rfl) rfl on9 rfl) ?_
              refine Zaa.go (Zax (marked_p X.pa[m].f (hXL.2 _ (List.getElem_mem hm1)).1) rfl rfl) ?_
              by_cases n1 : (126 : UInt8) ∈ X.pa[m].f
              · refine goMv rfl rfl (o_setT 85 rfl ((decide_eq_true n1)) (Zai rfl rfl rfl rfl (Zai rfl rfl rfl rfl (Zai rfl rfl rfl rfl (Zai rfl rfl rfl rfl (Zai rfl rfl rfl rfl (Zai rfl rfl rfl rfl ?_)))))));refine Zai rfl rfl rfl rfl (Zaa.go (Zay rfl rfl rfl rfl) (Zac (ZaU rfl rfl (Zae (Zab (goAs rfl rfl (Zac (Zao ?_))))))));exact ⟨_, [], [], Zam rfl, rfl, rfl, retT (nunm_i hXm fun hu => by have h := hu.2.2.2 _ (List.getElem_mem hm1); first | exact h.1 n1 | exact h.2 (by simpa using h93)), rfl⟩
              · refine goMv rfl rfl (ZbX 85 rfl ((decide_eq_false n1)) (Zak rfl rfl rfl ?_))
                first | refine Zaa.go (Zag rfl ZaW rfl rfl rfl) ?_ | refine Zaa.go (Zap rfl ZaW rfl rfl rfl) ?_ | refine Zaa.go (Zas rfl ZaW rfl rfl rfl) ?_ | refine Zaa.go (Zaw rfl ZaW rfl rfl rfl) ?_ | refine Zaa.go (Zan rfl ZaW rfl rfl rfl) ?_
                refine Zak rfl rfl rfl ?_
                first | refine Zaa.go (Zat rfl rfl on62 rfl) ?_ | refine Zaa.go (Zah rfl rfl rfl on62 rfl) ?_ | refine Zaa.go (ZaK rfl rfl (rfl) rfl on62 rfl) ?_
                refine Zak rfl rfl rfl (goMv rfl rfl (Zak rfl rfl rfl ?_))
                first | refine Zaa.go (Zaz (m) rfl rfl (rfl) (getm hm1) Tryz.underlying62 rfl sz127 rfl) ?_ | refine Zaa.go (Zbn (m) rfl rfl (rfl) (getm hm1) rfl Tryz.underlying62 sz127 rfl) ?_
                refine Zak rfl rfl rfl ?_
                first | refine Zaa.go (Zag rfl Zby rfl rfl rfl) ?_ | refine Zaa.go (Zap rfl Zby rfl rfl rfl) ?_ | refine Zaa.go (Zas rfl Zby rfl rfl rfl) ?_ | refine Zaa.go (Zaw rfl Zby rfl rfl rfl) ?_ | refine Zaa.go (Zan rfl Zby rfl rfl rfl) ?_
                refine Zak rfl rfl rfl ?_
                first | refine Zaa.go (Zat rfl rfl on9 rfl) ?_ | refine Zaa.go (Zah rfl rfl rfl on9 rfl) ?_ | refine Zaa.go (ZaK rfl rfl (rfl) rfl on9 rfl) ?_
                refine Zak rfl rfl rfl (Zaa.go (Zax (marked_p X.pa[m].t (hXL.2 _ (List.getElem_mem hm1)).2) rfl rfl) (Zaa.go (ZaB rfl rfl rfl rfl) (Zac ?_)))
                first | refine ZaH rfl (fun h93 => ?_) (fun h93 => ?_) | refine Zbb rfl (fun h93 => ?_) (fun h93 => ?_)
                · refine Zae (Zab (goAs rfl rfl (Zac (Zao ?_))));exact ⟨_, [], [], Zam rfl, rfl, rfl, retT (nunm_i hXm fun hu => by have h := hu.2.2.2 _ (List.getElem_mem hm1); first | exact h.1 n1 | exact h.2 (by simpa using h93)), rfl⟩
                · refine Zar (Zab (goMv rfl rfl (Zaa.go (ZaF rfl rfl (wrapS (m + 1) (by omega)) rfl) (goAs rfl rfl (Zac ?_)))));exact ⟨m + 1, ⟨by show m + 1 ≤ _; omega, by rw [List.take_succ_eq_append_getElem hm1]; intro y hy; rcases List.mem_append.1 hy with hy | hy; exact hm y hy; rw [List.mem_singleton.1 hy]; exact ⟨n1, by simpa using h93⟩⟩, by show X.pa.length - (m + 1) < X.pa.length - m; omega, Zau hF [1, 3] rfl (rfl) ⟨rfl, rfl, rfl, rfl, trivial⟩⟩
            · refine ZaR ?_;have hpa : ∀ y ∈ X.pa, (126 : UInt8) ∉ y.f ∧ (126 : UInt8) ∉ y.t := by have e : m = X.pa.length := (by have h := h75; omega); rw [e, List.take_length] at hm; exact hm
              refine Zab (goMv rfl rfl (Zaa.go (ZaF rfl rfl (wrapS (j + 1) (by omega)) rfl) (goAs rfl rfl (Zac ?_))));exact ⟨j + 1, ⟨by show j + 1 ≤ _; omega, by rw [List.take_succ_eq_append_getElem hj1]; intro x hx; rcases List.mem_append.1 hx with hx | hx; exact hj x hx; rw [List.mem_singleton.1 hx, hX]; exact ⟨by omega, by omega, hpo, hpa⟩⟩, by show p.it.length - (j + 1) < p.it.length - j; omega, Zau hF [1] rfl (rfl) ⟨rfl, rfl, trivial⟩⟩
    · refine ZaR (Zae ?_);have hit : ∀ x ∈ p.it, UnmI x := by have e : j = p.it.length := (by have h := h40; omega); rw [e, List.take_length] at hj; exact hj
      refine Zab (goAs rfl rfl (Zac (Zao ?_)));exact ⟨_, [], [], Zam rfl, rfl, rfl, retF (fun h => h ⟨hro, hit⟩), rfl⟩
end Go.Proofs.YtneihdahboilnaaGreat
