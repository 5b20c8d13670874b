/- The walks of the reference's Sames and of the law's own cut. -/
import Derived.Test.YtnflcmpdaoobcaaAll
import Derived.BigGuardPart
namespace Go.Proofs.Ytnflcmpdaoobcaa
open Go.RowKit

theorem same_num (x : Bool) (l m : List UInt8) (hx : (l == m) = x) (A A' : Option Addr) (c c' B : Nat) (w : World) (hr : Reads w B 1 A l.length (l.map bv)) (hr' : Reads w B 1 A' m.length (m.map bv)) :
    Calls Try.prog 18 #[.slice A l.length c, .slice A' m.length c'] w fun e w' => e = .returned (.bool x) ∧ w = w' := by
  subst hx
  exact same_any l m A A' c c' B w hr hr'
theorem take_eq_snoc {la lb : List (List UInt8)} {k : Nat} (ha : k < la.length) (hb : k < lb.length) (h : la.take k = lb.take k) (he : la[k] = lb[k]) : la.take (k + 1) = lb.take (k + 1) := by
  rw [List.take_succ_eq_append_getElem ha, List.take_succ_eq_append_getElem hb, h, he]

set_option maxHeartbeats 1000000 in
theorem sames_any (la lb : List (List UInt8)) (va vb : List Value) (A A' : Option Addr) (c c' B : Nat) (w : World) (hra : Reads w B 1 A la.length va) (hsa : Rows w (· < B) bv va la)
    (hrb : Reads w B 1 A' lb.length vb) (hsb : Rows w (· < B) bv vb lb) (hn : la.length ≤ 1000000000) (hn' : lb.length ≤ 1000000000) :
    Calls Try.prog 25 #[.slice A la.length c, .slice A' lb.length c'] w fun e w' => e = .returned (.bool (decide (la = lb))) ∧ ∃ n, w' = w.drewN n := by
  have HRA := Box.mk hra; have HSA := Box.mk hsa; have HRB := Box.mk hrb; have HSB := Box.mk hsb
  clear hra hsa hrb hsb
  by_cases hl : la.length = lb.length
  · have hne : ((la.length : Int) != lb.length) = false := by rw [hl]; simp
    have Hl := Box.mk hl; clear hl
    go_enter Try.func25, Try.ntmps25
    go_wp2
    go_loopw [5] (fun i wr => ∃ k : Nat, i = .int .i64 k ∧ k ≤ la.length ∧ la.take k = lb.take k ∧ ∃ m, wr = w.drewN m) (fun i _ => la.length - (intOf i).toNat)
    case atStart => exact ⟨0, rfl, Nat.zero_le _, by simp, 0, rfl⟩
    case round =>
      obtain ⟨k, rfl, hk, heq, m, hw⟩ := hrel
      have Heq := Box.mk heq; clear heq
      have HRA' : Box (Reads wr B 1 A la.length va) := ⟨by rw [hw]; exact HRA.out.drewN m⟩
      have HRB' : Box (Reads wr B 1 A' lb.length vb) := ⟨by rw [hw]; exact HRB.out.drewN m⟩
      have HSA' : Box (Rows wr (· < B) bv va la) := ⟨by rw [hw]; exact HSA.out⟩
      have HSB' : Box (Rows wr (· < B) bv vb lb) := ⟨by rw [hw]; exact HSB.out⟩
      have Hw := Box.mk hw; clear hw
      by_cases hlt : k < la.length
      · have hlt' : k < lb.length := by have := Hl.out; omega
        obtain ⟨b, off, Ak, ck, rfl, hcell, _, hrk⟩ := rows_at HRA'.out HSA'.out hlt
        obtain ⟨b', off', Ak', ck', rfl, hcell', _, hrk'⟩ := rows_at HRB'.out HSB'.out hlt'
        have HRk := Box.mk hrk; have HRk' := Box.mk hrk'; clear hrk hrk'
        have Hst := Box.mk (take_eq_snoc hlt hlt' Heq.out)
        have Hin : Box (la = lb → la[k] = lb[k]) := ⟨fun e => by subst e; rfl⟩
        obtain ⟨xa, hxa⟩ := gen la[k]
        obtain ⟨xb, hxb⟩ := gen lb[k]
        rw [← hxa] at hcell HRk Hst Hin
        rw [← hxb] at hcell' HRk' Hst Hin
        clear hxa hxb
        by_cases hq : xa = xb
        · subst hq
          go_wp2_with fail
          go_quiet ((go_at_call 18; exact quiet_left (same_num true xa xa (beq_self_eq_true _) Ak Ak' ck ck' B _ (HRk.out.drewN _) (HRk'.out.drewN _))))
          go_wp2
          go_roundw
          case rel => exact ⟨k + 1, by go_num, by omega, Hst.out (by simp), by rw [Hw.out, World.drewN_drewN]; exact ⟨_, rfl⟩⟩
          case measure => simp [intOf]; omega
        · have Hb : Box ((xa == xb) = false) := ⟨by simpa using hq⟩
          have Hq := Box.mk hq; clear hq
          go_wp2_with fail
          go_quiet ((go_at_call 18; exact quiet_left (same_num false xa xb Hb.out Ak Ak' ck ck' B _ (HRk.out.drewN _) (HRk'.out.drewN _))))
          go_wp2
          go_ret
          have hd : decide (la = lb) = false := decide_eq_false fun e => Hq.out (Hin.out e)
          exact ⟨by rw [hd]; rfl, by rw [Hw.out, World.drewN_drewN]; exact ⟨_, rfl⟩⟩
      · have hd : decide (la = lb) = true := decide_eq_true (by
          have h1 := Heq.out
          rwa [List.take_of_length_le (by omega), List.take_of_length_le (by have := Hl.out; omega)] at h1)
        have Hd := Box.mk hd; clear hd
        go_wp2
        go_ret
        exact ⟨by rw [Hd.out]; rfl, m, Hw.out⟩
  · have hne : ((la.length : Int) != lb.length) = true := by simp; omega
    have hd : decide (la = lb) = false := decide_eq_false fun e => hl (by rw [e])
    have Hd := Box.mk hd; clear hd hl
    go_enter Try.func25, Try.ntmps25
    go_wp2
    go_ret
    exact ⟨by rw [Hd.out]; rfl, 0, rfl⟩

end Go.Proofs.Ytnflcmpdaoobcaa
