/- Contracts of session one whose results are rows of the caller's own. -/
import Derived.Test.YtnflcmpdaoobcaaRecP
import Derived.Test.YtnflcmpdaoobcaaCallB
namespace Go.Proofs.Ytnflcmpdaoobcaa
open Go.RowKit

theorem own_slice_eq {w : World} {b : Nat} {e : TypeId} {v : Value} {l : List UInt8} (h : Own1 w b e v (l.map bv)) : ∃ A c, v = .slice A l.length c ∧ l.length ≤ c := by
  obtain ⟨A, c, h1, h2⟩ := h.slice
  rw [List.length_map] at h1 h2
  exact ⟨A, c, h1, h2⟩
theorem encode_o (l : List UInt8) (hn : l.length ≤ 1048576) (g : Nat) : ACalls Try.prog 17 [.d (bytesD l)] [] fun r H' => r = .tup [.own g 0 (encL l).length, .d (.raw (.int .i64 0))] ∧ H' = [(g, [.rowD 5 1 ((encL l).map byteD)])] := by
  refine ⟨⟨_, Try.func17, rfl, rfl⟩, fun F ρ vs h1 h2 h2' h3 h4 h5 => ?_⟩
  obtain ⟨v, rfl⟩ := List.length_eq_one_iff.1 h4
  have h0 := h5 0 _ v rfl rfl
  cases h0 with
  | d h0 =>
    obtain ⟨A, c, rfl, q1, q2, q3⟩ := bytesD_reads h0
    refine (encode_any l A c _ F.w0 (Nat.le_refl _) q3 hn).mono ?_
    rintro e w' ⟨u, rfl, hown, hb⟩
    obtain ⟨A', c', rfl, hc'⟩ := own_slice_eq hown
    refine ⟨_, _, _, upd ρ g 0 _, rfl, ⟨rfl, rfl⟩, ?_, Heap.gain h3 h2 g rfl rfl hown hb⟩
    have : (#[Value.slice A' (encL l).length c', Value.int .i64 0] : Array Value) = [Value.slice A' (encL l).length c', Value.int .i64 0].toArray := rfl
    rw [this]
    refine .tup rfl fun i a v ha hv => ?_
    rcases i with _ | _ | i
    · simp at ha hv; subst ha hv; exact .own upd_same (Nat.le_refl _)
    · simp at ha hv; subst ha hv; exact .d (.raw rfl)
    · simp at ha
theorem next_o (l : List UInt8) (hn : l.length ≤ 140737488355328) (p : List UInt8) (x y : Nat) (hx : nextL l = (p, x, y)) (g : Nat) : ACalls Try.prog 22 [.d (bytesD l)] [] fun r H' => r = .tup [.own g 0 p.length, .d (.raw (.int .i64 (x : Int))), .d (.raw (.int .i64 (y : Int)))] ∧ H' = [(g, [.rowD 5 1 (p.map byteD)])] := by
  refine ⟨⟨_, Try.func22, rfl, rfl⟩, fun F ρ vs h1 h2 h2' h3 h4 h5 => ?_⟩
  obtain ⟨v, rfl⟩ := List.length_eq_one_iff.1 h4
  have h0 := h5 0 _ v rfl rfl
  cases h0 with
  | d h0 =>
    obtain ⟨A, c, rfl, q1, q2, q3⟩ := bytesD_reads h0
    refine (next_any l A c _ F.w0 (Nat.le_refl _) q3 hn q1).mono ?_
    unfold NextPost
    rw [hx]
    rintro e w' ⟨u, rfl, hown, hb⟩
    obtain ⟨A', c', rfl, hc'⟩ := own_slice_eq hown
    refine ⟨_, _, _, upd ρ g 0 _, rfl, ⟨rfl, rfl⟩, ?_, Heap.gain h3 h2 g rfl rfl hown hb⟩
    show RepA _ _ _ _ (.tuple [Value.slice A' p.length c', Value.int .i64 (x : Int), Value.int .i64 (y : Int)].toArray)
    refine .tup rfl fun i a v ha hv => ?_
    rcases i with _ | _ | _ | i
    · simp at ha hv; subst ha hv; exact .own upd_same (Nat.le_refl _)
    · simp at ha hv; subst ha hv; exact .d (.raw rfl)
    · simp at ha hv; subst ha hv; exact .d (.raw rfl)
    · simp at ha
theorem same_p (l m : List UInt8) (x : Bool) (hx : (l == m) = x) : PCalls Try.prog 18 [.d (bytesD l), .d (bytesD m)] (.raw (.bool x)) :=
  pcalls_of Try.func18 rfl rfl fun w O ρ vs hl hr => by
    match vs, hl with
    | [v, u], _ =>
      have h0 := hr 0 _ v rfl rfl
      have h1 := hr 1 _ u rfl rfl
      cases h0 with
      | d h0 =>
        cases h1 with
        | d h1 =>
          obtain ⟨A, c, rfl, _, _, h3⟩ := bytesD_reads h0
          obtain ⟨A', c', rfl, _, _, h3'⟩ := bytesD_reads h1
          refine (same_num x l m hx A A' c c' _ w h3 h3').mono ?_
          rintro e w' ⟨rfl, rfl⟩
          exact ⟨_, rfl, fun _ _ => .raw rfl, Below.refl _ _⟩
end Go.Proofs.Ytnflcmpdaoobcaa
