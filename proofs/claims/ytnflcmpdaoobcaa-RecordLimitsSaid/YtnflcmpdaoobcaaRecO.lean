/- Contracts of session one whose results are rows of the caller's own. -/
import Derived.Test.YtnflcmpdaoobcaaRecP
import Derived.Test.YtnflcmpdaoobcaaCallB
namespace Go.Proofs.Ytnflcmpdaoobcaa
open Go.RowKit

theorem own_mono {w : World} {b b' : Nat} {e : TypeId} {k : Nat} {v : Value} {n : Nat} {us : List Value} (h : w.ownsRow b e k v n us) (hb : b' ≤ b) : w.ownsRow b' e k v n us := by
  refine ⟨h.1, ?_⟩
  rcases h.2 with h' | ⟨g, cap, cur, h1, h2, h3⟩
  · exact .inl h'
  · exact .inr ⟨g, cap, cur, h1, by omega, h3⟩
theorem lies_bytes {w : World} {O : Nat → Prop} (l : List UInt8) : Lies D.cells 1 (RepD w O) (l.map byteD) (l.map bv) := by
  refine ⟨by simp, by simp [byteD, D.cells], fun i x hx j c hc => ?_⟩
  rw [List.getElem?_map] at hx
  cases hl : l[i]? with
  | none => rw [hl] at hx; cases hx
  | some b =>
    rw [hl] at hx; injection hx with hx; subst hx
    cases j with
    | zero =>
      simp [byteD, D.cells] at hc; subst hc
      exact ⟨bv b, by simp [hl], rfl, .raw rfl⟩
    | succ j => simp [byteD, D.cells] at hc

/-- A row of bytes that a callee has made. -/
theorem Heap.gain {F : Fr} {H : Hp} {ρ : Nat → Nat → Value} {w' : World} (h : Heap F H ρ F.w0) (hpin : F.pin = pinOf ρ H) (g : Nat) {E : TypeId} {l : List UInt8} {v : Value} (hnone : hfam H g = none) (href : hpIn (hpN H) H = true)
    (hown : Own1 w' F.w0.heap.size E v (l.map bv)) (hb : Below F.w0.heap.size F.w0 w') : Heap F ((g, [.rowD E 1 (l.map byteD)]) :: H) (upd ρ g 0 v) w' := by
  have hg0 : ∀ i, hget H g i = none := fun i => by simp [hget, hnone]
  refine h.one g 0 (.rowD E 1 (l.map byteD)) (fun f i => ?_) (fun f i e => upd_other e) (fun b hv => ?_) hb.os hb.tape hb.output hb.size (fun b hlt _ => hb.block b hlt) (.inr fun f i o ho _ hr => ?_) (fun b hp => ?_) ?_
  · by_cases e : g = f
    · subst e; simp only [hget, hfam, Nat.beq_refl, Option.bind_some, true_and, hnone, Option.bind_none]
      cases i <;> simp
    · simp only [hget, hfam, beq_ne e]; rw [if_neg fun hh => e hh.1.symm]
  · rw [upd_same] at hv
    refine .inr ?_
    rcases hown.2 with ⟨rfl, _⟩ | ⟨b', cap, cur, rfl, h2, h3, _⟩
    · cases hv
    · injection hv with hv; subst hv
      exact ⟨h2, (Array.getElem?_eq_some_iff.1 h3).1⟩
  · have hm := hpIn_spec href ho hr
    have key : ∀ H : Hp, g ∈ hpN H → hfam H g ≠ none := by
      intro H
      induction H with
      | nil => intro h; cases h
      | cons p r ih =>
        obtain ⟨k, x⟩ := p
        intro h
        simp only [hfam]
        split
        · simp
        · rename_i hk
          rcases List.mem_cons.1 h with rfl | h
          · exact absurd rfl (Nat.ne_of_beq_eq_false hk)
          · exact ih h
    exact key H hm hnone
  · rw [hpin] at hp
    obtain ⟨_, t, cs, h1⟩ := pinOf_spec hp
    rw [hg0] at h1; cases h1
  · rw [upd_same]
    refine ⟨l.map bv, ?_, lies_bytes l, fun x hx c hc => ?_⟩
    · have := own_mono hown (Nat.zero_le _)
      simpa using this
    · obtain ⟨b, _, rfl⟩ := List.mem_map.1 hx
      simp [byteD, D.cells] at hc; subst hc; rfl
theorem own_reads_bytes {w : World} {O : Nat → Prop} {ρ : Nat → Nat → Value} {E : TypeId} {l : List UInt8} {v : Value} (h : SimObj w O ρ (.rowD E 1 (l.map byteD)) v) : ∃ A c, v = .slice A l.length c ∧ l.length ≤ c ∧ c ≤ maxLen ∧ Reads w w.heap.size 1 A l.length (l.map bv) := by
  obtain ⟨us, h1, h2, _⟩ := h
  have hus : us = l.map bv := by
    refine List.ext_getElem? fun i => ?_
    rw [List.getElem?_map]
    cases hl : l[i]? with
    | none =>
      rw [List.getElem?_eq_none_iff] at hl
      rw [Option.map_none, List.getElem?_eq_none_iff, h2.1]; simpa using hl
    | some b =>
      obtain ⟨u, h3, _, h4⟩ := h2.2.2 i (byteD b) (by rw [List.getElem?_map, hl]; rfl) 0 (byteD b) rfl
      rw [Nat.mul_one, Nat.add_zero] at h3
      rw [h3]; cases h4; rfl
  subst hus
  rw [List.length_map] at h1
  rcases h1.2 with ⟨rfl, h0⟩ | ⟨g, cap, cur, rfl, h3, h4, h5, h6, h7, h8⟩
  · rw [h0]
    have : l = [] := List.eq_nil_of_length_eq_zero h0
    subst this
    exact ⟨none, 0, rfl, Nat.le_refl _, Nat.zero_le _, Reads.none_⟩
  · refine ⟨_, _, rfl, h5, h6, by simp, fun _ => ⟨_, rfl, (Array.getElem?_eq_some_iff.1 h4).1, fun j u hu => ?_⟩⟩
    have hj : j < l.length := by have := (List.getElem?_eq_some_iff.1 hu).1; simpa using this
    rw [Go.WideShapes.add_plain, cell_of_row w g (0 + j) cur E _ h4, ← hu, ← h8, List.getElem?_take, if_pos (by omega)]
    simp

theorem own_slice_eq {w : World} {b : Nat} {e : TypeId} {v : Value} {l : List UInt8} (h : Own1 w b e v (l.map bv)) : ∃ A c, v = .slice A l.length c ∧ l.length ≤ c := by
  obtain ⟨A, c, h1, h2⟩ := h.slice
  rw [List.length_map] at h1 h2
  exact ⟨A, c, h1, h2⟩
theorem encode_o (l : List UInt8) (hn : l.length ≤ 1048576) (g : Nat) : ACalls Try.prog 17 [.d (bytesD l)] [] fun r H' => r = .tup [.own g 0 (encL l).length, .d (.raw (.int .i64 0))] ∧ H' = [(g, [.rowD 5 1 ((encL l).map byteD)])] := by
  refine ⟨⟨_, Try.func17, rfl, rfl⟩, fun F ρ vs h1 h2 h2' h3 h4 h5 => ?_⟩
  obtain ⟨v, rfl⟩ := List.length_eq_one_iff.1 h4
  have h0 := h5 0 _ v rfl rfl
  cases h0 with
  | d h0 =>
    obtain ⟨A, c, rfl, q1, q2, q3⟩ := bytesD_reads h0
    refine (encode_any l A c _ F.w0 (Nat.le_refl _) q3 hn).mono ?_
    rintro e w' ⟨u, rfl, hown, hb⟩
    obtain ⟨A', c', rfl, hc'⟩ := own_slice_eq hown
    refine ⟨_, _, _, upd ρ g 0 _, rfl, ⟨rfl, rfl⟩, ?_, Heap.gain h3 h2 g rfl rfl hown hb⟩
    have : (#[Value.slice A' (encL l).length c', Value.int .i64 0] : Array Value) = [Value.slice A' (encL l).length c', Value.int .i64 0].toArray := rfl
    rw [this]
    refine .tup rfl fun i a v ha hv => ?_
    rcases i with _ | _ | i
    · simp at ha hv; subst ha hv; exact .own upd_same (Nat.le_refl _)
    · simp at ha hv; subst ha hv; exact .d (.raw rfl)
    · simp at ha
theorem next_o (l : List UInt8) (hn : l.length ≤ 140737488355328) (p : List UInt8) (x y : Nat) (hx : nextL l = (p, x, y)) (g : Nat) : ACalls Try.prog 22 [.d (bytesD l)] [] fun r H' => r = .tup [.own g 0 p.length, .d (.raw (.int .i64 (x : Int))), .d (.raw (.int .i64 (y : Int)))] ∧ H' = [(g, [.rowD 5 1 (p.map byteD)])] := by
  refine ⟨⟨_, Try.func22, rfl, rfl⟩, fun F ρ vs h1 h2 h2' h3 h4 h5 => ?_⟩
  obtain ⟨v, rfl⟩ := List.length_eq_one_iff.1 h4
  have h0 := h5 0 _ v rfl rfl
  cases h0 with
  | d h0 =>
    obtain ⟨A, c, rfl, q1, q2, q3⟩ := bytesD_reads h0
    refine (next_any l A c _ F.w0 (Nat.le_refl _) q3 hn q1).mono ?_
    unfold NextPost
    rw [hx]
    rintro e w' ⟨u, rfl, hown, hb⟩
    obtain ⟨A', c', rfl, hc'⟩ := own_slice_eq hown
    refine ⟨_, _, _, upd ρ g 0 _, rfl, ⟨rfl, rfl⟩, ?_, Heap.gain h3 h2 g rfl rfl hown hb⟩
    show RepA _ _ _ _ (.tuple [Value.slice A' p.length c', Value.int .i64 (x : Int), Value.int .i64 (y : Int)].toArray)
    refine .tup rfl fun i a v ha hv => ?_
    rcases i with _ | _ | _ | i
    · simp at ha hv; subst ha hv; exact .own upd_same (Nat.le_refl _)
    · simp at ha hv; subst ha hv; exact .d (.raw rfl)
    · simp at ha hv; subst ha hv; exact .d (.raw rfl)
    · simp at ha
theorem flat_bytes (g : Nat) (E : TypeId) (l : List UInt8) : FlatH [(g, [.rowD E 1 (l.map byteD)])] := ⟨⟨fun x hx c hc => by
  obtain ⟨b, _, rfl⟩ := List.mem_map.1 hx
  simp [byteD, D.cells] at hc; subst hc; rfl, trivial⟩, trivial⟩
theorem same_p (l m : List UInt8) (x : Bool) (hx : (l == m) = x) : PCalls Try.prog 18 [.d (bytesD l), .d (bytesD m)] (.raw (.bool x)) :=
  pcalls_of Try.func18 rfl rfl fun w O ρ vs hl hr => by
    match vs, hl with
    | [v, u], _ =>
      have h0 := hr 0 _ v rfl rfl
      have h1 := hr 1 _ u rfl rfl
      cases h0 with
      | d h0 =>
        cases h1 with
        | d h1 =>
          obtain ⟨A, c, rfl, _, _, h3⟩ := bytesD_reads h0
          obtain ⟨A', c', rfl, _, _, h3'⟩ := bytesD_reads h1
          refine (same_num x l m hx A A' c c' _ w h3 h3').mono ?_
          rintro e w' ⟨rfl, rfl⟩
          exact ⟨_, rfl, fun _ _ => .raw rfl, Below.refl _ _⟩
end Go.Proofs.Ytnflcmpdaoobcaa
