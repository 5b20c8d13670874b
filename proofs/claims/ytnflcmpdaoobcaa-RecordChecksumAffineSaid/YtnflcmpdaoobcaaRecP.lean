/- Contracts of session one, as contracts over frozen data. -/
import Derived.Test.YtnflcmpdaoobcaaLaw1
import Derived.Test.YtnflcmpdaoobcaaTy
namespace Go.Proofs.Ytnflcmpdaoobcaa
open Go.RowKit

abbrev bytesD (l : List UInt8) : D := .sl none (l.map byteD)
theorem bytesD_reads {w : World} {O : Nat → Prop} {l : List UInt8} {v : Value} (h : RepD w O (bytesD l) v) : ∃ A c, v = .slice A l.length c ∧ l.length ≤ c ∧ c ≤ maxLen ∧ Reads w w.heap.size 1 A l.length (l.map bv) := by
  obtain ⟨a, cap, rfl, h1, h2, _⟩ := h.sl_len
  rw [List.length_map] at h h1 ⊢
  obtain ⟨news, g1, g2, g3, _⟩ := h.lies (k := 1) (by simp [byteD, D.cells])
  have : news = l.map bv := by
    refine List.ext_getElem? fun i => ?_
    rw [List.getElem?_map]
    cases hl : l[i]? with
    | none =>
      rw [List.getElem?_eq_none_iff] at hl
      rw [Option.map_none, List.getElem?_eq_none_iff]
      rw [g2.1]; simpa using hl
    | some b =>
      obtain ⟨u, h3, _, h4⟩ := g2.2.2 i (byteD b) (by rw [List.getElem?_map, hl]; rfl) 0 (byteD b) rfl
      rw [Nat.mul_one, Nat.add_zero] at h3
      rw [h3]
      cases h4
      rfl
  rw [this] at g1
  exact ⟨a, cap, rfl, h1, h2, g1⟩

/-- A contract on worlds that leaves what is old. -/
theorem pcalls_of {P : Program} {f : FuncId} {fn : Func} {args : List AV} {x : D} (hf : P.funcs[f]? = some fn) (hname : (fn.name == "runtime.NumGoroutine") = false) (hb : fn.body.isSome = true)
    (h : ∀ (w : World) (O : Nat → Prop) (ρ : Nat → Nat → Value) (vs : List Value), vs.length = args.length → (∀ (i : Nat) a v, args[i]? = some a → vs[i]? = some v → RepA w O ρ a v) → Calls P f vs.toArray w fun e w' => ∃ v, e = .returned v ∧ (∀ O', (∀ b, O' b → b < w.heap.size) → RepD w' O' x v) ∧ Below w.heap.size w w') : PCalls P f args x := by
  refine ⟨⟨fn, hf, hname, hb⟩, fun F ρ vs h1 h2 _ h3 h4 h5 => (h F.w0 _ ρ vs h4 h5).mono fun e w' ⟨v, he, hr, hb⟩ => ?_⟩
  have hno : ∀ ρ b, ¬ OwnB ρ [] b := fun ρ b ⟨_, _, _, h, _⟩ => by cases h
  refine ⟨v, _, [], ρ, he, ⟨rfl, rfl⟩, .d (hr _ fun b hb => hb.elim (fun h => (F.hOf b h).1) fun h => (hno _ _ h).elim), ?_⟩
  exact ⟨(fun f i o ho => by cases ho), (fun f i f' i' o o' b ho => by cases ho), fun b hb => (hno ρ b hb).elim, hb.os, hb.tape, hb.output, hb.size, fun b hlt _ => hb.block b hlt, h3.pins⟩

theorem checksum_p (l : List UInt8) (x : Nat) (hx : crc l = x) (hn : l.length ≤ 140737488355328) : PCalls Try.prog 13 [.d (bytesD l)] (.raw (.int .u32 (x : Int))) :=
  pcalls_of Try.func13 rfl rfl fun w O ρ vs hl hr => by
    obtain ⟨v, rfl⟩ := List.length_eq_one_iff.1 hl
    have h0 := hr 0 _ v rfl rfl
    cases h0 with
    | d h0 =>
      obtain ⟨A, c, rfl, h1, h2, h3⟩ := bytesD_reads h0
      refine (checksum_num l l.length x rfl hx A c _ w (Nat.le_refl _) h3 hn).mono ?_
      rintro e w' ⟨rfl, hb⟩
      exact ⟨_, rfl, fun _ _ => .raw rfl, hb⟩
theorem known_p : PCalls Try.prog 12 [] (.raw (.bool true)) :=
  pcalls_of Try.func12 rfl rfl fun w O ρ vs hl hr => by
    have := List.length_eq_zero_iff.1 hl
    subst this
    refine (known_any w).mono ?_
    rintro e w' ⟨rfl, hb⟩
    exact ⟨_, rfl, fun _ _ => .raw rfl, hb⟩
end Go.Proofs.Ytnflcmpdaoobcaa
