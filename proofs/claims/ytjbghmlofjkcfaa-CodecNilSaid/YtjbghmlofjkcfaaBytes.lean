/- Rows of bytes; strings out of them and back. No program in sight. -/
import Derived.Test.YtjbghmlofjkcfaaCallB
import Derived.Test.YtjbghmlofjkcfaaOps3
namespace Go.Proofs.Ytjbghmlofjkcfaa
open Go.RowKit

theorem getm {α β : Type} {f : α → β} {l : List α} {k : Nat} (h : k < l.length) : (l.map f)[k]? = some (f l[k]) := by simp [h]
theorem lt_cast {a b : Nat} (h : (a : Int) < (b : Int)) : a < b := by omega
abbrev bytesD (l : List UInt8) : D := .sl none (l.map byteD)
theorem bytesD_reads {w : World} {O : Nat → Prop} {l : List UInt8} {v : Value} (h : RepD w O (bytesD l) v) : ∃ A c, v = .slice A l.length c ∧ l.length ≤ c ∧ c ≤ maxLen ∧ Reads w w.heap.size 1 A l.length (l.map bv) := by
  obtain ⟨a, cap, rfl, h1, h2, _⟩ := h.sl_len
  rw [List.length_map] at h h1 ⊢
  obtain ⟨news, g1, g2, g3, _⟩ := h.lies (k := 1) (by simp [byteD, D.cells])
  have : news = l.map bv := by
    refine List.ext_getElem? fun i => ?_
    rw [List.getElem?_map]
    cases hl : l[i]? with
    | none =>
      rw [List.getElem?_eq_none_iff] at hl
      rw [Option.map_none, List.getElem?_eq_none_iff]
      rw [g2.1]; simpa using hl
    | some b =>
      obtain ⟨u, h3, _, h4⟩ := g2.2.2 i (byteD b) (by rw [List.getElem?_map, hl]; rfl) 0 (byteD b) rfl
      rw [Nat.mul_one, Nat.add_zero] at h3
      rw [h3]
      cases h4
      rfl
  rw [this] at g1
  exact ⟨a, cap, rfl, h1, h2, g1⟩

/-- A contract on worlds that leaves what is old. -/
theorem pcalls_of {P : Program} {f : FuncId} {fn : Func} {args : List AV} {x : D} (hf : P.funcs[f]? = some fn) (hname : (fn.name == "runtime.NumGoroutine") = false) (hb : fn.body.isSome = true)
    (h : ∀ (w : World) (O : Nat → Prop) (ρ : Nat → Nat → Value) (vs : List Value), vs.length = args.length → (∀ (i : Nat) a v, args[i]? = some a → vs[i]? = some v → RepA w O ρ a v) → Calls P f vs.toArray w fun e w' => ∃ v, e = .returned v ∧ (∀ O', (∀ b, O' b → b < w.heap.size) → RepD w' O' x v) ∧ Below w.heap.size w w') : PCalls P f args x := by
  refine ⟨⟨fn, hf, hname, hb⟩, fun F ρ vs h1 h2 _ h3 h4 h5 => (h F.w0 _ ρ vs h4 h5).mono fun e w' ⟨v, he, hr, hb⟩ => ?_⟩
  have hno : ∀ ρ b, ¬ OwnB ρ [] b := fun ρ b ⟨_, _, _, h, _⟩ => by cases h
  refine ⟨v, _, [], ρ, he, ⟨rfl, rfl⟩, .d (hr _ fun b hb => hb.elim (fun h => (F.hOf b h).1) fun h => (hno _ _ h).elim), ?_⟩
  exact ⟨(fun f i o ho => by cases ho), (fun f i f' i' o o' b ho => by cases ho), fun b hb => (hno ρ b hb).elim, hb.os, hb.tape, hb.output, hb.size, fun b hlt _ => hb.block b hlt, h3.pins⟩

theorem own_mono {w : World} {b b' : Nat} {e : TypeId} {k : Nat} {v : Value} {n : Nat} {us : List Value} (h : w.ownsRow b e k v n us) (hb : b' ≤ b) : w.ownsRow b' e k v n us := by
  refine ⟨h.1, ?_⟩
  rcases h.2 with h' | ⟨g, cap, cur, h1, h2, h3⟩
  · exact .inl h'
  · exact .inr ⟨g, cap, cur, h1, by omega, h3⟩
theorem lies_bytes {w : World} {O : Nat → Prop} (l : List UInt8) : Lies D.cells 1 (RepD w O) (l.map byteD) (l.map bv) := by
  refine ⟨by simp, by simp [byteD, D.cells], fun i x hx j c hc => ?_⟩
  rw [List.getElem?_map] at hx
  cases hl : l[i]? with
  | none => rw [hl] at hx; cases hx
  | some b =>
    rw [hl] at hx; injection hx with hx; subst hx
    cases j with
    | zero =>
      simp [byteD, D.cells] at hc; subst hc
      exact ⟨bv b, by simp [hl], rfl, .raw rfl⟩
    | succ j => simp [byteD, D.cells] at hc

/-- A row of bytes that a callee has made. -/
theorem Heap.gain {F : Fr} {H : Hp} {ρ : Nat → Nat → Value} {w' : World} (h : Heap F H ρ F.w0) (hpin : F.pin = pinOf ρ H) (g : Nat) {E : TypeId} {l : List UInt8} {v : Value} (hnone : hfam H g = none) (href : hpIn (hpN H) H = true)
    (hown : Own1 w' F.w0.heap.size E v (l.map bv)) (hb : Below F.w0.heap.size F.w0 w') : Heap F ((g, [.rowD E 1 (l.map byteD)]) :: H) (upd ρ g 0 v) w' := by
  have hg0 : ∀ i, hget H g i = none := fun i => by simp [hget, hnone]
  refine h.one g 0 (.rowD E 1 (l.map byteD)) (fun f i => ?_) (fun f i e => upd_other e) (fun b hv => ?_) hb.os hb.tape hb.output hb.size (fun b hlt _ => hb.block b hlt) (.inr fun f i o ho _ hr => ?_) (fun b hp => ?_) ?_
  · by_cases e : g = f
    · subst e; simp only [hget, hfam, Nat.beq_refl, Option.bind_some, true_and, hnone, Option.bind_none]
      cases i <;> simp
    · simp only [hget, hfam, beq_ne e]; rw [if_neg fun hh => e hh.1.symm]
  · rw [upd_same] at hv
    refine .inr ?_
    rcases hown.2 with ⟨rfl, _⟩ | ⟨b', cap, cur, rfl, h2, h3, _⟩
    · cases hv
    · injection hv with hv; subst hv
      exact ⟨h2, (Array.getElem?_eq_some_iff.1 h3).1⟩
  · have hm := hpIn_spec href ho hr
    have key : ∀ H : Hp, g ∈ hpN H → hfam H g ≠ none := by
      intro H
      induction H with
      | nil => intro h; cases h
      | cons p r ih =>
        obtain ⟨k, x⟩ := p
        intro h
        simp only [hfam]
        split
        · simp
        · rename_i hk
          rcases List.mem_cons.1 h with rfl | h
          · exact absurd rfl (Nat.ne_of_beq_eq_false hk)
          · exact ih h
    exact key H hm hnone
  · rw [hpin] at hp
    obtain ⟨_, t, cs, h1⟩ := pinOf_spec hp
    rw [hg0] at h1; cases h1
  · rw [upd_same]
    refine ⟨l.map bv, ?_, lies_bytes l, fun x hx c hc => ?_⟩
    · have := own_mono hown (Nat.zero_le _)
      simpa using this
    · obtain ⟨b, _, rfl⟩ := List.mem_map.1 hx
      simp [byteD, D.cells] at hc; subst hc; rfl
theorem own_reads_bytes {w : World} {O : Nat → Prop} {ρ : Nat → Nat → Value} {E : TypeId} {l : List UInt8} {v : Value} (h : SimObj w O ρ (.rowD E 1 (l.map byteD)) v) : ∃ A c, v = .slice A l.length c ∧ l.length ≤ c ∧ c ≤ maxLen ∧ Reads w w.heap.size 1 A l.length (l.map bv) := by
  obtain ⟨us, h1, h2, _⟩ := h
  have hus : us = l.map bv := by
    refine List.ext_getElem? fun i => ?_
    rw [List.getElem?_map]
    cases hl : l[i]? with
    | none =>
      rw [List.getElem?_eq_none_iff] at hl
      rw [Option.map_none, List.getElem?_eq_none_iff, h2.1]; simpa using hl
    | some b =>
      obtain ⟨u, h3, _, h4⟩ := h2.2.2 i (byteD b) (by rw [List.getElem?_map, hl]; rfl) 0 (byteD b) rfl
      rw [Nat.mul_one, Nat.add_zero] at h3
      rw [h3]; cases h4; rfl
  subst hus
  rw [List.length_map] at h1
  rcases h1.2 with ⟨rfl, h0⟩ | ⟨g, cap, cur, rfl, h3, h4, h5, h6, h7, h8⟩
  · rw [h0]
    have : l = [] := List.eq_nil_of_length_eq_zero h0
    subst this
    exact ⟨none, 0, rfl, Nat.le_refl _, Nat.zero_le _, Reads.none_⟩
  · refine ⟨_, _, rfl, h5, h6, by simp, fun _ => ⟨_, rfl, (Array.getElem?_eq_some_iff.1 h4).1, fun j u hu => ?_⟩⟩
    have hj : j < l.length := by have := (List.getElem?_eq_some_iff.1 hu).1; simpa using this
    rw [Go.WideShapes.add_plain, cell_of_row w g (0 + j) cur E _ h4, ← hu, ← h8, List.getElem?_take, if_pos (by omega)]
    simp

theorem flat_bytes (g : Nat) (E : TypeId) (l : List UInt8) : FlatH [(g, [.rowD E 1 (l.map byteD)])] := ⟨⟨fun x hx c hc => by
  obtain ⟨b, _, rfl⟩ := List.mem_map.1 hx
  simp [byteD, D.cells] at hc; subst hc; rfl, trivial⟩, trivial⟩

abbrev strD (l : List UInt8) : D := .raw (.string ⟨l.toArray⟩)
section
variable {P : Program} {F : Fr} {s : AS} {d : Nat} {ty T T' E : TypeId} {pos : String} {aft : Array Edge} {g : Option (Nat × Bool)} {x y : Operand}
/-- string(b) -/
theorem st_convBS {xs : List D} {nil : Option Bool} (l : List UInt8) (hx : s.ev x = some (.d (.sl nil xs))) (hl : xs = l.map byteD) (hT : P.underlying T = some (.slice E)) (hE : P.underlying E = some (.int .u8)) (hT' : P.underlying T' = some .string) (hd : Nat.blt d s.n = true) :
    Pstep P F ⟨some d, .convert T T' x, ty, pos, aft, g⟩ s d (.d (strD l)) := step_val _ hd fun ρ act w hs => by
  subst hl
  have hr := hs.repD hx
  have hr' : RepD w (F.O ρ s.hp) (bytesD l) (act.eval x) := by
    generalize act.eval x = v at hr
    cases hr with
    | sl k hn hz hln hc hm hk ha hp => exact .sl k (fun _ h => by cases h) hz hln hc hm hk ha hp
  obtain ⟨A, c, e, h1, h2, h3⟩ := bytesD_reads hr'
  exact ⟨_, by simp [execOp, e, str_of_bytes c T T' E hT hE hT' h3], .d (.raw rfl)⟩
theorem st_convBSO {f j n : Nat} {t : TypeId} {xs : List D} (l : List UInt8) (hx : s.ev x = some (.own f j n)) (ho : hget s.hp f j = some (.rowD t 1 xs)) (hn : n = xs.length) (hl : xs = l.map byteD) (hT : P.underlying T = some (.slice E)) (hE : P.underlying E = some (.int .u8)) (hT' : P.underlying T' = some .string) (hd : Nat.blt d s.n = true) :
    Pstep P F ⟨some d, .convert T T' x, ty, pos, aft, g⟩ s d (.d (strD l)) := step_val _ hd fun ρ act w hs => by
  subst hn hl
  have hr := hs.ev hx
  obtain ⟨A, c, e, h1, h2, h3⟩ := own_reads_bytes (hs.heap.sim f j _ ho)
  generalize hv : act.eval x = v at hr
  cases hr with
  | own hρ hn =>
    rw [e] at hρ
    injection hρ with e1 e2 e3
    subst e1 e3
    rw [List.length_map] at hv
    exact ⟨_, by simp [execOp, hv, str_of_bytes c T T' E hT hE hT' h3], .d (.raw rfl)⟩
/-- []byte(s) -/
theorem st_convSB (l : List UInt8) (hx : s.ev x = some (.d (strD l))) (hm : l.length ≤ 140737488355328) (hT : P.underlying T = some .string) (hT' : P.underlying T' = some (.slice E)) (hE : P.underlying E = some (.int .u8)) (hd : Nat.blt d s.n = true) :
    Pstep P F ⟨some d, .convert T T' x, ty, pos, aft, g⟩ s d (.d (bytesD l)) := by
  refine ⟨hd, rfl, fun ρ act w hs => ?_⟩
  have e := hs.raw hx
  have hrun := run_bytes_of_string (P := P) w T T' E ⟨l.toArray⟩ hT hT' hE
  have hsz : (⟨l.toArray⟩ : ByteArray).size = l.length := by simp [ByteArray.size]
  rw [hsz] at hrun
  unfold Oper.wp
  rw [show (execOp act.eval ⟨some d, .convert T T' x, ty, pos, aft, g⟩).run P w = _ from by simp [execOp, e, hrun]; rfl]
  generalize hcap : grownCap w l.length 0 E = cap at *
  have hc1 : l.length ≤ cap := by rw [← hcap]; exact grownCap_ge w l.length 0 E
  have hc2 : cap ≤ maxLen := by rw [← hcap]; exact grownCap_le_maxLen w l.length 0 E (by unfold maxLen; omega)
  generalize hob : Obj.cells (bytesRow ⟨l.toArray⟩ cap) E ((bytesRow ⟨l.toArray⟩ cap).size, (bytesRow ⟨l.toArray⟩ cap).size + 1) = ob at *
  have hnew : ∀ b, b < w.heap.size → (w.drew.alloc ob).heap[b]? = w.heap[b]? := fun b hb => Below.heap_alloc w.drew ob b hb
  have hsize : (w.drew.alloc ob).heap.size = w.heap.size + 1 := by show (w.heap.push ob).size = _; simp
  refine ⟨_, rfl, .d (.sl 1 (fun _ h => by cases h) (fun h => by cases h) (by simp) hc1 hc2 (by simp [byteD, D.cells]) (fun _ => ⟨_, _, rfl⟩) (fun b o hb i x hx => ?_)), hs.heap.stay ⟨rfl, rfl, rfl⟩ (by rw [hsize]; omega) hnew, by rw [hsize]; omega, hnew⟩
  injection hb with hb; injection hb with hb1 hb2; subst hb1 hb2
  rw [List.getElem?_map] at hx
  cases hl : l[i]? with
  | none => rw [hl] at hx; cases hx
  | some c =>
    rw [hl] at hx; injection hx with hx; subst hx
    have hi : i < l.length := (List.getElem?_eq_some_iff.1 hl).1
    refine .ptr (fun _ => .int .u8 (c.toNat : Int)) (by rw [hsize]; omega) (fun hO => ?_) (by simp [byteD, D.cells, D.one]) (fun j x hj => ?_) (fun j x hj => ?_)
    · rcases hO with hO | hO
      · have := (F.hOf _ hO).1; have := hs.heap.size0; omega
      · have := (hs.heap.mine _ hO).1; omega
    · cases j with
      | succ j => simp [byteD, D.cells] at hj
      | zero =>
        have h1 : (w.drew.alloc ob).heap[w.heap.size]? = some ob := by show (w.heap.push ob)[w.heap.size]? = _; simp
        rw [← hob] at h1 ⊢
        rw [cell_of_row _ _ _ _ _ _ h1, Nat.zero_add, Nat.mul_one, Nat.add_zero, bytesRow_at _ _ _ (by simpa using hi)]
        have : l[i] = c := by rw [List.getElem?_eq_getElem hi] at hl; injection hl
        simp [this]
    · cases j with
      | succ j => simp [byteD, D.cells] at hj
      | zero => simp [byteD, D.cells] at hj; subst hj; exact .raw rfl
end
end Go.Proofs.Ytjbghmlofjkcfaa
