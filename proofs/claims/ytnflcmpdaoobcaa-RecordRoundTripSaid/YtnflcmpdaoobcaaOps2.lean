/- The rules of single operations over abstract states: lengths, slices, reads of memory. No program in sight. -/
import Derived.Test.YtnflcmpdaoobcaaOps
namespace Go.Proofs.Ytnflcmpdaoobcaa
open Go.RowKit

theorem RepD.sl_len {w : World} {O : Nat → Prop} {nil : Option Bool} {xs : List D} {v : Value} (h : RepD w O (.sl nil xs) v) : ∃ a cap, v = .slice a xs.length cap ∧ xs.length ≤ cap ∧ cap ≤ maxLen ∧ ∀ b, nil = some b → a.isNone = b := by
  cases h with
  | sl k hn hz hln hc hm hk ha hp => subst hln; exact ⟨_, _, rfl, hc, hm, hn⟩
theorem D.cells_one {x : D} (h : x.one = true) : x.cells = [x] := by cases x <;> first | rfl | cases h

/-- What a load gives at a frozen place: the element, if the type fits. -/
def fitsTy (P : Program) (T : TypeId) : D → Bool
  | .agg cs => rowTy P T cs.length
  | .tup _ => false
  | _ => oneTy P T

theorem list_of_fn {n : Nat} (f : Nat → Value) : ∃ l : List Value, l.length = n ∧ ∀ j, j < n → l[j]? = some (f j) := ⟨(List.range n).map f, by simp, fun j hj => by simp [hj]⟩

theorem run_load_frozen {P : Program} {T : TypeId} {w : World} {O : Nat → Prop} {x : D} {v : Value} (hT : fitsTy P T x = true) (h : RepD w O (.ptr x) v) : ∃ u, (Instr.loadAt T v).run P w = .ok u w ∧ RepD w O x u := by
  cases h with
  | @ptr _ b o us hb hO h1 hc hu =>
    have one : ∀ hx : x.one = true, oneTy P T = true → ∃ u, (Instr.loadAt T (.pointer (some ⟨b, o, none⟩))).run P w = .ok u w ∧ RepD w O x u := fun hx hT => by
      rw [D.cells_one hx] at hc hu
      have h0 := hc 0 x rfl
      simp only [Nat.add_zero] at h0
      refine ⟨us 0, ?_, hu 0 x rfl⟩
      simp [Instr.loadAt, Instr.sureAddr, loadVar, oneTy_spec hT, h0]
    cases x with
    | agg cs =>
      simp only [fitsTy] at hT
      obtain ⟨⟨d, h3, h4⟩, h5⟩ := rowTy_spec hT
      obtain ⟨l, hl, hlj⟩ := list_of_fn (n := cs.length) us
      refine ⟨.agg l.toArray, run_loadAt_mid w b o T l d (fun j v hv => ?_) h3 h4 (by rw [hl]; exact h5), .agg hl h1 fun i c v hcs hv => ?_⟩
      · have hj : j < cs.length := by rw [← hl]; exact (List.getElem?_eq_some_iff.1 hv).1
        rw [hc j cs[j] (List.getElem?_eq_getElem hj), ← hlj j hj, hv]
      · have hj : i < cs.length := (List.getElem?_eq_some_iff.1 hcs).1
        have := hlj i hj
        rw [hv] at this
        injection this with this
        subst this
        exact hu i c hcs
    | tup _ => simp [fitsTy] at hT
    | raw _ => exact one rfl hT
    | sl _ _ => exact one rfl hT
    | ptr _ => exact one rfl hT

section
variable {P : Program} {F : Fr} {s : AS} {d : Nat} {ty T E : TypeId} {pos : String} {aft : Array Edge} {g : Option (Nat × Bool)} {x y : Operand} {k : IntKind} {i : Int}

theorem st_lenD {nil : Option Bool} {xs : List D} {n : Nat} (hx : s.ev x = some (.d (.sl nil xs))) (hn : xs.length = n) (hT : P.underlying T = some (.slice E)) (hd : Nat.blt d s.n = true) :
    Pstep P F ⟨some d, .call { callee := .builtin .len, args := #[x], argTypes := #[T] }, ty, pos, aft, g⟩ s d (.d (.raw (.int .i64 (n : Int)))) :=
  step_val _ hd fun _ act w hs => by
    obtain ⟨a, cap, h1, _⟩ := (hs.repD hx).sl_len
    subst hn
    exact ⟨_, by simp [execOp, resolve, invoke, builtin, Builtin.len_, run_underlying hT, h1, goInt], .d (.raw rfl)⟩
theorem st_lenMap {α : Type} {f : α → D} {nil : Option Bool} {l : List α} (hx : s.ev x = some (.d (.sl nil (List.map f l)))) (hT : P.underlying T = some (.slice E)) (hd : Nat.blt d s.n = true) :
    Pstep P F ⟨some d, .call { callee := .builtin .len, args := #[x], argTypes := #[T] }, ty, pos, aft, g⟩ s d (.d (.raw (.int .i64 (l.length : Int)))) :=
  st_lenD hx (List.length_map _) hT hd
theorem st_lenO {f j n : Nat} (hx : s.ev x = some (.own f j n)) (hT : P.underlying T = some (.slice E)) (hd : Nat.blt d s.n = true) :
    Pstep P F ⟨some d, .call { callee := .builtin .len, args := #[x], argTypes := #[T] }, ty, pos, aft, g⟩ s d (.d (.raw (.int .i64 (n : Int)))) :=
  step_val _ hd fun _ act w hs => by
    have h := hs.ev hx
    generalize hv : act.eval x = u at h
    cases h with
    | own h1 h2 => exact ⟨_, by simp [execOp, resolve, invoke, builtin, Builtin.len_, run_underlying hT, hv, goInt], .d (.raw rfl)⟩
theorem st_lenS {b : ByteArray} (hx : s.ev x = some (.d (.raw (.string b)))) (hT : P.underlying T = some .string) (hd : Nat.blt d s.n = true) :
    Pstep P F ⟨some d, .call { callee := .builtin .len, args := #[x], argTypes := #[T] }, ty, pos, aft, g⟩ s d (.d (.raw (.int .i64 (b.size : Int)))) :=
  step_val _ hd fun _ act w hs => ⟨_, by simp [execOp, resolve, invoke, builtin, Builtin.len_, run_underlying hT, hs.raw hx, goInt], .d (.raw rfl)⟩
theorem st_min {a b v : Int} {t : Array TypeId} (hx : s.ev x = some (.d (.raw (.int k a)))) (hy : s.ev y = some (.d (.raw (.int k b)))) (hv : (if b < a then b else a) = v) (hd : Nat.blt d s.n = true) :
    Pstep P F ⟨some d, .call { callee := .builtin .min, args := #[x, y], argTypes := t }, ty, pos, aft, g⟩ s d (.d (.raw (.int k v))) :=
  step_val _ hd fun _ act w hs => ⟨_, by simp [execOp, resolve, invoke, builtin, Builtin.min_, Builtin.min2, hs.raw hx, hs.raw hy, hv, List.foldlM], .d (.raw rfl)⟩
theorem st_min4 {z u : Operand} {a b c e v : Int} {t : Array TypeId} (hx : s.ev x = some (.d (.raw (.int k a)))) (hy : s.ev y = some (.d (.raw (.int k b)))) (hz : s.ev z = some (.d (.raw (.int k c)))) (hu : s.ev u = some (.d (.raw (.int k e)))) (hv : min (min (min a b) c) e = v) (hd : Nat.blt d s.n = true) :
    Pstep P F ⟨some d, .call { callee := .builtin .min, args := #[x, y, z, u], argTypes := t }, ty, pos, aft, g⟩ s d (.d (.raw (.int k v))) := step_val _ hd fun _ act w hs => by
  subst hv
  refine ⟨_, ?_, .d (.raw rfl)⟩
  have e2 : ∀ p q : Int, (if q < p then q else p) = min p q := fun p q => by omega
  simp [execOp, resolve, invoke, builtin, hs.raw hx, hs.raw hy, hs.raw hz, hs.raw hu, Builtin.min_, Builtin.min2, e2]
theorem st_min3 {z : Operand} {a b c v : Int} {t : Array TypeId} (hx : s.ev x = some (.d (.raw (.int k a)))) (hy : s.ev y = some (.d (.raw (.int k b)))) (hz : s.ev z = some (.d (.raw (.int k c)))) (hv : min (min a b) c = v) (hd : Nat.blt d s.n = true) :
    Pstep P F ⟨some d, .call { callee := .builtin .min, args := #[x, y, z], argTypes := t }, ty, pos, aft, g⟩ s d (.d (.raw (.int k v))) := step_val _ hd fun _ act w hs => by
  subst hv
  refine ⟨_, ?_, .d (.raw rfl)⟩
  have e2 : ∀ p q : Int, (if q < p then q else p) = min p q := fun p q => by omega
  simp [execOp, resolve, invoke, builtin, hs.raw hx, hs.raw hy, hs.raw hz, Builtin.min_, Builtin.min2, e2]
theorem st_max {a b v : Int} {t : Array TypeId} (hx : s.ev x = some (.d (.raw (.int k a)))) (hy : s.ev y = some (.d (.raw (.int k b)))) (hv : (if b > a then b else a) = v) (hd : Nat.blt d s.n = true) :
    Pstep P F ⟨some d, .call { callee := .builtin .max, args := #[x, y], argTypes := t }, ty, pos, aft, g⟩ s d (.d (.raw (.int k v))) :=
  step_val _ hd fun _ act w hs => ⟨_, by simp [execOp, resolve, invoke, builtin, Builtin.max_, Builtin.max2, hs.raw hx, hs.raw hy, hv, List.foldlM], .d (.raw rfl)⟩

/-- The place of an element of frozen data. -/
theorem st_indexD {nil : Option Bool} {xs : List D} {e : D} (j : Nat) (hx : s.ev x = some (.d (.sl nil xs))) (hy : s.ev y = some (.d (.raw (.int k i)))) (hj : i = (j : Int)) (he : xs[j]? = some e) (hT : P.underlying T = some (.slice E)) {kz : Nat} (hkz : e.cells.length = kz) (hE : sizeTy P E kz = true) (hd : Nat.blt d s.n = true) :
    Pstep P F ⟨some d, .indexAddr T x y, ty, pos, aft, g⟩ s d (.d (.ptr e)) :=
  step_val _ hd fun _ act w hs => by
    have h := hs.repD hx
    generalize hv : act.eval x = u at h
    subst hj hkz
    have hlt : j < xs.length := (List.getElem?_eq_some_iff.1 he).1
    cases h with
    | @sl _ _ a n cap kk hn hz hln hc hm hk ha hp =>
      obtain ⟨b, o, rfl⟩ := ha (by intro h; subst h; simp at hlt)
      have hke : e.cells.length = kk := hk e (List.mem_of_getElem? he)
      subst hln
      refine ⟨.pointer (some ⟨b, o + j * kk, none⟩), ?_, .d (hp b o rfl j e he)⟩
      simp [execOp, Instr.indexAt, asIntOf, hs.raw hy, hv, run_underlying hT, hlt, run_sizeOf (sizeTy_spec hE), hke, Addr.add_mid]
theorem st_indexS {b : ByteArray} {c : UInt8} (j : Nat) (hx : s.ev x = some (.d (.raw (.string b)))) (hy : s.ev y = some (.d (.raw (.int k i)))) (hj : i = (j : Int)) (he : b[j]? = some c) (hT : P.underlying T = some .string) (hd : Nat.blt d s.n = true) :
    Pstep P F ⟨some d, .index T x y, ty, pos, aft, g⟩ s d (.d (.raw (.int .u8 (c.toNat : Int)))) :=
  step_val _ hd fun _ act w hs => by
    subst hj
    exact ⟨_, by simp [execOp, Instr.index, asIntOf, hs.raw hy, hs.raw hx, run_underlying hT, he], .d (.raw rfl)⟩
theorem st_loadD1 {e : D} (hx : s.ev x = some (.d (.ptr e))) (h1 : e.one = true) (hT : oneTy P T = true) (hd : Nat.blt d s.n = true) :
    Pstep P F ⟨some d, .load T x, ty, pos, aft, g⟩ s d (.d e) :=
  step_val _ hd fun _ act w hs => by
    have hf : fitsTy P T e = true := by cases e <;> first | exact hT | cases h1
    obtain ⟨u, h1, h2⟩ := run_load_frozen hf (hs.repD hx)
    exact ⟨u, by simp [execOp, h1], .d h2⟩
theorem st_loadDS {cs : List D} {n : Nat} (hx : s.ev x = some (.d (.ptr (.agg cs)))) (hn : cs.length = n) (hT : rowTy P T n = true) (hd : Nat.blt d s.n = true) :
    Pstep P F ⟨some d, .load T x, ty, pos, aft, g⟩ s d (.d (.agg cs)) :=
  step_val _ hd fun _ act w hs => by
    subst hn
    obtain ⟨u, h1, h2⟩ := run_load_frozen (T := T) (x := .agg cs) hT (hs.repD hx)
    exact ⟨u, by simp [execOp, h1], .d h2⟩
theorem st_loadD {e : D} (hx : s.ev x = some (.d (.ptr e))) (hT : fitsTy P T e = true) (hd : Nat.blt d s.n = true) :
    Pstep P F ⟨some d, .load T x, ty, pos, aft, g⟩ s d (.d e) :=
  step_val _ hd fun _ act w hs => by
    obtain ⟨u, h1, h2⟩ := run_load_frozen hT (hs.repD hx)
    exact ⟨u, by simp [execOp, h1], .d h2⟩

/-- A part of frozen data. -/
theorem RepD.part {w : World} {O : Nat → Prop} {nil : Option Bool} {xs : List D} {a : Option Addr} {n cap : Nat} (h : RepD w O (.sl nil xs) (.slice a n cap)) {l h' kk : Nat} (hl : l ≤ h') (hh : h' ≤ xs.length) (hk : ∀ x ∈ xs, x.cells.length = kk) :
    RepD w O (.sl nil ((xs.drop l).take (h' - l))) (.slice (if cap = l then a else a.map (·.add (l * kk))) (h' - l) (cap - l)) := by
  cases h with
  | sl k hn hz hln hc hm hk' ha hp =>
    subst hln
    refine .sl kk ?_ (fun e => ?_) (by rw [List.length_take, List.length_drop]; omega) (by omega) (by unfold maxLen at hm ⊢; omega) (fun x hx => hk x (List.mem_of_mem_drop (List.mem_of_mem_take hx))) (fun hne => ?_) (fun b o hb i x hx => ?_)
    · intro b hb
      split
      · exact hn b hb
      · rw [Option.isNone_map]; exact hn b hb
    · have : a = none := by
        split at e
        · exact e
        · simpa using e
      have := hz this
      omega
    · have h1 : xs ≠ [] := by intro e; subst e; simp at hne
      have h2 : l < xs.length := by
        rcases Nat.lt_or_ge l xs.length with h2 | h2
        · exact h2
        · exfalso; apply hne; rw [List.drop_eq_nil_of_le h2]; simp
      obtain ⟨b, o, rfl⟩ := ha h1
      rw [if_neg (by omega)]
      exact ⟨b, o + l * kk, by simp [Addr.add_mid]⟩
    · rw [List.getElem?_take] at hx
      split at hx
      · rename_i hi
        rw [List.getElem?_drop] at hx
        have hlt : l + i < xs.length := (List.getElem?_eq_some_iff.1 hx).1
        obtain ⟨b0, o0, rfl⟩ := ha (by intro e; subst e; simp at hlt)
        have hkk : k = kk := by rw [← hk' x (List.mem_of_getElem? hx), hk x (List.mem_of_getElem? hx)]
        subst hkk
        rw [if_neg (by omega)] at hb
        simp only [Option.map_some, Addr.add_mid, Option.some.injEq, Addr.mk.injEq] at hb
        obtain ⟨rfl, rfl, _⟩ := hb
        have := hp b0 o0 rfl (l + i) x hx
        rw [Nat.add_mul, ← Nat.add_assoc] at this
        exact this
      · cases hx

theorem run_slice3 {t e : TypeId} {kk : Nat} (hT : P.underlying t = some (.slice e)) (hE : (P.info? e).map (·.size) = some kk) {a : Option Addr} {n c l h : Nat} (h1 : l ≤ h) (h2 : h ≤ c) {w : World} {kl kh : IntKind} :
    (Instr.sliceAt t (.slice a n c) (some (.int kl l)) (some (.int kh h)) none).run P w = .ok (.slice (if c = l then a else a.map (·.add (l * kk))) (h - l) (c - l)) w := by
  simp [Instr.sliceAt, Instr.slice, run_underlying hT, Instr.sliceBounds, Instr.sliceBound, asIntOf, run_sizeOf hE, h1, h2]
theorem run_slice_lo {t e : TypeId} {kk : Nat} (hT : P.underlying t = some (.slice e)) (hE : (P.info? e).map (·.size) = some kk) {a : Option Addr} {n c l : Nat} (h1 : l ≤ n) {w : World} {kl : IntKind} :
    (Instr.sliceAt t (.slice a n c) (some (.int kl l)) none none).run P w = .ok (.slice (if c = l then a else a.map (·.add (l * kk))) (n - l) (c - l)) w := by
  simp [Instr.sliceAt, Instr.slice, run_underlying hT, Instr.sliceBounds, Instr.sliceBound, asIntOf, run_sizeOf hE, h1]
theorem run_slice_hi {t e : TypeId} {kk : Nat} (hT : P.underlying t = some (.slice e)) (hE : (P.info? e).map (·.size) = some kk) {a : Option Addr} {n c h : Nat} (h2 : h ≤ c) {w : World} {kh : IntKind} :
    (Instr.sliceAt t (.slice a n c) none (some (.int kh h)) none).run P w = .ok (.slice (if c = 0 then a else a.map (·.add (0 * kk))) (h - 0) (c - 0)) w := by
  simp [Instr.sliceAt, Instr.slice, run_underlying hT, Instr.sliceBounds, Instr.sliceBound, asIntOf, run_sizeOf hE, h2]

theorem st_slice3 {nil : Option Bool} {xs : List D} {lo hi : Operand} {kl kh : IntKind} {il ih : Int} {kk : Nat} (l h : Nat) (hx : s.ev x = some (.d (.sl nil xs))) (hlo : s.ev lo = some (.d (.raw (.int kl il)))) (hhi : s.ev hi = some (.d (.raw (.int kh ih))))
    (hl : il = (l : Int)) (hh : ih = (h : Int)) (h1 : l ≤ h) (h2 : h ≤ xs.length) (hT : P.underlying T = some (.slice E)) (hE : sizeTy P E kk = true) (hk : ∀ e ∈ xs, e.cells.length = kk) {ys : List D} (hys : (xs.drop l).take (h - l) = ys) (hd : Nat.blt d s.n = true) :
    Pstep P F ⟨some d, .slice T x (some lo) (some hi) none, ty, pos, aft, g⟩ s d (.d (.sl nil ys)) :=
  step_val _ hd fun _ act w hs => by
    have hr := hs.repD hx
    obtain ⟨a, cap, e, hc, _, _⟩ := hr.sl_len
    rw [e] at hr
    subst hl hh hys
    exact ⟨.slice (if cap = l then a else a.map (·.add (l * kk))) (h - l) (cap - l), by simp only [execOp, e, Option.map_some, Option.map_none, hs.raw hlo, hs.raw hhi, Sem.run_bind, run_slice3 hT (sizeTy_spec hE) h1 (Nat.le_trans h2 hc), Result.andThen_ok, Sem.run_pure], .d (hr.part h1 h2 hk)⟩
theorem st_sliceLo {nil : Option Bool} {xs : List D} {lo : Operand} {kl : IntKind} {il : Int} {kk : Nat} (l : Nat) (hx : s.ev x = some (.d (.sl nil xs))) (hlo : s.ev lo = some (.d (.raw (.int kl il))))
    (hl : il = (l : Int)) (h1 : l ≤ xs.length) (hT : P.underlying T = some (.slice E)) (hE : sizeTy P E kk = true) (hk : ∀ e ∈ xs, e.cells.length = kk) {ys : List D} (hys : xs.drop l = ys) (hd : Nat.blt d s.n = true) :
    Pstep P F ⟨some d, .slice T x (some lo) none none, ty, pos, aft, g⟩ s d (.d (.sl nil ys)) :=
  step_val _ hd fun _ act w hs => by
    have hr := hs.repD hx
    obtain ⟨a, cap, e, hc, _, _⟩ := hr.sl_len
    rw [e] at hr
    subst hl hys
    refine ⟨.slice (if cap = l then a else a.map (·.add (l * kk))) (xs.length - l) (cap - l), by simp only [execOp, e, Option.map_some, Option.map_none, hs.raw hlo, Sem.run_bind, run_slice_lo hT (sizeTy_spec hE) h1, Result.andThen_ok, Sem.run_pure], .d ?_⟩
    have := hr.part h1 (Nat.le_refl _) hk
    rwa [List.take_of_length_le (by rw [List.length_drop]; exact Nat.le_refl _)] at this
theorem st_sliceHi {nil : Option Bool} {xs : List D} {hi : Operand} {kh : IntKind} {ih : Int} {kk : Nat} (h : Nat) (hx : s.ev x = some (.d (.sl nil xs))) (hhi : s.ev hi = some (.d (.raw (.int kh ih))))
    (hh : ih = (h : Int)) (h2 : h ≤ xs.length) (hT : P.underlying T = some (.slice E)) (hE : sizeTy P E kk = true) (hk : ∀ e ∈ xs, e.cells.length = kk) {ys : List D} (hys : xs.take h = ys) (hd : Nat.blt d s.n = true) :
    Pstep P F ⟨some d, .slice T x none (some hi) none, ty, pos, aft, g⟩ s d (.d (.sl nil ys)) :=
  step_val _ hd fun _ act w hs => by
    have hr := hs.repD hx
    obtain ⟨a, cap, e, hc, _, _⟩ := hr.sl_len
    rw [e] at hr
    subst hh hys
    refine ⟨.slice (if cap = 0 then a else a.map (·.add (0 * kk))) (h - 0) (cap - 0), by simp only [execOp, e, Option.map_some, Option.map_none, hs.raw hhi, Sem.run_bind, run_slice_hi hT (sizeTy_spec hE) (Nat.le_trans h2 hc), Result.andThen_ok, Sem.run_pure], .d ?_⟩
    have := hr.part (Nat.zero_le h) h2 hk
    simpa using this
end

end Go.Proofs.Ytnflcmpdaoobcaa
