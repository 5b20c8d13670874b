/- The rules of single operations over abstract states: values, reads. No program in sight. -/
import Derived.Test.YtnflcmpdaoobcaaStep
import Derived.IntWalk
namespace Go.Proofs.Ytnflcmpdaoobcaa
open Go.RowKit

theorem SR.raw {F : Fr} {s : AS} {ρ : Nat → Nat → Value} {act : Act} {w : World} (h : SR F s ρ act w) {x : Operand} {v : Value} (hx : s.ev x = some (.d (.raw v))) : act.eval x = v := by
  have h1 := h.ev hx
  cases h1 with
  | d h1 =>
    generalize hv : act.eval x = u at h1
    cases h1 with
    | raw _ => rfl
theorem SR.repD {F : Fr} {s : AS} {ρ : Nat → Nat → Value} {act : Act} {w : World} (h : SR F s ρ act w) {x : Operand} {d : D} (hx : s.ev x = some (.d d)) : RepD w (F.O ρ s.hp) d (act.eval x) := by
  have h1 := h.ev hx
  generalize act.eval x = u at h1
  cases h1 with
  | d h1 => exact h1

/-- A type of one cell. -/
def oneTy (P : Program) (T : TypeId) : Bool := match P.underlying T with
  | some (.struct _) => false
  | some (.array _ _) => false
  | none => false
  | some _ => true
/-- A type of n cells, a struct or an array. -/
def rowTy (P : Program) (T : TypeId) (n : Nat) : Bool := (match P.underlying T with
  | some (.struct _) => true
  | some (.array _ _) => true
  | _ => false) && (match P.info? T with
  | some i => Nat.beq i.size n
  | none => false)
def sizeTy (P : Program) (T : TypeId) (n : Nat) : Bool := match P.info? T with
  | some i => Nat.beq i.size n
  | none => false
theorem sizeTy_spec {P : Program} {T : TypeId} {n : Nat} (h : sizeTy P T n = true) : (P.info? T).map (·.size) = some n := by
  unfold sizeTy at h
  split at h
  · rename_i i hi; rw [hi]; simp [Nat.eq_of_beq_eq_true h]
  · cases h
theorem run_sizeOf {P : Program} {T : TypeId} {n : Nat} (h : (P.info? T).map (·.size) = some n) (w : World) : (sizeOf T).run P w = .ok n w := by
  unfold sizeOf typeInfo
  cases hi : P.info? T with
  | none => rw [hi] at h; cases h
  | some i => rw [hi] at h; simp at h; simp [hi, h]
/-- What is wanted of a slice's type, by reckoning. -/
def slTyB (P : Program) (t e size bytes : Nat) : Bool := (match P.underlying t with
  | some (.slice e') => Nat.beq e' e
  | _ => false) && (match P.info? e with
  | some i => match i.zero with
    | some z => Nat.beq i.size size && Nat.beq i.bytes bytes && Nat.beq z.cells.size size
    | none => false
  | none => false) && Nat.blt 0 size && Nat.blt 0 bytes
theorem slTy_of {P : Program} {t e size bytes : Nat} (h : slTyB P t e size bytes = true) : SlTy P t e size bytes := by
  simp only [slTyB, Bool.and_eq_true] at h
  obtain ⟨⟨⟨h1, h2⟩, h3⟩, h4⟩ := h
  refine ⟨?_, ?_, lt_of_blt h3, lt_of_blt h4⟩
  · split at h1
    · rename_i e' he; rw [he, Nat.eq_of_beq_eq_true h1]
    · cases h1
  · split at h2
    · rename_i i hi
      split at h2
      · rename_i z hz
        simp only [Bool.and_eq_true] at h2
        exact ⟨i, z, hi, hz, Nat.eq_of_beq_eq_true h2.1.1, Nat.eq_of_beq_eq_true h2.1.2, Nat.eq_of_beq_eq_true h2.2⟩
      · cases h2
    · cases h2
theorem oneTy_spec {P : Program} {T : TypeId} (h : oneTy P T = true) (w : World) : (isAgg T).run P w = .ok false w := by
  unfold oneTy at h
  unfold isAgg
  cases hu : P.underlying T with
  | none => rw [hu] at h; cases h
  | some d =>
    rw [Sem.run_bind, run_underlying hu w]
    cases d <;> simp_all
theorem rowTy_spec {P : Program} {T : TypeId} {n : Nat} (h : rowTy P T n = true) : (∃ d, P.underlying T = some d ∧ d.isRow = true) ∧ (P.info? T).map (·.size) = some n := by
  unfold rowTy at h
  simp only [Bool.and_eq_true] at h
  refine ⟨?_, sizeTy_spec h.2⟩
  cases hu : P.underlying T with
  | none => rw [hu] at h; exact absurd h.1 (by simp)
  | some d => rw [hu] at h; exact ⟨d, rfl, by cases d <;> first | rfl | (simp at h)⟩

section
variable {P : Program} {F : Fr} {s : AS} {d : Nat} {ty T T' : TypeId} {pos : String} {aft : Array Edge} {g : Option (Nat × Bool)} {x y c : Operand} {k k' : IntKind} {a b v : Int}

theorem st_move {A : AV} (hx : s.ev x = some A) (hd : Nat.blt d s.n = true) : Pstep P F ⟨some d, .move x, ty, pos, aft, g⟩ s d A :=
  step_val A hd fun _ act _ hs => ⟨act.eval x, by simp [execOp], hs.ev hx⟩
theorem st_assign {A : AV} (hx : s.ev x = some A) (hd : Nat.blt d s.n = true) : Pstep P F ⟨some d, .assign x, ty, pos, aft, g⟩ s d A :=
  step_val A hd fun _ act _ hs => ⟨act.eval x, by simp [execOp], hs.ev hx⟩
theorem st_pick {A B : AV} {t : Bool} (hc : s.ev c = some (.d (.raw (.bool t)))) (hx : s.ev x = some A) (hy : s.ev y = some B) (hd : Nat.blt d s.n = true) : Pstep P F ⟨some d, .pick c x y, ty, pos, aft, g⟩ s d (if t then A else B) :=
  step_val _ hd fun _ act _ hs => ⟨if t then act.eval x else act.eval y, by simp [execOp, hs.raw hc, asBool], by cases t <;> first | exact hs.ev hx | exact hs.ev hy⟩
theorem st_pickT {A : AV} {t : Bool} (hc : s.ev c = some (.d (.raw (.bool t)))) (ht : t = true) (hx : s.ev x = some A) (hd : Nat.blt d s.n = true) : Pstep P F ⟨some d, .pick c x y, ty, pos, aft, g⟩ s d A :=
  step_val _ hd fun _ act _ hs => ⟨act.eval x, by simp [execOp, hs.raw hc, asBool, ht], hs.ev hx⟩
theorem st_pickF {A : AV} {t : Bool} (hc : s.ev c = some (.d (.raw (.bool t)))) (ht : t = false) (hy : s.ev y = some A) (hd : Nat.blt d s.n = true) : Pstep P F ⟨some d, .pick c x y, ty, pos, aft, g⟩ s d A :=
  step_val _ hd fun _ act _ hs => ⟨act.eval y, by simp [execOp, hs.raw hc, asBool, ht], hs.ev hy⟩

theorem st_lss (hx : s.ev x = some (.d (.raw (.int k a)))) (hy : s.ev y = some (.d (.raw (.int k b)))) (hd : Nat.blt d s.n = true) : Pstep P F ⟨some d, .binOp .lss T x y T', ty, pos, aft, g⟩ s d (.d (.raw (.bool (decide (a < b))))) :=
  step_val _ hd fun _ act _ hs => ⟨_, by simp [execOp, eqGuard, binOp, Op.intCmp, hs.raw hx, hs.raw hy], .d (.raw rfl)⟩
theorem st_leq (hx : s.ev x = some (.d (.raw (.int k a)))) (hy : s.ev y = some (.d (.raw (.int k b)))) (hd : Nat.blt d s.n = true) : Pstep P F ⟨some d, .binOp .leq T x y T', ty, pos, aft, g⟩ s d (.d (.raw (.bool (decide (a ≤ b))))) :=
  step_val _ hd fun _ act _ hs => ⟨_, by simp [execOp, eqGuard, binOp, Op.intCmp, hs.raw hx, hs.raw hy], .d (.raw rfl)⟩
theorem st_gtr (hx : s.ev x = some (.d (.raw (.int k a)))) (hy : s.ev y = some (.d (.raw (.int k b)))) (hd : Nat.blt d s.n = true) : Pstep P F ⟨some d, .binOp .gtr T x y T', ty, pos, aft, g⟩ s d (.d (.raw (.bool (decide (b < a))))) :=
  step_val _ hd fun _ act _ hs => ⟨_, by simp [execOp, eqGuard, binOp, Op.intCmp, hs.raw hx, hs.raw hy], .d (.raw rfl)⟩
theorem st_geq (hx : s.ev x = some (.d (.raw (.int k a)))) (hy : s.ev y = some (.d (.raw (.int k b)))) (hd : Nat.blt d s.n = true) : Pstep P F ⟨some d, .binOp .geq T x y T', ty, pos, aft, g⟩ s d (.d (.raw (.bool (decide (b ≤ a))))) :=
  step_val _ hd fun _ act _ hs => ⟨_, by simp [execOp, eqGuard, binOp, Op.intCmp, hs.raw hx, hs.raw hy], .d (.raw rfl)⟩
theorem st_eql (hx : s.ev x = some (.d (.raw (.int k a)))) (hy : s.ev y = some (.d (.raw (.int k b)))) (hd : Nat.blt d s.n = true) : Pstep P F ⟨some d, .binOp .eql T x y T', ty, pos, aft, g⟩ s d (.d (.raw (.bool (decide (a = b))))) :=
  step_val _ hd fun _ act _ hs => ⟨.bool (a == b), by simp [execOp, eqGuard, binOp, Op.intCmp, hs.raw hx, hs.raw hy], .d (.raw rfl)⟩
theorem st_neq (hx : s.ev x = some (.d (.raw (.int k a)))) (hy : s.ev y = some (.d (.raw (.int k b)))) (hd : Nat.blt d s.n = true) : Pstep P F ⟨some d, .binOp .neq T x y T', ty, pos, aft, g⟩ s d (.d (.raw (.bool (decide (¬ a = b))))) :=
  step_val _ hd fun _ act _ hs => ⟨.bool (a != b), by simp [execOp, eqGuard, binOp, Op.intCmp, hs.raw hx, hs.raw hy], by
    rw [show (a != b) = decide (¬ a = b) by simp [bne]; rfl]; exact .d (.raw rfl)⟩
theorem st_add (hx : s.ev x = some (.d (.raw (.int k a)))) (hy : s.ev y = some (.d (.raw (.int k b)))) (hv : k.wrap (a + b) = v) (hd : Nat.blt d s.n = true) : Pstep P F ⟨some d, .binOp .add T x y T', ty, pos, aft, g⟩ s d (.d (.raw (.int k v))) :=
  step_val _ hd fun _ act _ hs => ⟨_, by simp [execOp, eqGuard, binOp, Op.intArith, hs.raw hx, hs.raw hy, hv], .d (.raw rfl)⟩
theorem st_sub (hx : s.ev x = some (.d (.raw (.int k a)))) (hy : s.ev y = some (.d (.raw (.int k b)))) (hv : k.wrap (a - b) = v) (hd : Nat.blt d s.n = true) : Pstep P F ⟨some d, .binOp .sub T x y T', ty, pos, aft, g⟩ s d (.d (.raw (.int k v))) :=
  step_val _ hd fun _ act _ hs => ⟨_, by simp [execOp, eqGuard, binOp, Op.intArith, hs.raw hx, hs.raw hy, hv], .d (.raw rfl)⟩
theorem st_mul (hx : s.ev x = some (.d (.raw (.int k a)))) (hy : s.ev y = some (.d (.raw (.int k b)))) (hv : k.wrap (a * b) = v) (hd : Nat.blt d s.n = true) : Pstep P F ⟨some d, .binOp .mul T x y T', ty, pos, aft, g⟩ s d (.d (.raw (.int k v))) :=
  step_val _ hd fun _ act _ hs => ⟨_, by simp [execOp, eqGuard, binOp, Op.intArith, hs.raw hx, hs.raw hy, hv], .d (.raw rfl)⟩
theorem st_quo (hx : s.ev x = some (.d (.raw (.int k a)))) (hy : s.ev y = some (.d (.raw (.int k b)))) (h0 : ¬ b = 0) (hv : k.wrap (a.tdiv b) = v) (hd : Nat.blt d s.n = true) : Pstep P F ⟨some d, .binOp .quo T x y T', ty, pos, aft, g⟩ s d (.d (.raw (.int k v))) :=
  step_val _ hd fun _ act _ hs => ⟨_, by simp [execOp, eqGuard, binOp, Op.intDiv, hs.raw hx, hs.raw hy, hv, h0], .d (.raw rfl)⟩
theorem st_rem (hx : s.ev x = some (.d (.raw (.int k a)))) (hy : s.ev y = some (.d (.raw (.int k b)))) (h0 : ¬ b = 0) (hv : a.tmod b = v) (hd : Nat.blt d s.n = true) : Pstep P F ⟨some d, .binOp .rem T x y T', ty, pos, aft, g⟩ s d (.d (.raw (.int k v))) :=
  step_val _ hd fun _ act _ hs => ⟨_, by simp [execOp, eqGuard, binOp, Op.intDiv, hs.raw hx, hs.raw hy, hv, h0], .d (.raw rfl)⟩
/-- Bits of integers, by name. -/
def bitsOf (op : BinOp) (k : IntKind) (x y : Int) : Int :=
  let a := BitVec.ofInt k.bits x
  let b := BitVec.ofInt k.bits y
  match op with
  | .and => k.wrap (a &&& b).toNat
  | .or => k.wrap (a ||| b).toNat
  | .xor => k.wrap (a ^^^ b).toNat
  | .andNot => k.wrap (a &&& ~~~b).toNat
  | _ => 0
def isBits : BinOp → Bool
  | .and => true
  | .or => true
  | .xor => true
  | .andNot => true
  | _ => false
theorem st_bits {op : BinOp} (hop : isBits op = true) (hx : s.ev x = some (.d (.raw (.int k a)))) (hy : s.ev y = some (.d (.raw (.int k b)))) (hv : bitsOf op k a b = v) (hd : Nat.blt d s.n = true) : Pstep P F ⟨some d, .binOp op T x y T', ty, pos, aft, g⟩ s d (.d (.raw (.int k v))) :=
  step_val _ hd fun _ act _ hs => ⟨.int k (bitsOf op k a b), by cases op <;> first | (exact absurd hop (by decide)) | (simp [execOp, eqGuard, binOp, Op.intBits, bitsOf, hs.raw hx, hs.raw hy]), by rw [hv]; exact .d (.raw rfl)⟩
theorem st_shl (hx : s.ev x = some (.d (.raw (.int k a)))) (hy : s.ev y = some (.d (.raw (.int k' b)))) (h0 : 0 ≤ b) (hv : k.wrap (a * 2 ^ (min b.toNat k.bits)) = v) (hd : Nat.blt d s.n = true) : Pstep P F ⟨some d, .binOp .shl T x y T', ty, pos, aft, g⟩ s d (.d (.raw (.int k v))) :=
  step_val _ hd fun _ act _ hs => ⟨_, by simp [execOp, eqGuard, binOp, Op.shift, hs.raw hx, hs.raw hy, hv, Int.not_lt.2 h0], .d (.raw rfl)⟩
theorem st_shr (hx : s.ev x = some (.d (.raw (.int k a)))) (hy : s.ev y = some (.d (.raw (.int k' b)))) (h0 : 0 ≤ b) (hv : a.fdiv (2 ^ (min b.toNat k.bits)) = v) (hd : Nat.blt d s.n = true) : Pstep P F ⟨some d, .binOp .shr T x y T', ty, pos, aft, g⟩ s d (.d (.raw (.int k v))) :=
  step_val _ hd fun _ act _ hs => ⟨_, by simp [execOp, eqGuard, binOp, Op.shift, hs.raw hx, hs.raw hy, hv, Int.not_lt.2 h0], .d (.raw rfl)⟩

theorem st_not {t : Bool} (hx : s.ev x = some (.d (.raw (.bool t)))) (hd : Nat.blt d s.n = true) : Pstep P F ⟨some d, .unOp .not T x, ty, pos, aft, g⟩ s d (.d (.raw (.bool (!t)))) :=
  step_val _ hd fun _ act _ hs => ⟨_, by simp [execOp, Op.unary, hs.raw hx], .d (.raw rfl)⟩
theorem st_eqlS {a b : ByteArray} (hx : s.ev x = some (.d (.raw (.string a)))) (hy : s.ev y = some (.d (.raw (.string b)))) (hd : Nat.blt d s.n = true) : Pstep P F ⟨some d, .binOp .eql T x y T', ty, pos, aft, g⟩ s d (.d (.raw (.bool (decide (a.toList = b.toList))))) :=
  step_val _ hd fun _ act _ hs => ⟨.bool (a.toList == b.toList), by simp [execOp, eqGuard, binOp, Op.stringOp, hs.raw hx, hs.raw hy], by
    rw [show (a.toList == b.toList) = decide (a.toList = b.toList) by rw [Bool.eq_iff_iff]; simp]; exact .d (.raw rfl)⟩
theorem st_neqS {a b : ByteArray} (hx : s.ev x = some (.d (.raw (.string a)))) (hy : s.ev y = some (.d (.raw (.string b)))) (hd : Nat.blt d s.n = true) : Pstep P F ⟨some d, .binOp .neq T x y T', ty, pos, aft, g⟩ s d (.d (.raw (.bool (decide (¬ a.toList = b.toList))))) :=
  step_val _ hd fun _ act _ hs => ⟨.bool !(a.toList == b.toList), by simp [execOp, eqGuard, binOp, Op.stringOp, hs.raw hx, hs.raw hy], by
    rw [show (!(a.toList == b.toList)) = decide (¬ a.toList = b.toList) by rw [Bool.eq_iff_iff]; simp]; exact .d (.raw rfl)⟩
theorem st_lssS {a b : ByteArray} (hx : s.ev x = some (.d (.raw (.string a)))) (hy : s.ev y = some (.d (.raw (.string b)))) (hd : Nat.blt d s.n = true) : Pstep P F ⟨some d, .binOp .lss T x y T', ty, pos, aft, g⟩ s d (.d (.raw (.bool (Op.bytesLess a.toList b.toList)))) :=
  step_val _ hd fun _ act _ hs => ⟨_, by simp [execOp, eqGuard, binOp, Op.stringOp, hs.raw hx, hs.raw hy], .d (.raw rfl)⟩
theorem st_eqlB {a b : Bool} (hT : P.underlying T = some .bool) (hx : s.ev x = some (.d (.raw (.bool a)))) (hy : s.ev y = some (.d (.raw (.bool b)))) (hd : Nat.blt d s.n = true) : Pstep P F ⟨some d, .binOp .eql T x y T', ty, pos, aft, g⟩ s d (.d (.raw (.bool (decide (a = b))))) :=
  step_val _ hd fun _ act _ hs => ⟨.bool (a == b), by simp [execOp, eqGuard, binOp, run_equal_bool _ T a b hT, hs.raw hx, hs.raw hy], by
    rw [show (a == b) = decide (a = b) by cases a <;> cases b <;> rfl]; exact .d (.raw rfl)⟩
theorem st_neqB {a b : Bool} (hT : P.underlying T = some .bool) (hx : s.ev x = some (.d (.raw (.bool a)))) (hy : s.ev y = some (.d (.raw (.bool b)))) (hd : Nat.blt d s.n = true) : Pstep P F ⟨some d, .binOp .neq T x y T', ty, pos, aft, g⟩ s d (.d (.raw (.bool (decide (¬ a = b))))) :=
  step_val _ hd fun _ act _ hs => ⟨.bool !(a == b), by simp [execOp, eqGuard, binOp, run_equal_bool _ T a b hT, hs.raw hx, hs.raw hy], by
    rw [show (!(a == b)) = decide (¬ a = b) by cases a <;> cases b <;> rfl]; exact .d (.raw rfl)⟩
theorem st_notP {p : Prop} [Decidable p] (hx : s.ev x = some (.d (.raw (.bool (decide p))))) (hd : Nat.blt d s.n = true) : Pstep P F ⟨some d, .unOp .not T x, ty, pos, aft, g⟩ s d (.d (.raw (.bool (decide (¬ p))))) :=
  step_val _ hd fun _ act _ hs => ⟨.bool (!decide p), by simp [execOp, Op.unary, hs.raw hx], by rw [show (!decide p) = decide (¬ p) by simp]; exact .d (.raw rfl)⟩
theorem st_notT (hx : s.ev x = some (.d (.raw (.bool true)))) (hd : Nat.blt d s.n = true) : Pstep P F ⟨some d, .unOp .not T x, ty, pos, aft, g⟩ s d (.d (.raw (.bool false))) := st_not hx hd
theorem st_notF (hx : s.ev x = some (.d (.raw (.bool false)))) (hd : Nat.blt d s.n = true) : Pstep P F ⟨some d, .unOp .not T x, ty, pos, aft, g⟩ s d (.d (.raw (.bool true))) := st_not hx hd
theorem st_neg (hx : s.ev x = some (.d (.raw (.int k a)))) (hv : k.wrap (0 - a) = v) (hd : Nat.blt d s.n = true) : Pstep P F ⟨some d, .unOp .neg T x, ty, pos, aft, g⟩ s d (.d (.raw (.int k v))) :=
  step_val _ hd fun _ act _ hs => ⟨.int k (k.wrap (0 - a)), by simp [execOp, Op.unary, Op.intArith, hs.raw hx], by rw [hv]; exact .d (.raw rfl)⟩
theorem st_conv {t : TypeId} (hx : s.ev x = some (.d (.raw (.int k a)))) (hT : P.underlying T = some (.int k)) (hT' : P.underlying t = some (.int k')) (hv : k'.wrap a = v) (hd : Nat.blt d s.n = true) : Pstep P F ⟨some d, .convert T t x, ty, pos, aft, g⟩ s d (.d (.raw (.int k' v))) :=
  step_val _ hd fun _ act _ hs => ⟨_, by simp [execOp, convert, run_underlying hT, run_underlying hT', Conv.intToInt, hs.raw hx, hv], .d (.raw rfl)⟩

theorem st_extract {l : List AV} {i : Nat} {A : AV} (hx : s.ev x = some (.tup l)) (hi : l[i]? = some A) (hd : Nat.blt d s.n = true) : Pstep P F ⟨some d, .extract x i, ty, pos, aft, g⟩ s d A :=
  step_val _ hd fun _ act w hs => by
    have h := hs.ev hx
    generalize hv : act.eval x = u at h
    cases h with
    | @tup _ vs hl h =>
      have hlt : i < vs.length := by rw [hl]; exact (List.getElem?_eq_some_iff.1 hi).1
      exact ⟨vs[i], by simp [execOp, Instr.extract, hv, hlt], h i A _ hi (List.getElem?_eq_getElem hlt)⟩
theorem st_extractD {l : List D} {i : Nat} {A : D} (hx : s.ev x = some (.d (.tup l))) (hi : l[i]? = some A) (hd : Nat.blt d s.n = true) : Pstep P F ⟨some d, .extract x i, ty, pos, aft, g⟩ s d (.d A) :=
  step_val _ hd fun _ act w hs => by
    have h := hs.repD hx
    generalize hv : act.eval x = u at h
    cases h with
    | @tup _ vs hl h =>
      have hlt : i < vs.length := by rw [hl]; exact (List.getElem?_eq_some_iff.1 hi).1
      exact ⟨vs[i], by simp [execOp, Instr.extract, hv, hlt], .d (h i A _ hi (List.getElem?_eq_getElem hlt))⟩
end

end Go.Proofs.Ytnflcmpdaoobcaa
