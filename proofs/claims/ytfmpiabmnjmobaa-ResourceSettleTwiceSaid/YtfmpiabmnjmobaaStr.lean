/- Structs of numbers and strings: equality, as keys. No program in sight. -/
import Derived.Test.YtfmpiabmnjmobaaMapA
namespace Go.Proofs.Ytfmpiabmnjmobaa
open Go.RowKit

/-- The cells of a type of plain cells alone; none if there are others. -/
def flatFs (rec : TypeId → Option (List TypeDesc)) : Nat → List Field → Option (List TypeDesc)
  | _, [] => some []
  | off, f :: fs => match rec f.type with
    | none => none
    | some ds => match flatFs rec (off + ds.length) fs with
      | none => none
      | some r => match Nat.beq f.offset off && f.name != "_" with
        | true => some (ds ++ r)
        | false => none
def flatTy (P : Program) : Nat → TypeId → Option (List TypeDesc)
  | 0, _ => none
  | m + 1, T => match P.underlying T with
    | some (.int k) => some [.int k]
    | some .string => some [.string]
    | some .bool => some [.bool]
    | some (.struct fs) => match flatFs (flatTy P m) 0 fs.toList with
      | none => none
      | some ds => match sizeTy P T ds.length && !P.stoodInHeld T with
        | true => some ds
        | false => none
    | _ => none
def PlainAre (ds : List TypeDesc) (us : List Value) : Prop := us.length = ds.length ∧ ∀ (i : Nat) d u, ds[i]? = some d → us[i]? = some u → MapKept.IsKey d u
def isStr (P : Program) (T : TypeId) : Bool := match P.underlying T with
  | some (.struct _) => true
  | _ => false
def mkV (P : Program) (T : TypeId) (us : List Value) : Value := match isStr P T with
  | true => .agg us.toArray
  | false => us.headD undef
def eqCell : Value → Value → Bool
  | .int _ a, .int _ b => a == b
  | .string a, .string b => a.toList == b.toList
  | .bool a, .bool b => a == b
  | _, _ => false
def eqCells : List Value → List Value → Bool
  | [], [] => true
  | a :: r, b :: s => eqCell a b && eqCells r s
  | _, _ => false
theorem eqCells_append {a a' b b' : List Value} (h : a.length = b.length) : eqCells (a ++ a') (b ++ b') = (eqCells a b && eqCells a' b') := by
  induction a generalizing b with
  | nil =>
    cases b with
    | nil => simp [eqCells]
    | cons _ _ => simp at h
  | cons x r ih =>
    cases b with
    | nil => simp at h
    | cons y s => simp only [List.cons_append, eqCells, ih (show r.length = s.length by simpa using h), Bool.and_assoc]
theorem PlainAre.split {ds ds' : List TypeDesc} {us : List Value} (h : PlainAre (ds ++ ds') us) : PlainAre ds (us.take ds.length) ∧ PlainAre ds' (us.drop ds.length) := by
  obtain ⟨h1, h2⟩ := h
  rw [List.length_append] at h1
  refine ⟨⟨by simp; omega, fun i d u hd hu => ?_⟩, ⟨by simp; omega, fun i d u hd hu => ?_⟩⟩
  · have hi : i < ds.length := (List.getElem?_eq_some_iff.1 hd).1
    rw [List.getElem?_take_of_lt hi] at hu
    exact h2 i d u (by rw [List.getElem?_append_left hi]; exact hd) hu
  · rw [List.getElem?_drop] at hu
    refine h2 (ds.length + i) d u ?_ hu
    rw [List.getElem?_append_right (by omega), show ds.length + i - ds.length = i by omega]; exact hd

section
variable {P : Program}
theorem flatTy_one {m : Nat} {T : TypeId} {ds : List TypeDesc} (h : flatTy P m T = some ds) (hs : isStr P T = false) : ∃ d, ds = [d] ∧ P.underlying T = some d ∧ ((∃ k, d = .int k) ∨ d = .string ∨ d = .bool) := by
  cases m with
  | zero => cases h
  | succ m =>
    unfold flatTy at h
    unfold isStr at hs
    split at h
    · rename_i k hk; injection h with h; subst h; exact ⟨_, rfl, hk, .inl ⟨k, rfl⟩⟩
    · rename_i hk; injection h with h; subst h; exact ⟨_, rfl, hk, .inr (.inl rfl)⟩
    · rename_i hk; injection h with h; subst h; exact ⟨_, rfl, hk, .inr (.inr rfl)⟩
    · rename_i fs hk; rw [hk] at hs; cases hs
    · cases h
theorem flatTy_str {m : Nat} {T : TypeId} {ds : List TypeDesc} (h : flatTy P m T = some ds) (hs : isStr P T = true) : ∃ m' fs, m = m' + 1 ∧ P.underlying T = some (.struct fs) ∧ flatFs (flatTy P m') 0 fs.toList = some ds ∧ sizeTy P T ds.length = true ∧ P.stoodInHeld T = false := by
  cases m with
  | zero => cases h
  | succ m =>
    unfold flatTy at h
    unfold isStr at hs
    split at h
    · rename_i k hk; rw [hk] at hs; cases hs
    · rename_i hk; rw [hk] at hs; cases hs
    · rename_i hk; rw [hk] at hs; cases hs
    · rename_i fs hk
      split at h
      · cases h
      · rename_i ds' hds
        split at h
        · rename_i hb
          injection h with h; subst h
          simp only [Bool.and_eq_true, Bool.not_eq_true'] at hb
          exact ⟨m, fs, rfl, hk, hds, hb.1, hb.2⟩
        · cases h
    · cases h
/-- A field's part. -/
theorem run_part_flat {m : Nat} {T : TypeId} {ds : List TypeDesc} (h : flatTy P m T = some ds) (w : World) (us : List Value) (off : Nat) (hl : off + ds.length ≤ us.length) : (part T us.toArray off).run P w = .ok (mkV P T ((us.drop off).take ds.length)) w := by
  cases hs : isStr P T with
  | false =>
    obtain ⟨d, rfl, hd, hk⟩ := flatTy_one h hs
    have ha : (isAgg T).run P w = .ok false w := by
      rcases hk with ⟨k, rfl⟩ | rfl | rfl <;> simp [isAgg, run_underlying hd, Result.andThen]
    have hlt : off < us.length := by simp at hl; omega
    simp only [part, Sem.run_bind, ha, Result.andThen_ok, Bool.false_eq_true, if_false, mkV, hs]
    rw [List.getElem?_toArray, List.getElem?_eq_getElem hlt]
    simp only [Sem.run_pure, List.length_cons, List.length_nil]
    rw [List.drop_eq_getElem_cons hlt]; rfl
  | true =>
    obtain ⟨m', fs, rfl, hd, _, hz, _⟩ := flatTy_str h hs
    have ha : (isAgg T).run P w = .ok true w := by simp [isAgg, run_underlying hd, Result.andThen]
    have hz' := run_sizeOf (P := P) (sizeTy_spec hz) w
    simp only [part, Sem.run_bind, ha, Result.andThen_ok, if_true, hz', Sem.run_pure, mkV, hs]
    congr 2
    apply Array.ext'
    simp [List.drop_take]
theorem equalIn_flat : ∀ (m : Nat) (T : TypeId) (ds : List TypeDesc), flatTy P m T = some ds → ∀ (d : Nat) (us vs : List Value), PlainAre ds us → PlainAre ds vs → ∀ w, (Op.equalIn (d + m) T (mkV P T us) (mkV P T vs)).run P w = .ok (eqCells us vs) w
  | 0, _, _, h => by cases h
  | m + 1, T, ds, h => fun d us vs hu hv w => by
    cases hs : isStr P T with
    | false =>
      obtain ⟨d', rfl, hd, hk⟩ := flatTy_one h hs
      obtain ⟨u, rfl⟩ := List.length_eq_one_iff.1 hu.1
      obtain ⟨v, rfl⟩ := List.length_eq_one_iff.1 hv.1
      have k1 := hu.2 0 d' u rfl rfl
      have k2 := hv.2 0 d' v rfl rfl
      simp only [mkV, hs, List.headD_cons, eqCells, Bool.and_true]
      rcases hk with ⟨k, rfl⟩ | rfl | rfl
      · cases u <;> cases v <;> simp only [MapKept.IsKey] at k1 k2
        subst k1 k2
        exact run_equalIn_int w (d + m) T _ _ _ _ hd
      · cases u <;> cases v <;> simp only [MapKept.IsKey] at k1 k2
        exact run_equalIn_string w (d + m) T _ _ hd
      · cases u <;> cases v <;> simp only [MapKept.IsKey] at k1 k2
        exact run_equalIn_bool' w (d + m) T _ _ hd
    | true =>
      obtain ⟨m', fs, hm, hd, hfl, hz, hst⟩ := flatTy_str h hs
      injection hm with hm; subst hm
      have hf : P.fieldsOf T = fs := by simp [Program.fieldsOf, hd]
      simp only [mkV, hs]
      rw [← Nat.add_assoc, run_equalIn_struct w (d + m) T _ _ (by rw [hf]; exact hd) hst, hf]
      -- along the fields
      have key : ∀ (fs : List Field) (off : Nat) (ds : List TypeDesc) (us vs : List Value), flatFs (flatTy P m) off fs = some ds → PlainAre ds (us.drop off) → PlainAre ds (vs.drop off) → off ≤ us.length → off ≤ vs.length → (Op.eqFields (d + m) us.toArray vs.toArray fs).run P w = .ok (eqCells (us.drop off) (vs.drop off)) w := by
        intro fs
        induction fs with
        | nil =>
          intro off ds us vs h hu hv _ _
          simp only [flatFs, Option.some.injEq] at h; subst h
          rw [List.eq_nil_of_length_eq_zero hu.1, List.eq_nil_of_length_eq_zero hv.1]; rfl
        | cons f fs ih =>
          intro off ds us vs h hu hv hou hov
          simp only [flatFs] at h
          split at h
          · cases h
          · rename_i d1 h1
            split at h
            · cases h
            · rename_i r hr
              split at h
              · rename_i hb
                injection h with h; subst h
                simp only [Bool.and_eq_true] at hb
                have hoff := Nat.eq_of_beq_eq_true hb.1
                have hname : f.name ≠ "_" := by simpa using hb.2
                have lu := hu.1; have lv := hv.1
                rw [List.length_append, List.length_drop] at lu lv
                have hl1 : off + d1.length ≤ us.length := by omega
                have hl2 : off + d1.length ≤ vs.length := by omega
                obtain ⟨u1, u2⟩ := hu.split
                obtain ⟨v1, v2⟩ := hv.split
                rw [List.drop_drop] at u2 v2
                have e1 := run_part_flat h1 w us off hl1
                have e2 := run_part_flat h1 w vs off hl2
                have e3 := equalIn_flat m f.type d1 h1 d _ _ u1 v1 w
                have e4 := ih (off + d1.length) r us vs hr u2 v2 hl1 hl2
                simp only [Op.eqFields, hname, ne_eq, not_false_eq_true, if_true, hoff, Sem.run_bind, e1, e2, e3, Result.andThen_ok]
                have hsplit : eqCells (us.drop off) (vs.drop off) = (eqCells ((us.drop off).take d1.length) ((vs.drop off).take d1.length) && eqCells (us.drop (off + d1.length)) (vs.drop (off + d1.length))) := by
                  rw [← List.drop_drop, ← List.drop_drop, ← eqCells_append (by simp; omega), List.take_append_drop, List.take_append_drop]
                rw [hsplit]
                cases hc : eqCells ((us.drop off).take d1.length) ((vs.drop off).take d1.length) with
                | false => simp
                | true => simp only [Bool.not_true, Bool.false_eq_true, if_false, Bool.true_and]; exact e4
              · cases h
      have := key fs.toList 0 ds us vs hfl (by simpa using hu) (by simpa using hv) (Nat.zero_le _) (Nat.zero_le _)
      simpa using this
theorem checkKey_flat (em : Bool) : ∀ (m : Nat) (T : TypeId) (ds : List TypeDesc), flatTy P m T = some ds → ∀ (d : Nat) (us : List Value), PlainAre ds us → ∀ w, (Instr.checkKey em (d + m) T (mkV P T us)).run P w = .ok () w
  | 0, _, _, h => by cases h
  | m + 1, T, ds, h => fun d us hu w => by
    cases hs : isStr P T with
    | false =>
      obtain ⟨d', rfl, hd, hk⟩ := flatTy_one h hs
      obtain ⟨u, rfl⟩ := List.length_eq_one_iff.1 hu.1
      have k1 := hu.2 0 d' u rfl rfl
      simp only [mkV, hs, List.headD_cons]
      exact MapKept.run_checkKey hd k1 em (d + m)
    | true =>
      obtain ⟨m', fs, hm, hd, hfl, hz, hst⟩ := flatTy_str h hs
      injection hm with hm; subst hm
      simp only [mkV, hs]
      rw [← Nat.add_assoc]
      simp only [Instr.checkKey, Sem.run_bind, run_underlying hd, Result.andThen_ok]
      rw [← Array.forIn_toList]
      have h0 : PlainAre ds (us.drop 0) := by simpa using hu
      have hou : 0 ≤ us.length := Nat.zero_le _
      clear h hs hz hu hd hst
      generalize fs.toList = fl at hfl ⊢
      generalize (0 : Nat) = off at hfl h0 hou
      induction fl generalizing off ds with
      | nil => rfl
      | cons f fl ih =>
        simp only [flatFs] at hfl
        split at hfl
        · cases hfl
        · rename_i d1 h1
          split at hfl
          · cases hfl
          · rename_i r hr
            split at hfl
            · rename_i hb
              injection hfl with hfl; subst hfl
              simp only [Bool.and_eq_true] at hb
              have hoff := Nat.eq_of_beq_eq_true hb.1
              have hname : f.name ≠ "_" := by simpa using hb.2
              have lu := h0.1
              rw [List.length_append, List.length_drop] at lu
              have hl1 : off + d1.length ≤ us.length := by omega
              obtain ⟨u1, u2⟩ := h0.split
              rw [List.drop_drop] at u2
              have e1 := run_part_flat h1 w us off hl1
              have e3 := checkKey_flat em m f.type d1 h1 d _ u1 w
              have e4 := ih r (off + d1.length) hr u2 hl1
              rw [List.forIn_cons]
              simp only [hname, ne_eq, not_false_eq_true, if_true, hoff, Sem.run_bind, e1, e3, Result.andThen_ok, Sem.run_pure] at e4 ⊢
              exact e4
            · cases hfl
theorem sameBits_plain {d : TypeDesc} {u : Value} (h : MapKept.IsKey d u) (n : Nat) : Instr.sameBits n u u = true := by
  cases d <;> cases u <;> simp only [MapKept.IsKey] at h <;> cases n <;> simp [Instr.sameBits] <;> exact (beq_toListBytes _ _).trans (by simp)
theorem stays_flat {m : Nat} {T : TypeId} {ds : List TypeDesc} (h : flatTy P m T = some ds) {us : List Value} (hu : PlainAre ds us) (w : World) : (Instr.keyThatStays (mkV P T us) (mkV P T us)).run P w = .ok (mkV P T us) w := by
  have : Instr.sameBits 10000 (mkV P T us) (mkV P T us) = true := by
    cases hs : isStr P T with
    | false =>
      obtain ⟨d', rfl, hd, hk⟩ := flatTy_one h hs
      obtain ⟨u, rfl⟩ := List.length_eq_one_iff.1 hu.1
      simp only [mkV, hs, List.headD_cons]
      exact sameBits_plain (hu.2 0 d' u rfl rfl) _
    | true =>
      simp only [mkV, hs]
      show Instr.sameBits (9999 + 1) _ _ = true
      simp only [Instr.sameBits, beq_self_eq_true, Bool.true_and, List.all_eq_true]
      intro p hp
      obtain ⟨i, hi, e⟩ := List.getElem_of_mem hp
      rw [List.getElem_zip] at e
      rw [← e]
      simp only
      have hi' : i < us.length := by simpa using hi
      have hd : i < ds.length := by rw [← hu.1]; exact hi'
      exact sameBits_plain (hu.2 i ds[i] us[i] (List.getElem?_eq_getElem hd) (List.getElem?_eq_getElem hi')) _
  simp [Instr.keyThatStays, this]
/-- Keys that are structs of plain cells. -/
theorem KeyTy.flat {α : Type} [DecidableEq α] {K : TypeId} {eK : α → D} {cl : α → List Value} {ds : List TypeDesc} (hf : flatTy P 8 K = some ds) (hs : isStr P K = true) (hv : ∀ a, (eK a).val? = some (.agg (cl a).toArray)) (hp : ∀ a, PlainAre ds (cl a)) (he : ∀ a b, eqCells (cl a) (cl b) = decide (a = b)) : KeyTy P K eK fun a => .agg (cl a).toArray := by
  have hm : ∀ a, mkV P K (cl a) = .agg (cl a).toArray := fun a => by simp only [mkV, hs]
  obtain ⟨m', fs, _, hd, _⟩ := flatTy_str hf hs
  refine KeyTy.asking hd hv (fun w em a => ?_) (fun w a b => ?_) (fun a b => by simp [Instr.sameNow]) (fun w a => ?_)
  · have := checkKey_flat em 8 K ds hf 9992 (cl a) (hp a) w
    rwa [hm] at this
  · have := equalIn_flat 8 K ds hf 9992 (cl a) (cl b) (hp a) (hp b) w
    rw [hm, hm, he] at this
    exact this
  · have := stays_flat hf (hp a) w
    rwa [hm] at this
end

theorem less_swap : ∀ a b : List UInt8, Op.bytesLess b a = (!Op.bytesLess a b && !a == b)
  | [], [] => rfl
  | [], _ :: _ => rfl
  | _ :: _, [] => rfl
  | x :: a, y :: b => by
    have ih := less_swap a b
    rcases Nat.lt_trichotomy x.toNat y.toNat with h | h | h
    · have h1 : x < y := UInt8.lt_iff_toNat_lt.2 h
      have h2 : ¬ y < x := fun h' => by have := UInt8.lt_iff_toNat_lt.1 h'; omega
      have h3 : y ≠ x := fun e => by subst e; omega
      simp [Op.bytesLess, h1, h2, h3]
    · have h1 : x = y := UInt8.toNat_inj.1 h
      subst h1
      have h2 : ¬ x < x := fun h' => by have := UInt8.lt_iff_toNat_lt.1 h'; omega
      simp [Op.bytesLess, h2, ih]
    · have h1 : y < x := UInt8.lt_iff_toNat_lt.2 h
      have h2 : ¬ x < y := fun h' => by have := UInt8.lt_iff_toNat_lt.1 h'; omega
      have h3 : x ≠ y := fun e => by subst e; omega
      simp [Op.bytesLess, h1, h2, h3]
section
variable {P : Program} {F : Fr} {s : AS} {d : Nat} {ty T T' : TypeId} {pos : String} {aft : Array Edge} {g : Option (Nat × Bool)} {x y : Operand}
theorem st_gtrS {a b : ByteArray} (hx : s.ev x = some (.d (.raw (.string a)))) (hy : s.ev y = some (.d (.raw (.string b)))) (hd : Nat.blt d s.n = true) : Pstep P F ⟨some d, .binOp .gtr T x y T', ty, pos, aft, g⟩ s d (.d (.raw (.bool (Op.bytesLess b.toList a.toList)))) :=
  step_val _ hd fun _ act _ hs => ⟨.bool (Op.bytesLess b.toList a.toList), by simp [execOp, eqGuard, binOp, Op.stringOp, hs.raw hx, hs.raw hy, less_swap a.toList b.toList], .d (.raw rfl)⟩
/-- a == b at structs. -/
theorem st_eqlSt {a b : D} {la lb : List Value} {ds : List TypeDesc} {t : Bool} (hf : flatTy P 8 T = some ds) (hs : isStr P T = true) (hg : P.eqGuardType P.depth T = false) (hx : s.ev x = some (.d a)) (hy : s.ev y = some (.d b)) (ha : a.val? = some (.agg la.toArray)) (hb : b.val? = some (.agg lb.toArray)) (p1 : PlainAre ds la) (p2 : PlainAre ds lb) (ht : eqCells la lb = t) (hd : Nat.blt d s.n = true) :
    Pstep P F ⟨some d, .binOp .eql T x y T', ty, pos, aft, g⟩ s d (.d (.raw (.bool t))) :=
  step_val _ hd fun ρ act w hs' => by
    have e1 := (hs'.repD hx).val ha
    have e2 := (hs'.repD hy).val hb
    have := equalIn_flat 8 T ds hf 9992 la lb p1 p2 w
    simp only [mkV, hs, ht] at this
    exact ⟨.bool t, by simp [execOp, e1, e2, run_eqGuard_agg w .eql T x y _ _ hg, run_eql_struct, this, Result.andThen], .d (.raw rfl)⟩
theorem st_neqSt {a b : D} {la lb : List Value} {ds : List TypeDesc} {t : Bool} (hf : flatTy P 8 T = some ds) (hs : isStr P T = true) (hg : P.eqGuardType P.depth T = false) (hx : s.ev x = some (.d a)) (hy : s.ev y = some (.d b)) (ha : a.val? = some (.agg la.toArray)) (hb : b.val? = some (.agg lb.toArray)) (p1 : PlainAre ds la) (p2 : PlainAre ds lb) (ht : (!eqCells la lb) = t) (hd : Nat.blt d s.n = true) :
    Pstep P F ⟨some d, .binOp .neq T x y T', ty, pos, aft, g⟩ s d (.d (.raw (.bool t))) :=
  step_val _ hd fun ρ act w hs' => by
    have e1 := (hs'.repD hx).val ha
    have e2 := (hs'.repD hy).val hb
    have := equalIn_flat 8 T ds hf 9992 la lb p1 p2 w
    simp only [mkV, hs] at this
    exact ⟨.bool t, by simp [execOp, e1, e2, run_eqGuard_agg w .neq T x y _ _ hg, run_neq_struct, this, ht, Result.andThen], .d (.raw rfl)⟩
end
end Go.Proofs.Ytfmpiabmnjmobaa

