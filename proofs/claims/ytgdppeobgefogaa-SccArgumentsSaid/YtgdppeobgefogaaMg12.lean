/- Rows of a region: their tails, stores, clearing, sorting; a row's tail is forgotten. No program in sight. -/
import Derived.Test.YtgdppeobgefogaaMg11
import Derived.Lib.SliceRun
namespace Go.Proofs.Ytgdppeobgefogaa
open Go.RowKit
section
variable {P : Program} {F : Fr} {s : AS} {d : Nat} {x y lo : Operand} {T E : TypeId} {ty : TypeId} {pos : String} {aft : Array Edge} {g : Option (Nat × Bool)} {k : IntKind} {i : Int}
theorem st_sliceLoN {b n cap : Nat} (l : Nat) {kl : IntKind} {il : Int} (hx : s.ev x = some (.d (.raw (sV b n cap)))) (hlo : s.ev lo = some (.d (.raw (.int kl il)))) (hl : il = (l : Int)) (h1 : l ≤ n) (h2 : l < cap) (hT : P.underlying T = some (.slice E)) (hE : sizeTy P E 1 = true) (hd : Nat.blt d s.n = true) :
    Zab P F ⟨some d, .slice T x (some lo) none none, ty, pos, aft, g⟩ s d (.d (.raw (.slice (some ⟨b, l, none⟩) (n - l) (cap - l)))) :=
  ZaN _ hd fun _ act w hs => by
    have e := hs.raw hx;subst hl;refine ⟨.slice (if cap = l then some ⟨b, 0, none⟩ else (some (⟨b, 0, none⟩ : Addr)).map (·.add (l * 1))) (n - l) (cap - l), by simp only [execOp, e, Option.map_some, Option.map_none, hs.raw hlo, Sem.run_bind, run_slice_lo hT (ZbR hE) h1, Result.andThen_ok, Sem.run_pure], ?_⟩;rw [if_neg (by omega), Option.map_some, Addr.add_mid, Nat.mul_one, Nat.zero_add];exact .d (.raw rfl)
theorem st_sliceHiR {b n cap : Nat} (h : Nat) {kh : IntKind} {ih : Int} (hx : s.ev x = some (.d (.raw (sV b n cap)))) (hhi : s.ev lo = some (.d (.raw (.int kh ih)))) (hh : ih = (h : Int)) (h2 : h ≤ cap) (hT : P.underlying T = some (.slice E)) (hE : sizeTy P E 1 = true) (hd : Nat.blt d s.n = true) :
    Zab P F ⟨some d, .slice T x none (some lo) none, ty, pos, aft, g⟩ s d (.d (.raw (sV b h cap))) :=
  ZaN _ hd fun _ act w hs => by
    have e := hs.raw hx;subst hh;refine ⟨.slice (if cap = 0 then some ⟨b, 0, none⟩ else (some (⟨b, 0, none⟩ : Addr)).map (·.add (0 * 1))) (h - 0) (cap - 0), by simp only [execOp, e, Option.map_some, Option.map_none, hs.raw hhi, Sem.run_bind, run_slice_hi hT (ZbR hE) h2, Result.andThen_ok, Sem.run_pure], ?_⟩
    have : Value.slice (if cap = 0 then some ⟨b, 0, none⟩ else (some (⟨b, 0, none⟩ : Addr)).map (·.add (0 * 1))) (h - 0) (cap - 0) = sV b h cap := by
      split <;> simp [Addr.add]
    rw [this];exact .d (.raw rfl)
theorem st_indexT {b o n cap : Nat} (m : Nat) (hx : s.ev x = some (.d (.raw (.slice (some ⟨b, o, none⟩) n cap)))) (hy : s.ev y = some (.d (.raw (.int k i)))) (hi : i = (m : Int)) (hm : m < n) (hT : P.underlying T = some (.slice E)) (hE : sizeTy P E 1 = true) (hd : Nat.blt d s.n = true) :
    Zab P F ⟨some d, .indexAddr T x y, ty, pos, aft, g⟩ s d (.d (pD b (o + m))) :=
  ZaN _ hd fun ρ act w hs => by
    have hrx := hs.raw hx;subst hi;exact ⟨pV b (o + m), by simp [execOp, Instr.indexAt, asIntOf, hs.raw hy, hrx, run_underlying hT, hm, Zca (ZbR hE), Addr.add_mid], .d (.raw rfl)⟩
end
theorem one_cells {z : D} (h : z.one = true) : z.cells = [z] := by
  cases z with
  | agg cs => simp [D.one] at h
  | _ => rfl
theorem SR.setRN {F : Fr} {s : AS} {ρ : Nat → Nat → Value} {act : Act} {w : World} (hs : SR F s ρ act w) {f b : Nat} {M : MF} {t : TypeId} {cap : Nat} {xs zs : List D} {us' : List Value} {hp' : Hp} (hM : hfam s.hp f = some [.multi M]) (hb : M b = some (.row t 1 cap xs)) (k : Nat) (hk : k + zs.length ≤ xs.length) (hzu : us'.length = zs.length)
    (hr : ∀ (j : Nat) z u, zs[j]? = some z → us'[j]? = some u → z.one = true ∧ u.oneCell' = true ∧ RepD w (F.O ρ s.hp) z u) (h1x : ∀ x ∈ xs, x.one = true)
    (hh : hmul? s.hp f (Zbn M b (.row t 1 cap (setL xs k zs))) = some hp') : SR F ⟨s.n, s.env, hp'⟩ ρ act (w.setCells b k us') := by
  obtain ⟨hρ, us, q1, q2, q3⟩ := hs.rowN hM hb;obtain ⟨g1, g2, g3, g4⟩ := Zce (b := b) us' k w;refine hs.writeN f b hM hb hh g1 g2 g3 g4 (fun b' hb' => ZbZ _ _ _ _ hb') hρ (fun hrep => ?_) (Nat.le_of_eq (setCells_drawn _ _ _ _).symm)
  have hrepD : ∀ (c : D) u, RepD w (F.O ρ s.hp) c u → RepD (w.setCells b k us') (F.O ρ hp') c u := fun c u h => by
    have := hrep (.d c) u (.d h)
    cases this with | d h => exact h
  have hul : us.length = xs.length := by have := q2.1; rwa [Nat.mul_one] at this
  have hone : ∀ z ∈ setL xs k zs, z.one = true := fun z hz => by
    obtain ⟨j, hj, rfl⟩ := List.getElem_of_mem hz;have hj2 := List.getElem?_eq_getElem hj;rw [Zcd _ _ _ (by omega)] at hj2
    split at hj2
    · have hlt := (List.getElem?_eq_some_iff.1 hj2).1;exact (hr _ _ _ hj2 (List.getElem?_eq_getElem (by omega))).1
    · exact h1x _ (List.mem_of_getElem? hj2)
  have hlen : (setL xs k zs).length = xs.length := ZbB _ _ _;rcases q1.2 with ⟨e, _⟩ | ⟨b', cap', cur, e1, e0, e2, e3, e4, e5, e6⟩
  · cases e
  · injection e1 with e1 _ e8
    injection e1 with e1
    injection e1 with e1
    subst e1 e8;rw [Nat.mul_one] at e6;have hcl : us.length ≤ cur.toList.length := by rw [← e6, List.length_take]; omega
    have e2' : w.heap[b]? = some (.cells cur.toList.toArray t (0, 0)) := by simpa using e2
    refine ⟨hρ, setL us k us', ⟨by rw [ZbB, hlen, hul, Nat.mul_one], .inr ⟨b, cap, (setL cur.toList k us').toArray, by rw [hlen], e0, by simpa using Zb0 (fr := (0, 0)) us' cur.toList k w e2', by rw [hlen]; exact e3, e4, by simp [ZbB, e5], ?_⟩⟩, ⟨by rw [ZbB, hlen, hul, Nat.mul_one], fun z hz => by rw [one_cells (hone z hz)]; rfl, fun j z hj q c hc => ?_⟩, fun z hz c hc => by rw [one_cells (hone z hz), List.mem_singleton] at hc; rw [hc]; exact hone z hz⟩
    · rw [hlen, Nat.mul_one];show (setL cur.toList k us').take xs.length = _;rw [← hul, setL_take _ _ _ _ (by omega) hcl, hul, e6]
    · have hzo := hone z (List.mem_of_getElem? hj);rw [one_cells hzo] at hc
      cases q with
      | succ q => cases hc
      | zero =>
        injection hc with hc
        subst hc;rw [Nat.mul_one, Nat.add_zero];rw [Zcd _ _ _ (by omega)] at hj;rw [Zcd _ _ _ (by omega), hzu]
        by_cases e : k ≤ j ∧ j < k + zs.length
        · rw [if_pos e] at hj ⊢;have hlt := (List.getElem?_eq_some_iff.1 hj).1;have hu := List.getElem?_eq_getElem (l := us') (i := j - k) (by omega);obtain ⟨_, h2, h3⟩ := hr _ _ _ hj hu;exact ⟨_, hu, h2, hrepD _ _ h3⟩
        · rw [if_neg e] at hj ⊢;obtain ⟨u, d1, d2, d3⟩ := q2.2.2 j z hj 0 z (by rw [one_cells hzo]; rfl);rw [Nat.mul_one, Nat.add_zero] at d1;exact ⟨u, d1, d2, hrepD _ _ d3⟩
section
variable {P : Program} {F : Fr} {d : Nat} {x y lo : Operand} {T E : TypeId} {ty : TypeId} {pos : String} {aft : Array Edge} {g : Option (Nat × Bool)} {k : IntKind} {i : Int}
theorem st_storeRN {n : Nat} {env : List (Nat × AV)} {hp hp' : Hp} {f b off cap : Nat} {M : MF} {t : TypeId} {xs : List D} {v : D} (hx : AS.ev ⟨n, env, hp⟩ x = some (.d (pD b off))) (hy : AS.ev ⟨n, env, hp⟩ y = some (.d v)) (hv : v.one = true) (hM : hfam hp f = some [.multi M]) (hb : M b = some (.row t 1 cap xs)) (hoff : off < xs.length) (h1x : ∀ x ∈ xs, x.one = true)
    (hh : hmul? hp f (Zbn M b (.row t 1 cap (setL xs off [v]))) = some hp') (hT : sizeTy P T 1 = true) : Zap P F ⟨none, .store T x y, ty, pos, aft, g⟩ ⟨n, env, hp⟩ ⟨n, env, hp'⟩ (fun _ _ => true) := fun ρ act w hs => by
  have hrx := hs.raw hx;have hry := hs.repD hy;obtain ⟨hρ, us, q1, q2, q3⟩ := hs.rowN hM hb
  generalize hvy : act.eval y = vy at hry
  have hone := hry.oneCell hv;have hcl : vy.cells.toList = [vy] := by cases vy <;> first | rfl | cases hone
  rcases q1.2 with ⟨e, _⟩ | ⟨b', cap', cur, e1, e0, e2, e3, e4, e5, e6⟩
  · cases e
  · injection e1 with e1 _ e8
    injection e1 with e1
    injection e1 with e1
    subst e1 e8;have hrun := run_store_own (P := P) (T := T) (o := off) (v := vy) (us := cur.toList) (by simpa using e2) (by rw [hcl]; exact ZbR hT) (by rw [hcl]; simp only [List.length_singleton, Array.length_toList]; omega) (by rw [hcl]; intro u hu; rw [List.mem_singleton.1 hu]; exact hone)
    have hex : (execOp act.eval ⟨none, .store T x y, ty, pos, aft, g⟩).run P w = .ok .skip (w.setCells b off vy.cells.toList) := by
      simp [execOp, hrx, hvy, hrun]
    unfold Oper.wp;rw [hex, hcl];refine ⟨ρ, hs.setRN hM hb off (by simp only [List.length_singleton]; omega) rfl (fun j z u hj hu => ?_) h1x hh, fun _ _ _ => rfl⟩
    match j, hj, hu with
    | 0, hj, hu =>
      injection hj with hj; injection hu with hu
      subst hj hu;exact ⟨hv, hone, hry⟩
theorem st_clearT {n : Nat} {env : List (Nat × AV)} {hp hp' : Hp} {f b o m c cap : Nat} {M : MF} {t : TypeId} {xs : List D} {z : Value} (hx : AS.ev ⟨n, env, hp⟩ x = some (.d (.raw (.slice (some ⟨b, o, none⟩) m c)))) (hM : hfam hp f = some [.multi M]) (hb : M b = some (.row t 1 cap xs)) (hm : 0 < m) (hom : o + m = xs.length) (h1x : ∀ x ∈ xs, x.one = true)
    (hT : P.underlying T = some (.slice E)) (hz : ∀ w, (zeroValue E).run P w = .ok z w) (hz1 : z.oneCell' = true) (hzc : z.cells = #[z])
    (hh : hmul? hp f (Zbn M b (.row t 1 cap (setL xs o (List.replicate m (.raw z))))) = some hp') :
    Zap P F ⟨none, .call { callee := .builtin .clear, args := #[x], argTypes := #[T] }, ty, pos, aft, g⟩ ⟨n, env, hp⟩ ⟨n, env, hp'⟩ (fun _ _ => true) := fun ρ act w hs => by
  have hrx := hs.raw hx;obtain ⟨hρ, us, q1, q2, q3⟩ := hs.rowN hM hb;rcases q1.2 with ⟨e, _⟩ | ⟨b', cap', cur, e1, e0, e2, e3, e4, e5, e6⟩
  · cases e
  · injection e1 with e1 _ e8
    injection e1 with e1
    injection e1 with e1
    subst e1 e8
    have hcell : ∀ j, j < m → (w.cell? ⟨b, o + j, none⟩).isSome = true := fun j hj => by
      rw [cell_of_row w b (o + j) cur t (0, 0) e2]; simp; omega
    have hfr : ∀ j, j < m → w.frozen? ⟨b, o + j, none⟩ = false := fun j hj => by
      simp only [World.frozen?, e2]; simp
    have hrun := Lib.run_clear_slice (P := P) w T E ty z hT hz hzc hz1 b o m c hm hcell hfr
    have hex : (execOp act.eval ⟨none, .call { callee := .builtin .clear, args := #[x], argTypes := #[T] }, ty, pos, aft, g⟩).run P w = .ok (.value (.tuple #[])) (w.setCells b o (List.replicate m z)) := by
      generalize hV : (Value.slice (some ⟨b, o, none⟩) m c) = V at hrx hrun
      simp [execOp, resolve, invoke, builtin, hrx, hrun]
    unfold Oper.wp;rw [hex];refine ⟨ρ, hs.setRN hM hb o (by rw [List.length_replicate]; omega) (by simp) (fun j y u hj hu => ?_) h1x hh, fun _ _ _ => rfl⟩;have h1 := List.eq_of_mem_replicate (List.mem_of_getElem? hj);have h2 := List.eq_of_mem_replicate (List.mem_of_getElem? hu);subst h1 h2;exact ⟨rfl, hz1, .raw hz1⟩
end
theorem SR.shrinkN {F : Fr} {s : AS} {ρ : Nat → Nat → Value} {act : Act} {w : World} (hs : SR F s ρ act w) (f b m : Nat) {M : MF} {t : TypeId} {cap : Nat} {xs : List D} {hp' : Hp} (hM : hfam s.hp f = some [.multi M]) (hb : M b = some (.row t 1 cap xs)) (hm : m ≤ xs.length)
    (hh : hmul? s.hp f (Zbn M b (.row t 1 cap (xs.take m))) = some hp') : SR F ⟨s.n, s.env, hp'⟩ ρ act w := by
  obtain ⟨hρ, us, q1, q2, q3⟩ := hs.rowN hM hb;refine hs.writeN f b hM hb hh rfl rfl rfl rfl (fun _ _ => rfl) hρ fun hrep => ?_;have hul : us.length = xs.length := by have := q2.1; rwa [Nat.mul_one] at this
  have hlen : (xs.take m).length = m := by rw [List.length_take]; omega
  rcases q1.2 with ⟨e, _⟩ | ⟨b', cap', cur, e1, e0, e2, e3, e4, e5, e6⟩
  · cases e
  · injection e1 with e1 _ e8
    injection e1 with e1
    injection e1 with e1
    subst e1 e8;rw [Nat.mul_one] at e6;refine ⟨hρ, us.take m, ⟨by rw [List.length_take, hlen, Nat.mul_one]; omega, .inr ⟨b, cap, cur, by rw [hlen], e0, e2, by rw [hlen]; omega, e4, e5, ?_⟩⟩, ⟨by rw [List.length_take, hlen, Nat.mul_one]; omega, fun z hz => q2.2.1 z (List.mem_of_mem_take hz), fun j z hj q c hc => ?_⟩, fun z hz => q3 z (List.mem_of_mem_take hz)⟩
    · rw [hlen, Nat.mul_one, ← e6, List.take_take]
      congr 1; omega
    · rw [List.getElem?_take] at hj
      split at hj
      · rename_i hjm
        have hz := q2.2.1 z (List.mem_of_getElem? hj);have hq : q = 0 := by have := (List.getElem?_eq_some_iff.1 hc).1; omega
        subst hq;obtain ⟨u, d1, d2, d3⟩ := q2.2.2 j z hj 0 c hc;rw [Nat.mul_one, Nat.add_zero] at d1;refine ⟨u, by rw [Nat.mul_one, Nat.add_zero, List.getElem?_take_of_lt hjm]; exact d1, d2, ?_⟩;have := hrep (.d c) u (.d d3)
        cases this with | d h => exact h
      · cases hj
section
variable {P : Program} {F : Fr} {Q : Exit → AS → Prop} {c : Code} {ops : Array Oper} {l : List Oper} {n : Nat} {env : List (Nat × AV)} {hp hp' : Hp}
theorem a_shrinkN (f b m : Nat) {M : MF} {t : TypeId} {cap : Nat} {xs : List D} (hM : hfam hp f = some [.multi M]) (hb : M b = some (.row t 1 cap xs)) (hm : m ≤ xs.length) (hh : hmul? hp f (Zbn M b (.row t 1 cap (xs.take m))) = some hp') (h : Awp P F c Q ⟨n, env, hp'⟩) : Awp P F c Q ⟨n, env, hp⟩ := fun _ _ _ hs => h _ _ _ (hs.shrinkN f b m hM hb hm hh)
end
end Go.Proofs.Ytgdppeobgefogaa
/- Two regions become one. No program in sight. -/
namespace Go.Proofs.Ytgdppeobgefogaa
open Go.RowKit
def munion (M N : MF) : MF := fun i => match M i with
  | some m => some m
  | none => N i
theorem munion_l {M N : MF} {b : Nat} {m : MObj} (h : M b = some m) : munion M N b = some m := by unfold munion; rw [h]
theorem munion_r {M N : MF} {b : Nat} {m : MObj} (h0 : M b = none) (h : N b = some m) : munion M N b = some m := by unfold munion; rw [h0]; exact h
theorem SR.merge {F : Fr} {s : AS} {ρ : Nat → Nat → Value} {act : Act} {w : World} (hs : SR F s ρ act w) (g f : Nat) {M N : MF} {env1 env' : List (Nat × AV)} {hp1 hp2 hp3 hp' : Hp} (hne : Nat.beq g f = false)
    (hM : hfam s.hp f = some [.multi M]) (hN : hfam s.hp g = some [.multi N]) (hE : killE? g s.env = some env1) (hE2 : killE? f env1 = some env') (hH : killH? g s.hp = some hp1) (hH2 : killH? f hp1 = some hp2) (hh : hdel? g hp2 = some hp3) (hm : hmul? hp3 f (munion M N) = some hp') :
    (∀ i m m', M i = some m → N i = some m' → False) ∧ ∃ ρ', SR F ⟨s.n, env', hp'⟩ ρ' act w := by
  have hgf : g ≠ f := Nat.ne_of_beq_eq_false hne
  have hgM : ∀ i m, M i = some m → hget s.hp f i = some (m.at_ i) ∧ ρ f i = pV i 0 := fun i m h => ⟨by rw [Zba hM, h]; rfl, MObj.val hs hM h⟩
  have hgN : ∀ i m, N i = some m → hget s.hp g i = some (m.at_ i) ∧ ρ g i = pV i 0 := fun i m h => ⟨by rw [Zba hN, h]; rfl, MObj.val hs hN h⟩
  have hdis : ∀ i m m', M i = some m → N i = some m' → False := fun i m m' h1 h2 => by
    obtain ⟨e1, e2⟩ := hgM i m h1;obtain ⟨e3, e4⟩ := hgN i m' h2;exact hgf (hs.heap.inj g i f i _ _ i e3 e1 (by rw [e4]; rfl) (by rw [e2]; rfl)).1
  have hMi : ∀ i o, hget s.hp f i = some o → ∃ m, M i = some m ∧ o = m.at_ i := fun i o h => by
    rw [Zba hM] at h
    cases hm : M i with
    | none => rw [hm] at h; cases h
    | some m => rw [hm] at h; injection h with h; exact ⟨m, rfl, h.symm⟩
  have hNi : ∀ i o, hget s.hp g i = some o → ∃ m, N i = some m ∧ o = m.at_ i := fun i o h => by
    rw [Zba hN] at h
    cases hm : N i with
    | none => rw [hm] at h; cases h
    | some m => rw [hm] at h; injection h with h; exact ⟨m, rfl, h.symm⟩
  obtain ⟨a1, a2⟩ := killH?_spec hH;obtain ⟨c1, c2⟩ := killH?_spec hH2;have hd := hdel?_spec hh;have hg' := hmul?_spec hm;refine ⟨hdis, fun f' i => if f' = f then pV i 0 else ρ f' i, ?_⟩
  obtain ⟨ρ', hρ'⟩ : ∃ ρ' : Nat → Nat → Value, ρ' = fun f' i => if f' = f then pV i 0 else ρ f' i := ⟨_, rfl⟩
  rw [← hρ'];have hf : ∀ i, ρ' f i = pV i 0 := fun i => by rw [hρ']; exact if_pos rfl
  have ho : ∀ f' i, f' ≠ f → ρ' f' i = ρ f' i := fun f' i e => by rw [hρ']; exact if_neg e
  -- what lies in the new heap
  have hnew : ∀ f' i o', hget hp' f' i = some o' → (f' = f ∧ ∃ m, o' = m.at_ i ∧ ((M i = some m) ∨ (N i = some m))) ∨ (f' ≠ f ∧ f' ≠ g ∧ ∃ o, hget s.hp f' i = some o ∧ (∀ w O ρ v, SimObj w O ρ o v → SimObj w O ρ o' v) ∧ ∀ j, ¬ o'.Refs f j) := by
    intro f' i o' hq;rw [hg'] at hq
    by_cases e : f' = f
    · subst e;rw [if_pos rfl] at hq
      cases hmi : M i with
      | some m =>
        rw [munion_l hmi] at hq; injection hq with hq
        exact .inl ⟨rfl, m, hq.symm, .inl rfl⟩
      | none =>
        cases hni : N i with
        | none =>
          have : munion M N i = none := by unfold munion; rw [hmi]; exact hni
          rw [this] at hq; cases hq
        | some m =>
          rw [munion_r hmi hni] at hq; injection hq with hq
          exact .inl ⟨rfl, m, hq.symm, .inr rfl⟩
    · rw [if_neg e, hd] at hq
      split at hq
      · cases hq
      · rename_i e3
        obtain ⟨o2, q1, q2⟩ := c1 _ _ _ hq;obtain ⟨o3, q3, q4⟩ := a1 _ _ _ q1;exact .inr ⟨e, e3, o3, q3, fun w O ρ v h => q2.1 _ _ _ _ (q4.1 _ _ _ _ h), fun j hr => Zbz (q2.2.1 _ _ hr) rfl⟩
  have hold : ∀ f' i o, hget s.hp f' i = some o → f' ≠ f → f' ≠ g → ∃ o', hget hp' f' i = some o' := fun f' i o hq e1 e2 => by
    obtain ⟨o2, q1, _⟩ := a2 _ _ _ hq;obtain ⟨o3, q3, _⟩ := c2 _ _ _ q1;exact ⟨o3, by rw [hg', if_neg e1, hd, if_neg e2]; exact q3⟩
  have holdM : ∀ i m, M i = some m ∨ N i = some m → hget hp' f i = some (m.at_ i) := fun i m h => by
    rw [hg', if_pos rfl];rcases h with h | h
    · rw [munion_l h]; rfl
    · cases hmi : M i with
      | some m' => exact (hdis i _ _ hmi h).elim
      | none => rw [munion_r hmi h]; rfl
  have hown : ∀ b, OwnB ρ' hp' b ↔ OwnB ρ s.hp b := fun b => by
    constructor
    · rintro ⟨f', i, o', hq, hbk⟩;rcases hnew f' i o' hq with ⟨rfl, m, rfl, h | h⟩ | ⟨e1, e2, o, h1, _⟩
      · rw [hf] at hbk; obtain ⟨q1, q2⟩ := hgM i m h; exact ⟨f', i, _, q1, by rw [q2]; exact hbk⟩
      · rw [hf] at hbk; obtain ⟨q1, q2⟩ := hgN i m h; exact ⟨g, i, _, q1, by rw [q2]; exact hbk⟩
      · rw [ho _ _ e1] at hbk; exact ⟨f', i, o, h1, hbk⟩
    · rintro ⟨f', i, o, hq, hbk⟩
      by_cases e1 : f' = f
      · subst e1;obtain ⟨m, h1, rfl⟩ := hMi i o hq;exact ⟨f', i, _, holdM i m (.inl h1), by rw [hf]; rw [(hgM i m h1).2] at hbk; exact hbk⟩
      · by_cases e2 : f' = g
        · subst e2;obtain ⟨m, h1, rfl⟩ := hNi i o hq;exact ⟨f, i, _, holdM i m (.inr h1), by rw [hf]; rw [(hgN i m h1).2] at hbk; exact hbk⟩
        · obtain ⟨o', h3⟩ := hold f' i o hq e1 e2;exact ⟨f', i, o', h3, by rw [ho _ _ e1]; exact hbk⟩
  have hO : F.O ρ' hp' = F.O ρ s.hp := funext fun b => propext ⟨fun h => h.imp id (hown b).1, fun h => h.imp id (hown b).2⟩
  have hblk : ∀ f' i t cs, hget hp' f' i = some (.blk t cs) → f' ≠ f := fun f' i t cs hq e => by
    rcases hnew f' i _ hq with ⟨_, m, e1, _⟩ | ⟨e1, _⟩
    · exact MObj.notBlk e1.symm
    · exact e1 e
  refine ⟨hs.size, hO ▸ hs.defs, fun t a hta => ?_, ?_⟩
  · show RepA w (F.O ρ' hp') _ _ _;rw [hO];rcases killE?_spec hE2 hta with rfl | ⟨h3, h4⟩
    · exact .top
    · rcases killE?_spec hE h3 with rfl | ⟨h5, _⟩
      · exact .top
      · exact (hs.env t _ h5).mono (Nat.le_refl _) (fun _ _ _ => rfl) (fun _ _ h => h) fun f' i hr => ho f' i fun e => h4 i (by rw [← e]; exact hr)
  · refine ⟨fun f' i o' hq => ?_, fun f1 i1 f2 i2 o1 o2 b h1 h2 hb1 hb2 => ?_, fun b hbk => hs.heap.mine b ((hown b).1 hbk), hs.heap.os, hs.heap.tape, hs.heap.output, hs.heap.size0, hs.heap.keep, fun f' i b hpin => ?_, hs.heap.drawn⟩
    · show SimObj w (F.O ρ' hp') _ _ _;rw [hO];rcases hnew f' i o' hq with ⟨rfl, m, rfl, h⟩ | ⟨e1, e2, o, h1, h2, h3⟩
      · rw [hf]
        have hsm : SimObj w (F.O ρ s.hp) ρ (m.at_ i) (pV i 0) := by
          rcases h with h | h
          · obtain ⟨q1, q2⟩ := hgM i m h; rw [← q2]; exact hs.heap.sim _ _ _ q1
          · obtain ⟨q1, q2⟩ := hgN i m h; rw [← q2]; exact hs.heap.sim _ _ _ q1
        exact hsm.mono (Nat.le_refl _) (fun _ _ _ => rfl) (fun _ _ h => h) (fun _ _ => rfl) fun f'' i' hr => (MObj.norefs hr).elim
      · rw [ho _ _ e1];exact (h2 _ _ _ _ (hs.heap.sim f' i o h1)).mono (Nat.le_refl _) (fun _ _ _ => rfl) (fun _ _ h => h) (fun _ _ => rfl) fun f'' i' hr => ho f'' i' fun e => h3 i' (by rw [← e]; exact hr)
    · rcases hnew f1 i1 o1 h1 with ⟨rfl, m1, rfl, k1⟩ | ⟨e1, e1', q1, k1, _⟩ <;> rcases hnew f2 i2 o2 h2 with ⟨rfl, m2, rfl, k2⟩ | ⟨e2, e2', q2, k2, _⟩
      · rw [hf] at hb1 hb2;injection hb1 with hb1; injection hb2 with hb2
        exact ⟨rfl, Eq.trans hb1 hb2.symm⟩
      · rw [hf] at hb1; rw [ho _ _ e2] at hb2
        exfalso
        rcases k1 with k1 | k1
        · obtain ⟨r1, r2⟩ := hgM i1 m1 k1;exact e2 (hs.heap.inj _ _ _ _ _ _ b k2 r1 hb2 (by rw [r2]; exact hb1)).1
        · obtain ⟨r1, r2⟩ := hgN i1 m1 k1;exact e2' (hs.heap.inj _ _ _ _ _ _ b k2 r1 hb2 (by rw [r2]; exact hb1)).1
      · rw [hf] at hb2; rw [ho _ _ e1] at hb1
        exfalso
        rcases k2 with k2 | k2
        · obtain ⟨r1, r2⟩ := hgM i2 m2 k2;exact e1 (hs.heap.inj _ _ _ _ _ _ b k1 r1 hb1 (by rw [r2]; exact hb2)).1
        · obtain ⟨r1, r2⟩ := hgN i2 m2 k2;exact e1' (hs.heap.inj _ _ _ _ _ _ b k1 r1 hb1 (by rw [r2]; exact hb2)).1
      · rw [ho _ _ e1] at hb1; rw [ho _ _ e2] at hb2;exact hs.heap.inj _ _ _ _ _ _ b k1 k2 hb1 hb2
    · obtain ⟨r1, t, cs, r2⟩ := hs.heap.pins f' i b hpin;have e1 : f' ≠ f := fun e => by subst e; obtain ⟨m, _, h2⟩ := hMi i _ r2; exact MObj.notBlk h2.symm
      have e2 : f' ≠ g := fun e => by subst e; obtain ⟨m, _, h2⟩ := hNi i _ r2; exact MObj.notBlk h2.symm
      obtain ⟨o2, q1, q2⟩ := a2 _ _ _ r2;obtain ⟨cs2, rfl⟩ := q2.2.2.1 _ _ rfl;obtain ⟨o3, q3, q4⟩ := c2 _ _ _ q1;obtain ⟨cs3, rfl⟩ := q4.2.2.1 _ _ rfl;exact ⟨by rw [ho _ _ e1]; exact r1, t, cs3, by rw [hg', if_neg e1, hd, if_neg e2]; exact q3⟩
section
variable {P : Program} {F : Fr} {Q : Exit → AS → Prop} {c : Code} {ops : Array Oper} {l : List Oper} {n : Nat} {env env1 env' : List (Nat × AV)} {hp hp1 hp2 hp3 hp' : Hp}
theorem o_merge (g f : Nat) {M N : MF} (hne : Nat.beq g f = false) (hM : hfam hp f = some [.multi M]) (hN : hfam hp g = some [.multi N]) (hE : killE? g env = some env1) (hE2 : killE? f env1 = some env') (hH : killH? g hp = some hp1) (hH2 : killH? f hp1 = some hp2) (hh : hdel? g hp2 = some hp3) (hm : hmul? hp3 f (munion M N) = some hp')
    (h : (∀ i m m', M i = some m → N i = some m' → False) → Aops P F ops l Q ⟨n, env', hp'⟩) : Aops P F ops l Q ⟨n, env, hp⟩ := fun ρ act w hs => by
  obtain ⟨hd, ρ', hs'⟩ := hs.merge g f hne hM hN hE hE2 hH hH2 hh hm;exact h hd ρ' act w hs'
end
end Go.Proofs.Ytgdppeobgefogaa
