/- Typed rows: append; loops that let families go. No program in sight. -/
import Derived.Test.YtjbghmlofjkcfaaFn
import Derived.Lib.Strings
namespace Go.Proofs.Ytjbghmlofjkcfaa
open Go.RowKit

/-- Less is known, and families may be let go. -/
def AS.LeP (F : Fr) (s s' : AS) : Prop := s'.n = s.n ∧ (∃ nm l, F.pn = l ∧ subB l nm = true ∧ part? s.hp nm = some s'.hp) ∧ ∀ t a, get s'.env t = some a → get s.env t = some a
theorem SR.leP {F : Fr} {s s' : AS} {ρ : Nat → Nat → Value} {act : Act} {w : World} (h : SR F s ρ act w) (hl : s.LeP F s') : SR F s' ρ act w := by
  obtain ⟨h1, ⟨nm, l, h2, h3, h4⟩, h5⟩ := hl
  have h6 := h.only nm h2 h3 h4
  refine ⟨h1 ▸ h6.size, h6.defs, fun t a ha => h6.env t a (h5 t a ha), h6.heap⟩
section
variable {P : Program} {F : Fr} {Q : Exit → AS → Prop} {s : AS} {c : Code}
theorem Awp.leP {s' : AS} (h : Awp P F c Q s') (hl : s.LeP F s') : Awp P F c Q s := fun ρ act w hs => h ρ act w (hs.leP hl)
theorem lep_of {n : Nat} {env l : List (Nat × AV)} {hp hp' : Hp} {pn : List Nat} (hF : F.pn = pn) (nm : List Nat) (h1 : subB pn nm = true) (h2 : part? hp nm = some hp') (h : Has env l) : AS.LeP F ⟨n, env, hp⟩ ⟨n, l, hp'⟩ := ⟨rfl, ⟨nm, pn, hF, h1, h2⟩, fun _ _ => h.get⟩
theorem a_loopP {α : Type} (σ : α → AS) (I : α → Prop) (μ : α → Nat) (a0 : α) (h0 : I a0) (hs : s.LeP F (σ a0))
    (round : ∀ a, I a → Awp P F c (Then (fun s' => ∃ a', I a' ∧ μ a' < μ a ∧ s'.LeP F (σ a')) Q) (σ a)) : Awp P F (.loop c) Q s := by
  refine Awp.leP ?_ hs
  let R : AS → Prop := fun s' => ∃ a, I a ∧ s' = σ a
  refine fun ρ act w hsr => ?_
  have key : ∀ n a, μ a = n → I a → ∀ ρ act w, SR F (σ a) ρ act w → (Code.loop c).wp P (lift F Q) act w := by
    intro n a _ hI ρ act w hsr
    refine wp_loop (fun act w => ∃ a ρ, I a ∧ SR F (σ a) ρ act w) (fun act w => Classical.epsilon fun m => ∃ a ρ, I a ∧ SR F (σ a) ρ act w ∧ μ a = m ∧ ∀ a' ρ', I a' → SR F (σ a') ρ' act w → m ≤ μ a') ⟨a, ρ, hI, hsr⟩ ?_
    intro act w hI
    have hmin : ∀ act w, (∃ a ρ, I a ∧ SR F (σ a) ρ act w) → ∃ m, ∃ a ρ, I a ∧ SR F (σ a) ρ act w ∧ μ a = m ∧ ∀ a' ρ', I a' → SR F (σ a') ρ' act w → m ≤ μ a' := fun act w ⟨a, ρ, h1, h2⟩ => by
      have hw : ∀ n a ρ, μ a = n → I a → SR F (σ a) ρ act w → ∃ m, ∃ a ρ, I a ∧ SR F (σ a) ρ act w ∧ μ a = m ∧ ∀ a' ρ', I a' → SR F (σ a') ρ' act w → m ≤ μ a' := by
        intro n
        induction n using Nat.strongRecOn with
        | _ n ih =>
          intro a ρ hn h1 h2
          by_cases hex : ∃ a' ρ', I a' ∧ SR F (σ a') ρ' act w ∧ μ a' < n
          · obtain ⟨a', ρ', h3, h4, h5⟩ := hex
            exact ih _ h5 a' ρ' rfl h3 h4
          · refine ⟨n, a, ρ, h1, h2, hn, fun a' ρ' h3 h4 => ?_⟩
            rcases Nat.lt_or_ge (μ a') n with h5 | h5
            · exact absurd ⟨a', ρ', h3, h4, h5⟩ hex
            · exact h5
      exact hw _ a ρ rfl h1 h2
    obtain ⟨a, ρ, h1, h2, h3, h4⟩ := Classical.epsilon_spec (hmin act w hI)
    refine wp_mono (round a h1 ρ act w h2) fun e act' w' ⟨s', ρ', h5, h6⟩ => ?_
    cases e with
    | normal =>
      obtain ⟨a', h7, h8, h9⟩ := h5
      have hex : ∃ a ρ, I a ∧ SR F (σ a) ρ act' w' := ⟨a', ρ', h7, h6.leP h9⟩
      refine ⟨hex, ?_⟩
      obtain ⟨_, _, _, _, _, h13⟩ := Classical.epsilon_spec (hmin act' w' hex)
      have h14 := h13 a' ρ' h7 (h6.leP h9)
      exact Nat.lt_of_le_of_lt h14 (by rw [← h3]; exact h8)
    | _ => exact ⟨s', ρ', h5, h6⟩
  exact key _ a0 rfl h0 ρ act w hsr
end

section
variable {P : Program} {F : Fr} {s : AS} {d : Nat} {ty T T2 E : TypeId} {pos : String} {aft : Array Edge} {g : Option (Nat × Bool)} {x y : Operand} {α : Type} {emb : α → D}
/-- append of one owned row of data to another. -/
theorem st_appM (l l2 : List α) {f j n kk by_ f2 j2 m : Nat} {xs ys : List D} {env' : List (Nat × AV)} {hp1 hp' : List (Nat × List AObj)} (hx : s.ev x = some (.own f j n)) (ho : hget s.hp f j = some (.rowD E kk xs)) (hl : xs = l.map emb) (hn : n = l.length)
    (hy : s.ev y = some (.own f2 j2 m)) (ho2 : hget s.hp f2 j2 = some (.rowD E kk ys)) (hl2 : ys = l2.map emb) (hm : m = l2.length)
    (S : SlTy P T E kk by_) (hb : (l.length + l2.length) * by_ ≤ 140737488355328) (hE : killE? f s.env = some env') (hH : killH? f s.hp = some hp1) (hh : hset? hp1 f j (.rowD E kk ((l ++ l2).map emb)) = some hp') (hd : Nat.blt d s.n = true) :
    Estep P F ⟨some d, .call { callee := .builtin .append, args := #[x, y], argTypes := #[T, T] }, ty, pos, aft, g⟩ s ⟨s.n, (d, .own f j (l ++ l2).length) :: env', hp'⟩ (notFam f) := by
  subst hn hm hl hl2
  have h := st_appendO (ty := ty) (pos := pos) (aft := aft) (g := g) (F := F) (zs := (l ++ l2).map emb) hx hy ho (by simp) ho2 rfl (by simp) S hb hE hH (by rw [List.take_of_length_le (by simp), List.take_of_length_le (by simp), List.map_append]) hh hd
  rw [← List.length_append] at h
  exact h
/-- append of frozen data to an owned row. -/
theorem st_appMD (l l2 : List α) {f j n kk by_ : Nat} {nil : Option Bool} {xs ys : List D} {env' : List (Nat × AV)} {hp1 hp' : List (Nat × List AObj)} (hx : s.ev x = some (.own f j n)) (ho : hget s.hp f j = some (.rowD E kk xs)) (hl : xs = l.map emb) (hn : n = l.length)
    (hy : s.ev y = some (.d (.sl nil ys))) (hl2 : ys = l2.map emb) (hk : ∀ a, (emb a).cells.length = kk)
    (S : SlTy P T E kk by_) (hb : (l.length + l2.length) * by_ ≤ 140737488355328) (hE : killE? f s.env = some env') (hH : killH? f s.hp = some hp1) (hh : hset? hp1 f j (.rowD E kk ((l ++ l2).map emb)) = some hp') (hd : Nat.blt d s.n = true) :
    Estep P F ⟨some d, .call { callee := .builtin .append, args := #[x, y], argTypes := #[T, T] }, ty, pos, aft, g⟩ s ⟨s.n, (d, .own f j (l ++ l2).length) :: env', hp'⟩ (notFam f) := by
  subst hn hl hl2
  have h := st_appendD (ty := ty) (pos := pos) (aft := aft) (g := g) (F := F) (m := l2.length) (zs := (l ++ l2).map emb) hx hy ho (by simp) S (fun z hz => by obtain ⟨a, _, rfl⟩ := List.mem_map.1 hz; exact hk a) (by simp) hb hE hH (by rw [List.take_of_length_le (by simp), List.map_append]) hh hd
  rw [← List.length_append] at h
  exact h
/-- append of a string. -/
theorem st_appMS (l b : List UInt8) {f j n : Nat} {xs : List D} {env' : List (Nat × AV)} {hp1 hp' : List (Nat × List AObj)} (hx : s.ev x = some (.own f j n)) (ho : hget s.hp f j = some (.rowD E 1 xs)) (hl : xs = l.map byteD) (hn : n = l.length)
    (hy : s.ev y = some (.d (strD b))) (S : SlTy P T E 1 1) (hT : P.underlying T2 = some .string) (hb : l.length + b.length ≤ 140737488355328) (hE : killE? f s.env = some env') (hH : killH? f s.hp = some hp1) (hh : hset? hp1 f j (.rowD E 1 ((l ++ b).map byteD)) = some hp') (hd : Nat.blt d s.n = true) :
    Estep P F ⟨some d, .call { callee := .builtin .append, args := #[x, y], argTypes := #[T, T2] }, ty, pos, aft, g⟩ s ⟨s.n, (d, .own f j (l ++ b).length) :: env', hp'⟩ (notFam f) := by
  subst hn hl
  have h := st_appendS (ty := ty) (pos := pos) (aft := aft) (g := g) (F := F) (m := b.length) (zs := (l ++ b).map byteD) hx hy ho (by simp) S hT rfl hb hE hH (by rw [List.take_of_length_le (by simp), List.map_append]) hh hd
  rw [← List.length_append] at h
  exact h
end
section
variable {P : Program} {F : Fr} {s : AS} {d : Nat} {ty T E : TypeId} {pos : String} {aft : Array Edge} {g : Option (Nat × Bool)} {x lo hi : Operand} {α : Type} {emb : α → D} {nil : Option Bool} {xs : List D} {kk : Nat}
theorem st_sliceLoM (l : List α) (k : Nat) {kl : IntKind} {il : Int} (hx : s.ev x = some (.d (.sl nil xs))) (hxs : xs = l.map emb) (hlo : s.ev lo = some (.d (.raw (.int kl il)))) (hl : il = (k : Int)) (h1 : k ≤ l.length) (hT : P.underlying T = some (.slice E)) (hE : sizeTy P E kk = true) (hk : ∀ a, (emb a).cells.length = kk) (hd : Nat.blt d s.n = true) :
    Pstep P F ⟨some d, .slice T x (some lo) none none, ty, pos, aft, g⟩ s d (.d (.sl nil ((l.drop k).map emb))) := by
  subst hxs
  exact st_sliceLo k hx hlo hl (by simpa using h1) hT hE (fun e he => by obtain ⟨a, _, rfl⟩ := List.mem_map.1 he; exact hk a) (by rw [List.map_drop]) hd
theorem st_sliceHiM (l : List α) (k : Nat) {kl : IntKind} {il : Int} (hx : s.ev x = some (.d (.sl nil xs))) (hxs : xs = l.map emb) (hhi : s.ev hi = some (.d (.raw (.int kl il)))) (hl : il = (k : Int)) (h1 : k ≤ l.length) (hT : P.underlying T = some (.slice E)) (hE : sizeTy P E kk = true) (hk : ∀ a, (emb a).cells.length = kk) (hd : Nat.blt d s.n = true) :
    Pstep P F ⟨some d, .slice T x none (some hi) none, ty, pos, aft, g⟩ s d (.d (.sl nil ((l.take k).map emb))) := by
  subst hxs
  exact st_sliceHi k hx hhi hl (by simpa using h1) hT hE (fun e he => by obtain ⟨a, _, rfl⟩ := List.mem_map.1 he; exact hk a) (by rw [List.map_take]) hd
theorem st_slice3M (l : List α) (a b : Nat) {kl kh : IntKind} {il ih : Int} (hx : s.ev x = some (.d (.sl nil xs))) (hxs : xs = l.map emb) (hlo : s.ev lo = some (.d (.raw (.int kl il)))) (hhi : s.ev hi = some (.d (.raw (.int kh ih)))) (hl : il = (a : Int)) (hh : ih = (b : Int)) (h1 : a ≤ b) (h2 : b ≤ l.length) (hT : P.underlying T = some (.slice E)) (hE : sizeTy P E kk = true) (hk : ∀ a, (emb a).cells.length = kk) (hd : Nat.blt d s.n = true) :
    Pstep P F ⟨some d, .slice T x (some lo) (some hi) none, ty, pos, aft, g⟩ s d (.d (.sl nil (((l.drop a).take (b - a)).map emb))) := by
  subst hxs
  exact st_slice3 a b hx hlo hhi hl hh h1 (by simpa using h2) hT hE (fun e he => by obtain ⟨a, _, rfl⟩ := List.mem_map.1 he; exact hk a) (by rw [List.map_take, List.map_drop]) hd
end
section
variable {P : Program} {F : Fr} {s : AS} {d : Nat} {ty T T' : TypeId} {pos : String} {aft : Array Edge} {g : Option (Nat × Bool)} {x y : Operand}
theorem strEq (a b : List UInt8) : ((⟨a.toArray⟩ : ByteArray).toList = (⟨b.toArray⟩ : ByteArray).toList) ↔ a = b := by
  rw [Lib.toList_data, Lib.toList_data]
theorem st_lenSL {b : List UInt8} (hx : s.ev x = some (.d (strD b))) (hT : P.underlying T = some .string) (hd : Nat.blt d s.n = true) : Pstep P F ⟨some d, .call { callee := .builtin .len, args := #[x], argTypes := #[T] }, ty, pos, aft, g⟩ s d (.d (.raw (.int .i64 (b.length : Int)))) := st_lenS hx hT hd
theorem st_eqlSL {a b : List UInt8} (hx : s.ev x = some (.d (strD a))) (hy : s.ev y = some (.d (strD b))) (hd : Nat.blt d s.n = true) : Pstep P F ⟨some d, .binOp .eql T x y T', ty, pos, aft, g⟩ s d (.d (.raw (.bool (decide (a = b))))) := by
  have h := st_eqlS (P := P) (F := F) (T := T) (T' := T') (ty := ty) (pos := pos) (aft := aft) (g := g) hx hy hd
  rwa [show decide ((⟨a.toArray⟩ : ByteArray).toList = (⟨b.toArray⟩ : ByteArray).toList) = decide (a = b) by rw [decide_eq_decide]; exact strEq a b] at h
theorem st_neqSL {a b : List UInt8} (hx : s.ev x = some (.d (strD a))) (hy : s.ev y = some (.d (strD b))) (hd : Nat.blt d s.n = true) : Pstep P F ⟨some d, .binOp .neq T x y T', ty, pos, aft, g⟩ s d (.d (.raw (.bool (decide (¬ a = b))))) := by
  have h := st_neqS (P := P) (F := F) (T := T) (T' := T') (ty := ty) (pos := pos) (aft := aft) (g := g) hx hy hd
  rwa [show decide (¬ (⟨a.toArray⟩ : ByteArray).toList = (⟨b.toArray⟩ : ByteArray).toList) = decide (¬ a = b) by rw [decide_eq_decide, strEq a b]] at h
end
section
variable {P : Program} {F : Fr} {s : AS} {d : Nat} {ty T E : TypeId} {pos : String} {aft : Array Edge} {g : Option (Nat × Bool)} {x y : Operand} {α : Type} {emb : α → D}
theorem st_storeM {n : Nat} {env : List (Nat × AV)} {hp : List (Nat × List AObj)} (l : List α) (a : α) {f j e : Nat} {t : TypeId} {xs : List D} {v : D} {hp' : Hp} (hx : AS.ev ⟨n, env, hp⟩ x = some (.rptr f j 1 e 0)) (hy : AS.ev ⟨n, env, hp⟩ y = some (.d v)) (hva : v = emb a) (hv : v.one = true) (ho : hget hp f j = some (.rowD t 1 xs)) (hl : xs = l.map emb) (hlt : e < l.length)
    (hh : hset? hp f j (.rowD t 1 ((l.set e a).map emb)) = some hp') (hT : sizeTy P T 1 = true) :
    Estep P F ⟨none, .store T x y, ty, pos, aft, g⟩ ⟨n, env, hp⟩ ⟨n, env, hp'⟩ (fun _ _ => true) := by
  subst hl hva
  exact st_storeR1 hx hy hv ho rfl (by simpa using hlt) List.map_set.symm hh hT
end
/-- A contract's answer, weakened. -/
theorem PCalls.weak {P : Program} {f : FuncId} {args : List AV} {x y : D} (h : PCalls P f args x) (hw : ∀ w O v, RepD w O x v → RepD w O y v) : PCalls P f args y :=
  ⟨h.1, fun F ρ vs h1 h2 h2' h3 h4 h5 => (h.2 F ρ vs h1 h2 h2' h3 h4 h5).mono fun e w' ⟨v, r, H', ρ', e1, ⟨e2, e3⟩, hrep, hh⟩ => by
    subst e2 e3
    cases hrep with
    | d hrep => exact ⟨v, _, [], ρ', e1, ⟨rfl, rfl⟩, .d (hw _ _ _ hrep), hh⟩⟩
/-- What is said of a slice's being nil, forgotten. -/
theorem RepD.anyNil {w : World} {O : Nat → Prop} {n : Option Bool} {xs : List D} {v : Value} (h : RepD w O (.sl n xs) v) : RepD w O (.sl none xs) v := by
  cases h with
  | sl k hn hz hln hc hm hk ha hp => exact .sl k (fun _ h => by cases h) hz hln hc hm hk ha hp
theorem RepD.aggMono {w : World} {O : Nat → Prop} {cs cs' : List D} {v : Value} (h : RepD w O (.agg cs) v) (hl : cs'.length = cs.length) (h1 : ∀ c ∈ cs', c.one = true) (hc : ∀ (i : Nat) c c', cs[i]? = some c → cs'[i]? = some c' → ∀ v, RepD w O c v → RepD w O c' v) : RepD w O (.agg cs') v := by
  cases h with
  | agg g1 g2 g3 =>
    refine .agg (by omega) h1 fun i c' v hi hv => ?_
    have hlt : i < cs.length := by rw [← hl]; exact (List.getElem?_eq_some_iff.1 hi).1
    exact hc i _ c' (List.getElem?_eq_getElem hlt) hi v (g3 i _ v (List.getElem?_eq_getElem hlt) hv)
end Go.Proofs.Ytjbghmlofjkcfaa
