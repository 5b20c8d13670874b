/- Typed rows: append; loops that let families go. No program in sight. -/
import Derived.Test.YtgdppeobgefogaaMg8
import Derived.Lib.Strings
namespace Go.Proofs.Ytgdppeobgefogaa
open Go.RowKit

def AS.LeP (F : Fr) (s s' : AS) : Prop := s'.n = s.n ∧ (∃ nm l, F.pn = l ∧ subB l nm = true ∧ part? s.hp nm = some s'.hp) ∧ ∀ t a, get s'.env t = some a → get s.env t = some a
theorem SR.leP {F : Fr} {s s' : AS} {ρ : Nat → Nat → Value} {act : Act} {w : World} (h : SR F s ρ act w) (hl : s.LeP F s') : SR F s' ρ act w := by
  obtain ⟨h1, ⟨nm, l, h2, h3, h4⟩, h5⟩ := hl;have h6 := h.only nm h2 h3 h4;refine ⟨h1 ▸ h6.size, h6.defs, fun t a ha => h6.env t a (h5 t a ha), h6.heap⟩
section
variable {P : Program} {F : Fr} {Q : Exit → AS → Prop} {s : AS} {c : Code}
theorem Awp.leP {s' : AS} (h : Awp P F c Q s') (hl : s.LeP F s') : Awp P F c Q s := fun ρ act w hs => h ρ act w (hs.leP hl)
theorem Zax {n : Nat} {env l : List (Nat × AV)} {hp hp' : Hp} {pn : List Nat} (hF : F.pn = pn) (nm : List Nat) (h1 : subB pn nm = true) (h2 : part? hp nm = some hp') (h : Has env l) : AS.LeP F ⟨n, env, hp⟩ ⟨n, l, hp'⟩ := ⟨rfl, ⟨nm, pn, hF, h1, h2⟩, fun _ _ => h.get⟩
theorem Za0 {α : Type} (σ : α → AS) (I : α → Prop) (μ : α → Nat) (a0 : α) (h0 : I a0) (hs : s.LeP F (σ a0))
    (round : ∀ a, I a → Awp P F c (Then (fun s' => ∃ a', I a' ∧ μ a' < μ a ∧ s'.LeP F (σ a')) Q) (σ a)) : Awp P F (.loop c) Q s := by
  refine Awp.leP ?_ hs
  let R : AS → Prop := fun s' => ∃ a, I a ∧ s' = σ a
  refine fun ρ act w hsr => ?_
  have key : ∀ n a, μ a = n → I a → ∀ ρ act w, SR F (σ a) ρ act w → (Code.loop c).wpIn (fen F.rnd) 0 P (lift F Q) act w := by
    intro n a _ hI ρ act w hsr;refine wpIn_loop (fun act w => ∃ a ρ, I a ∧ SR F (σ a) ρ act w) (fun act w => Classical.epsilon fun m => ∃ a ρ, I a ∧ SR F (σ a) ρ act w ∧ μ a = m ∧ ∀ a' ρ', I a' → SR F (σ a') ρ' act w → m ≤ μ a') ⟨a, ρ, hI, hsr⟩ ?_;intro act w hI
    have hmin : ∀ act w, (∃ a ρ, I a ∧ SR F (σ a) ρ act w) → ∃ m, ∃ a ρ, I a ∧ SR F (σ a) ρ act w ∧ μ a = m ∧ ∀ a' ρ', I a' → SR F (σ a') ρ' act w → m ≤ μ a' := fun act w ⟨a, ρ, h1, h2⟩ => by
      have hw : ∀ n a ρ, μ a = n → I a → SR F (σ a) ρ act w → ∃ m, ∃ a ρ, I a ∧ SR F (σ a) ρ act w ∧ μ a = m ∧ ∀ a' ρ', I a' → SR F (σ a') ρ' act w → m ≤ μ a' := by
        intro n
        induction n using Nat.strongRecOn with
        | _ n ih =>
          intro a ρ hn h1 h2
          by_cases hex : ∃ a' ρ', I a' ∧ SR F (σ a') ρ' act w ∧ μ a' < n
          · obtain ⟨a', ρ', h3, h4, h5⟩ := hex;exact ih _ h5 a' ρ' rfl h3 h4
          · refine ⟨n, a, ρ, h1, h2, hn, fun a' ρ' h3 h4 => ?_⟩;rcases Nat.lt_or_ge (μ a') n with h5 | h5
            · exact absurd ⟨a', ρ', h3, h4, h5⟩ hex
            · exact h5
      exact hw _ a ρ rfl h1 h2
    obtain ⟨a, ρ, h1, h2, h3, h4⟩ := Classical.epsilon_spec (hmin act w hI);refine Go.wpIn_mono (round a h1 ρ act w h2) fun e act' w' ⟨s', ρ', h5, h6⟩ => ?_
    cases e with
    | normal =>
      obtain ⟨a', h7, h8, h9⟩ := h5
      have hex : ∃ a ρ, I a ∧ SR F (σ a) ρ act' w' := ⟨a', ρ', h7, h6.leP h9⟩
      refine ⟨hex, ?_⟩;obtain ⟨_, _, _, _, _, h13⟩ := Classical.epsilon_spec (hmin act' w' hex);have h14 := h13 a' ρ' h7 (h6.leP h9);exact Nat.lt_of_le_of_lt h14 (by rw [← h3]; exact h8)
    | _ => exact ⟨s', ρ', h5, h6⟩
  exact key _ a0 rfl h0 ρ act w hsr
end

section
variable {P : Program} {F : Fr} {s : AS} {d : Nat} {ty T T2 E : TypeId} {pos : String} {aft : Array Edge} {g : Option (Nat × Bool)} {x y : Operand} {α : Type} {emb : α → D}
theorem st_appM (l l2 : List α) {f j n kk by_ f2 j2 m : Nat} {xs ys : List D} {env' : List (Nat × AV)} {hp1 hp' : List (Nat × List AObj)} (hx : s.ev x = some (.own f j n)) (ho : hget s.hp f j = some (.rowD E kk xs)) (hl : xs = l.map emb) (hn : n = l.length)
    (hy : s.ev y = some (.own f2 j2 m)) (ho2 : hget s.hp f2 j2 = some (.rowD E kk ys)) (hl2 : ys = l2.map emb) (hm : m = l2.length)
    (S : SlTy P T E kk by_) (hb : (l.length + l2.length) * by_ ≤ 140737488355328) (hE : killE? f s.env = some env') (hH : killH? f s.hp = some hp1) (hh : hset? hp1 f j (.rowD E kk ((l ++ l2).map emb)) = some hp') (hd : Nat.blt d s.n = true) :
    Zaw P F ⟨some d, .call { callee := .builtin .append, args := #[x, y], argTypes := #[T, T] }, ty, pos, aft, g⟩ s ⟨s.n, (d, .own f j (l ++ l2).length) :: env', hp'⟩ (notFam f) := by
  subst hn hm hl hl2;have h := st_appendO (ty := ty) (pos := pos) (aft := aft) (g := g) (F := F) (zs := (l ++ l2).map emb) hx hy ho (by simp) ho2 rfl (by simp) S hb hE hH (by rw [List.take_of_length_le (by simp), List.take_of_length_le (by simp), List.map_append]) hh hd;rw [← List.length_append] at h;exact h
end
section
variable {P : Program} {F : Fr} {s : AS} {d : Nat} {ty T E : TypeId} {pos : String} {aft : Array Edge} {g : Option (Nat × Bool)} {x lo hi : Operand} {α : Type} {emb : α → D} {nil : Option Bool} {xs : List D} {kk : Nat}
end
section
variable {P : Program} {F : Fr} {s : AS} {d : Nat} {ty T T' : TypeId} {pos : String} {aft : Array Edge} {g : Option (Nat × Bool)} {x y : Operand}
theorem strEq (a b : List UInt8) : ((⟨a.toArray⟩ : ByteArray).toList = (⟨b.toArray⟩ : ByteArray).toList) ↔ a = b := by
  rw [Lib.toList_data, Lib.toList_data]
theorem Za9 {b : List UInt8} (hx : s.ev x = some (.d (strD b))) (hT : P.underlying T = some .string) (hd : Nat.blt d s.n = true) : Zab P F ⟨some d, .call { callee := .builtin .len, args := #[x], argTypes := #[T] }, ty, pos, aft, g⟩ s d (.d (.raw (.int .i64 (b.length : Int)))) := Zbe hx hT hd
theorem Zbb {a b : List UInt8} (hx : s.ev x = some (.d (strD a))) (hy : s.ev y = some (.d (strD b))) (hd : Nat.blt d s.n = true) : Zab P F ⟨some d, .binOp .eql T x y T', ty, pos, aft, g⟩ s d (.d (.raw (.bool (decide (a = b))))) := by
  have h := Zbk (P := P) (F := F) (T := T) (T' := T') (ty := ty) (pos := pos) (aft := aft) (g := g) hx hy hd
  rwa [show decide ((⟨a.toArray⟩ : ByteArray).toList = (⟨b.toArray⟩ : ByteArray).toList) = decide (a = b) by rw [decide_eq_decide]; exact strEq a b] at h
theorem ZbA {a b : List UInt8} (hx : s.ev x = some (.d (strD a))) (hy : s.ev y = some (.d (strD b))) (hd : Nat.blt d s.n = true) : Zab P F ⟨some d, .binOp .neq T x y T', ty, pos, aft, g⟩ s d (.d (.raw (.bool (decide (¬ a = b))))) := by
  have h := ZbB (P := P) (F := F) (T := T) (T' := T') (ty := ty) (pos := pos) (aft := aft) (g := g) hx hy hd
  rwa [show decide (¬ (⟨a.toArray⟩ : ByteArray).toList = (⟨b.toArray⟩ : ByteArray).toList) = decide (¬ a = b) by rw [decide_eq_decide, strEq a b]] at h
end
section
variable {P : Program} {F : Fr} {s : AS} {d : Nat} {ty T E : TypeId} {pos : String} {aft : Array Edge} {g : Option (Nat × Bool)} {x y : Operand} {α : Type} {emb : α → D}
theorem st_storeM {n : Nat} {env : List (Nat × AV)} {hp : List (Nat × List AObj)} (l : List α) (a : α) {f j e : Nat} {t : TypeId} {xs : List D} {v : D} {hp' : Hp} (hx : AS.ev ⟨n, env, hp⟩ x = some (.rptr f j 1 e 0)) (hy : AS.ev ⟨n, env, hp⟩ y = some (.d v)) (hva : v = emb a) (hv : v.one = true) (ho : hget hp f j = some (.rowD t 1 xs)) (hl : xs = l.map emb) (hlt : e < l.length)
    (hh : hset? hp f j (.rowD t 1 ((l.set e a).map emb)) = some hp') (hT : sizeTy P T 1 = true) :
    Zaw P F ⟨none, .store T x y, ty, pos, aft, g⟩ ⟨n, env, hp⟩ ⟨n, env, hp'⟩ (fun _ _ => true) := by
  subst hl hva;exact Za2 hx hy hv ho rfl (by simpa using hlt) List.map_set.symm hh hT
end
theorem RepD.anyNil {w : World} {O : Nat → Prop} {n : Option Bool} {xs : List D} {v : Value} (h : RepD w O (.sl n xs) v) : RepD w O (.sl none xs) v := by
  cases h with
  | sl k hn hz hln hc hm hk ha hp => exact .sl k (fun _ h => by cases h) hz hln hc hm hk ha hp
end Go.Proofs.Ytgdppeobgefogaa
/- Rows that a variable's cell owns become frozen. No program in sight. -/
namespace Go.Proofs.Ytgdppeobgefogaa
open Go.RowKit

section
variable {P : Program} {F : Fr} {Q : Exit → AS → Prop} {s : AS} {c : Code} {ops : Array Oper} {l l' : List Oper}
theorem Zbm {sn : Nat} {env : List (Nat × AV)} {hp : List (Nat × List AObj)} {α : Type} {emb : α → D} (t f : Nat) (l : List α) {n kk : Nat} {E : TypeId} {xs : List D} {env' : List (Nat × AV)} {hp1 hp' : Hp} (ht : get env t = some (.own f 0 n)) (hone : hfam hp f = some [.rowD E kk xs]) (hxs : xs = l.map emb) (hn : n = l.length) (hE : killE? f env = some env') (hH : killH? f hp = some hp1) (hh : hdel? f hp1 = some hp')
    (h : Awp P F c Q ⟨sn, (t, .d (.sl none (l.map emb))) :: env', hp'⟩) : Awp P F c Q ⟨sn, env, hp⟩ := by
  subst hxs hn;exact a_freeze t f ht (by simp [hget, hone, gl, isM]) (by simp) (by rw [List.take_of_length_le (by simp)]) hE hH hh hone h
theorem ZbM {sn : Nat} {env : List (Nat × AV)} {hp : List (Nat × List AObj)} {α : Type} {emb : α → D} (t f : Nat) (l : List α) {n kk : Nat} {E : TypeId} {xs : List D} {env' : List (Nat × AV)} {hp1 hp' : Hp} (ht : get env t = some (.own f 0 n)) (hone : hfam hp f = some [.rowD E kk xs]) (hxs : xs = l.map emb) (hn : n = l.length) (hE : killE? f env = some env') (hH : killH? f hp = some hp1) (hh : hdel? f hp1 = some hp')
    (h : Aops P F ops l' Q ⟨sn, (t, .d (.sl none (l.map emb))) :: env', hp'⟩) : Aops P F ops l' Q ⟨sn, env, hp⟩ := by
  subst hxs hn;exact o_freeze t f ht (by simp [hget, hone, gl, isM]) (by simp) (by rw [List.take_of_length_le (by simp)]) hE hH hh hone h
theorem SR.weakD {F : Fr} {s : AS} {ρ : Nat → Nat → Value} {act : Act} {w : World} (h : SR F s ρ act w) (t : Nat) {x : D} (y : D) (ht : get s.env t = some (.d x)) (hw : ∀ w O v, RepD w O x v → RepD w O y v) : SR F ⟨s.n, (t, .d y) :: s.env, s.hp⟩ ρ act w := by
  refine ⟨h.size, h.defs, fun t' a ha => ?_, h.heap⟩;rcases Zbn ha with ⟨rfl, rfl⟩ | ⟨_, ha⟩
  · have hr := h.env t _ ht
    generalize act.tmps.getD t undef = v at hr
    cases hr with
    | d hr => exact .d (hw _ _ _ hr)
  · exact h.env t' a ha
theorem a_weakD {sn : Nat} {env : List (Nat × AV)} {hp : List (Nat × List AObj)} (t : Nat) {x : D} (y : D) (ht : get env t = some (.d x)) (hw : ∀ w O v, RepD w O x v → RepD w O y v) (h : Awp P F c Q ⟨sn, (t, .d y) :: env, hp⟩) : Awp P F c Q ⟨sn, env, hp⟩ := fun _ _ _ hs => h _ _ _ (hs.weakD t y ht hw)
theorem a_anyNil {sn : Nat} {env : List (Nat × AV)} {hp : List (Nat × List AObj)} (t : Nat) {n : Option Bool} {xs : List D} (ht : get env t = some (.d (.sl n xs))) (h : Awp P F c Q ⟨sn, (t, .d (.sl none xs)) :: env, hp⟩) : Awp P F c Q ⟨sn, env, hp⟩ := a_weakD t _ ht (fun _ _ _ h => h.anyNil) h
end
end Go.Proofs.Ytgdppeobgefogaa

/- Less is said of a variable's cell. No program in sight. -/
namespace Go.Proofs.Ytgdppeobgefogaa
open Go.RowKit

section
variable {P : Program} {F : Fr} {Q : Exit → AS → Prop} {c : Code} {ops : Array Oper} {l : List Oper}
end
end Go.Proofs.Ytgdppeobgefogaa
/- A range over a function: rounds as calls, the record as an owned object. No program in sight. -/
namespace Go.Proofs.Ytgdppeobgefogaa
open Go.RowKit

def RunY (P : Program) (l : Nat) (vs : List Value) (w : World) (R : Ending → World → Prop) : Prop :=
  ∃ r : Loop, w.heap[l]? = some (.loop r) ∧ vs.length = r.params.size ∧ RoundIn Fence.wide 0 P l r.fn ((r.params.zip vs.toArray).foldl (fun tmps (t, a) => tmps.setIfInBounds t a) r.tmps) r.assign r.body w R
theorem RunY.mono {P : Program} {l : Nat} {vs : List Value} {w : World} {R R' : Ending → World → Prop} (h : RunY P l vs w R) (hr : ∀ e w', R e w' → R' e w') : RunY P l vs w R' := by
  obtain ⟨r, h1, h2, h3⟩ := h;exact ⟨r, h1, h2, h3.mono hr⟩

def YCalls (P : Program) (l : Nat) (args : List AV) (H : Hp) (R : AV → Hp → Prop) : Prop :=
  ∀ (F : Fr) (ρ : Nat → Nat → Value) (vs : List Value), F.own0 = OwnB ρ H → F.pin = pinOf ρ H → F.top H → Heap F H ρ F.w0 → vs.length = args.length → (∀ (i : Nat) a v, args[i]? = some a → vs[i]? = some v → RepA F.w0 (F.O ρ H) ρ a v) →
    RunY P l vs F.w0 fun e w' => ∃ v r H' ρ', e = .returned v ∧ R r H' ∧ RepA w' (F.O ρ' H') ρ' r v ∧ Heap F H' ρ' w'
theorem YCalls.mono {P : Program} {l : Nat} {args : List AV} {H : Hp} {R R' : AV → Hp → Prop} (h : YCalls P l args H R) (hr : ∀ r H', R r H' → R' r H') : YCalls P l args H R' :=
  fun F ρ vs h1 h2 h2' h3 h4 h5 => (h F ρ vs h1 h2 h2' h3 h4 h5).mono fun _ _ ⟨v, r, H', ρ', a, b, c⟩ => ⟨v, r, H', ρ', a, hr _ _ b, c⟩

section
variable {P : Program} {F : Fr} {s : AS} {Q : Exit → AS → Prop}

end

theorem Heap.rnd {F : Fr} {hp : Hp} {ρ : Nat → Nat → Value} {w : World} (h : Heap F hp ρ w) (r : Option Nat) : Heap { F with rnd := r } hp ρ w :=
  ⟨h.sim, h.inj, h.mine, h.os, h.tape, h.output, h.size0, h.keep, h.pins, h.drawn⟩
def ALoop.fin (L : ALoop) (j : Option Code) : ALoop := { L with st := if j.isNone then .ready else .done, pend := j }
theorem SR.grow {F : Fr} {s : AS} {ρ : Nat → Nat → Value} {act : Act} {w : World} (hs : SR F s ρ act w) (o : Obj) : SR F s ρ act (w.alloc o) := by
  have hsz : w.heap.size ≤ (w.alloc o).heap.size := by rw [World.size_alloc]; omega
  have hb : ∀ b, b < w.heap.size → (w.alloc o).heap[b]? = w.heap[b]? := fun b hlt => by
    show (w.heap.push o)[b]? = _;rw [Array.getElem?_push_lt hlt, Array.getElem?_eq_getElem hlt]
  exact ⟨hs.size, hs.defs.mono hsz (fun b hlt _ => hb b hlt) (fun _ _ h => h), fun t a ha => (hs.env t a ha).mono hsz (fun b hlt _ => hb b hlt) (fun _ _ h => h) (fun _ _ _ => rfl), hs.heap.stay ⟨rfl, rfl, rfl, hs.heap.drawn⟩ hsz hb⟩
theorem Heap.ltO {F : Fr} {hp : Hp} {ρ : Nat → Nat → Value} {w : World} (h : Heap F hp ρ w) {b : Nat} (hb : F.O ρ hp b) : b < w.heap.size := by
  rcases hb with hb | hb
  · exact Nat.lt_of_lt_of_le (F.hOf b hb).1 h.size0
  · exact (h.mine b hb).1
theorem SR.mark {F : Fr} {s : AS} {ρ : Nat → Nat → Value} {act : Act} {w : World} (hs : SR F s ρ act w) (hF : F.lo ≤ F.w0.heap.size) : SR F s ρ { act with defers := markOf w.heap.size :: act.defers } (w.alloc (.deferred (some []))) := by
  have hg := hs.grow (.deferred (some []));obtain ⟨bs, h1, h2, h3⟩ := hg.defs;obtain ⟨bs', h1', _, h3'⟩ := hs.defs
  have hbs : bs = bs' := by
    exact (List.map_inj_right (fun a b h => by simpa [markOf] using h)).1 (h1.symm.trans h1')
  subst hbs;refine ⟨hg.size, ⟨w.heap.size :: bs, by rw [h1]; rfl, List.nodup_cons.2 ⟨fun hm => Nat.lt_irrefl _ (h3' _ hm).2.1, h2⟩, fun b hm => ?_⟩, hg.env, hg.heap⟩;rcases List.mem_cons.1 hm with rfl | hm
  · exact ⟨Nat.le_trans hF hs.heap.size0, by rw [World.size_alloc]; omega, fun ho => Nat.lt_irrefl _ (hs.heap.ltO ho), by show (w.heap.push _)[w.heap.size]? = _; simp⟩
  · exact h3 b hm

section
variable {α β : Type}
end

theorem FamsEq.mem {hp CH : Hp} {nm : List Nat} (h : FamsEq hp CH nm) {g : Nat} (hg : g ∈ nm) : hfam hp g = hfam CH g := by
  induction nm with
  | nil => cases hg
  | cons a r ih =>
    rcases List.mem_cons.1 hg with rfl | hg
    · exact h.1
    · exact ih h.2 hg
end Go.Proofs.Ytgdppeobgefogaa
