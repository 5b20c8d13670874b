/- Maps: keys read off without memory, finding a key, the typed lists behind a map. No program in sight. -/
import Derived.Test.YtgdppeobgefogaaMg9
import Derived.Maps.RangeRun
import Derived.Laws.StructEq
import Derived.WideLaws
namespace Go.Proofs.Ytgdppeobgefogaa
open Go.RowKit

def rawL? : List D → Option (List Value)
  | [] => some []
  | d :: r => match rawL? r with
    | none => none
    | some l => match d with
      | .raw v => some (v :: l)
      | _ => none
def D.val? : D → Option Value
  | .raw v => some v
  | .agg cs => match rawL? cs with
    | none => none
    | some l => some (.agg l.toArray)
  | _ => none
theorem rawL?_spec {w : World} {O : Nat → Prop} : ∀ {cs : List D} {l vs : List Value}, rawL? cs = some l → vs.length = cs.length → (∀ (i : Nat) c v, cs[i]? = some c → vs[i]? = some v → RepD w O c v) → vs = l
  | [], l, vs, h, hl, _ => by
    simp only [rawL?, Option.some.injEq] at h; subst h;exact List.eq_nil_of_length_eq_zero hl
  | d :: r, l, vs, h, hl, hr => by
    simp only [rawL?] at h
    split at h
    · cases h
    · rename_i l' hl'
      split at h
      · rename_i v
        injection h with h; subst h
        match vs, hl with
        | u :: us, hl =>
          have h0 := hr 0 _ u rfl rfl
          cases h0 with
          | raw _ => rw [rawL?_spec (w := w) (O := O) (vs := us) hl' (by simpa using hl) fun i c v hc hv => hr (i + 1) c v (by simpa using hc) (by simpa using hv)]
      · cases h
theorem RepD.val {w : World} {O : Nat → Prop} {d : D} {v v' : Value} (h : RepD w O d v) (hv : d.val? = some v') : v = v' := by
  cases d with
  | raw u => simp only [D.val?, Option.some.injEq] at hv; subst hv; cases h; rfl
  | agg cs =>
    simp only [D.val?] at hv
    split at hv
    · cases hv
    · rename_i l hl
      injection hv with hv; subst hv
      cases h with
      | agg h1 _ h3 => rw [rawL?_spec hl h1 h3]
  | _ => cases hv

section
variable {α : Type} [DecidableEq α]
def hitL (a : α) : List α → List MapEntry → Nat → Option (Nat × Value)
  | b :: r, e :: es, i => if a = b then some (i, e.val) else hitL a r es (i + 1)
  | _, _, _ => none
theorem hitL_none {a : α} : ∀ {l : List α} {es : List MapEntry} {i : Nat}, es.length = l.length → hitL a l es i = none → a ∉ l
  | [], _, _, _, _ => by simp
  | b :: r, [], _, h, _ => by simp at h
  | b :: r, e :: es, i, h, hh => by
    simp only [hitL] at hh
    split at hh
    · cases hh
    · rename_i hne
      simp only [List.mem_cons, not_or];exact ⟨hne, hitL_none (by simpa using h) hh⟩
theorem hitL_some {a : α} : ∀ {l : List α} {es : List MapEntry} {i j : Nat} {v : Value}, hitL a l es i = some (j, v) → i ≤ j ∧ l[j - i]? = some a ∧ (∃ e, es[j - i]? = some e ∧ e.val = v) ∧ ∀ k, k < j - i → l[k]? ≠ some a
  | [], [], _, _, _, h => by simp [hitL] at h
  | [], _ :: _, _, _, _, h => by simp [hitL] at h
  | b :: r, [], i, _, _, h => by simp [hitL] at h
  | b :: r, e :: es, i, j, v, h => by
    simp only [hitL] at h
    split at h
    · rename_i heq
      injection h with h; injection h with h1 h2; subst h1 h2 heq
      refine ⟨Nat.le_refl _, by simp, ⟨e, by simp, rfl⟩, fun k hk => by omega⟩
    · rename_i hne
      obtain ⟨h1, h2, ⟨e', h3, h4⟩, h5⟩ := hitL_some h;have he : j - i = (j - (i + 1)) + 1 := by omega
      refine ⟨by omega, by rw [he]; simpa using h2, ⟨e', by rw [he]; simpa using h3, h4⟩, fun k hk => ?_⟩
      cases k with
      | zero => simp; exact fun e => hne e.symm
      | succ k => simpa using h5 k (by omega)

structure KeyTy (P : Program) (K : TypeId) (eK : α → D) (kv : α → Value) : Prop where
  val : ∀ a, (eK a).val? = some (kv a)
  check : ∀ w em a, (Instr.checkKey em 10000 K (kv a)).run P w = .ok () w
  find : ∀ w a (es : List MapEntry) (l : List α), es.map (·.key) = l.map kv → (Instr.findKey K (kv a) es).run P w = .ok (hitL a l es 0) w
  stays : ∀ w a, (Instr.keyThatStays (kv a) (kv a)).run P w = .ok (kv a) w

theorem findNow_hit {d : TypeDesc} {kv : α → Value} (hs : ∀ a b, Instr.sameNow d (kv a) (kv b) = some (decide (a = b))) (a : α) : ∀ (l : List α) (es : List MapEntry) (i : Nat), es.map (·.key) = l.map kv → Instr.findNow d (kv a) es i = some (hitL a l es i)
  | [], [], i, _ => rfl
  | [], _ :: _, _, h => by simp at h
  | _ :: _, [], _, h => by simp at h
  | b :: r, e :: es, i, h => by
    simp only [List.map_cons, List.cons.injEq] at h;simp only [Instr.findNow, h.1, hs, hitL]
    by_cases hab : a = b
    · simp [hab]
    · simp only [hab, decide_false, if_false]; exact findNow_hit hs a r es (i + 1) h.2
theorem findAsking_hit {P : Program} {K : TypeId} {kv : α → Value} (hs : ∀ w a b, (Op.equal K (kv a) (kv b)).run P w = .ok (decide (a = b)) w) (w : World) (a : α) : ∀ (l : List α) (es : List MapEntry) (i : Nat), es.map (·.key) = l.map kv → (Instr.findAsking K (kv a) es i).run P w = .ok (hitL a l es i) w
  | [], [], i, _ => rfl
  | [], _ :: _, _, h => by simp at h
  | _ :: _, [], _, h => by simp at h
  | b :: r, e :: es, i, h => by
    simp only [List.map_cons, List.cons.injEq] at h;simp only [Instr.findAsking, Sem.run_bind, h.1, hs, Result.andThen_ok, hitL]
    by_cases hab : a = b
    · simp [hab]
    · simp only [hab, decide_false, Bool.false_eq_true, if_false]; exact findAsking_hit hs w a r es (i + 1) h.2
theorem KeyTy.plain {P : Program} {K : TypeId} {eK : α → D} {kv : α → Value} {d : TypeDesc} (hd : P.underlying K = some d) (hv : ∀ a, (eK a).val? = some (kv a)) (hk : ∀ a, MapKept.IsKey d (kv a)) (hs : ∀ a b, Instr.sameNow d (kv a) (kv b) = some (decide (a = b))) : KeyTy P K eK kv where
  val := hv
  check _ em a := MapKept.run_checkKey hd (hk a) em 9999
  find _ a es l h := MapKept.run_findKey hd (findNow_hit hs a l es 0 h)
  stays _ a := MapKept.run_keyThatStays (hk a)
theorem KeyTy.asking {P : Program} {K : TypeId} {eK : α → D} {kv : α → Value} {d : TypeDesc} (hd : P.underlying K = some d) (hv : ∀ a, (eK a).val? = some (kv a)) (hc : ∀ w em a, (Instr.checkKey em 10000 K (kv a)).run P w = .ok () w) (hs : ∀ w a b, (Op.equal K (kv a) (kv b)).run P w = .ok (decide (a = b)) w) (hn : ∀ a b, Instr.sameNow d (kv a) (kv b) = none) (ht : ∀ w a, (Instr.keyThatStays (kv a) (kv a)).run P w = .ok (kv a) w) : KeyTy P K eK kv where
  val := hv
  check := hc
  find w a es l h := by
    simp only [Instr.findKey, Sem.run_bind, run_underlying hd, Result.andThen_ok]
    cases es with
    | nil =>
      cases l with
      | nil => rfl
      | cons _ _ => simp at h
    | cons e es =>
      cases l with
      | nil => simp at h
      | cons b r =>
        have h' := h;simp only [List.map_cons, List.cons.injEq] at h;simp only [Instr.findNow, h.1, hn];exact findAsking_hit hs w a _ _ 0 h'
  stays := ht

variable {β : Type}
def mget : List (α × β) → α → β → β
  | [], _, z => z
  | (k, b) :: r, a, z => if a = k then b else mget r a z
def mhas : List (α × β) → α → Bool
  | [], _ => false
  | (k, _) :: r, a => decide (a = k) || mhas r a
def mput : List (α × β) → α → β → List (α × β)
  | [], a, b => [(a, b)]
  | (k, b') :: r, a, b => if a = k then (k, b) :: r else (k, b') :: mput r a b
def mix : List (α × β) → α → Nat
  | [], _ => 0
  | (k, _) :: r, a => if a = k then 0 else mix r a + 1
theorem mget_put (m : List (α × β)) (a a' : α) (b z : β) : mget (mput m a b) a' z = if a' = a then b else mget m a' z := by
  induction m with
  | nil => simp [mput, mget]
  | cons p r ih =>
    obtain ⟨k, b'⟩ := p;simp only [mput]
    by_cases h : a = k
    · subst h
      by_cases h2 : a' = a <;> simp [mget, h2]
    · simp only [h, if_false, mget, ih]
      by_cases h2 : a' = k
      · subst h2; simp [Ne.symm h]
      · simp [h2]
theorem mput_ix {m : List (α × β)} {a : α} {b : β} : (mput m a b)[mix m a]? = some (a, b) ∧ ∀ j, j ≠ mix m a → (mput m a b)[j]? = m[j]? := by
  induction m with
  | nil =>
    refine ⟨by simp [mput, mix], fun j hj => ?_⟩
    cases j with
    | zero => simp [mix] at hj
    | succ j => simp [mput]
  | cons p r ih =>
    obtain ⟨k, b'⟩ := p
    by_cases h : a = k
    · subst h;refine ⟨by simp [mput, mix], fun j hj => ?_⟩
      cases j with
      | zero => simp [mix] at hj
      | succ j => simp [mput]
    · refine ⟨by simp [mput, mix, h, ih.1], fun j hj => ?_⟩
      cases j with
      | zero => simp [mput, h]
      | succ j => simpa [mput, h] using ih.2 j (by simpa [mix, h] using hj)
theorem mput_len {m : List (α × β)} {a : α} {b : β} : (mput m a b).length = max m.length (mix m a + 1) ∧ mix m a ≤ m.length := by
  induction m with
  | nil => simp [mput, mix]
  | cons p r ih =>
    obtain ⟨k, b'⟩ := p
    by_cases h : a = k
    · subst h; simp [mput, mix]
    · simp only [mput, mix, h, if_false, List.length_cons]; omega
theorem mhas_iff {m : List (α × β)} {a : α} : mhas m a = true ↔ a ∈ m.map Prod.fst := by
  induction m with
  | nil => simp [mhas]
  | cons p r ih => obtain ⟨k, b⟩ := p; simp [mhas, ih]
theorem mget_of_mem {m : List (α × β)} {a : α} {b z : β} (hn : (m.map Prod.fst).Nodup) (h : (a, b) ∈ m) : mget m a z = b := by
  induction m with
  | nil => cases h
  | cons p r ih =>
    obtain ⟨k, b'⟩ := p;simp only [List.map_cons, List.nodup_cons] at hn;simp only [mget];rcases List.mem_cons.1 h with h' | h'
    · injection h' with h1 h2; subst h1 h2; simp
    · have hne : a ≠ k := fun e => by subst e; exact hn.1 (List.mem_map_of_mem (f := Prod.fst) h')
      rw [if_neg hne]; exact ih hn.2 h'
theorem mget_none {m : List (α × β)} {a : α} {z : β} (h : a ∉ m.map Prod.fst) : mget m a z = z := by
  induction m with
  | nil => rfl
  | cons p r ih =>
    obtain ⟨k, b'⟩ := p;simp only [List.map_cons, List.mem_cons, not_or] at h;simp only [mget, h.1, if_false]; exact ih h.2
theorem mget_mem {m : List (α × β)} {a : α} {z : β} (h : a ∈ m.map Prod.fst) : (a, mget m a z) ∈ m := by
  induction m with
  | nil => simp at h
  | cons p r ih =>
    obtain ⟨k, b'⟩ := p
    by_cases e : a = k
    · subst e; simp [mget]
    · simp only [List.map_cons, List.mem_cons, e, false_or] at h;simp only [mget, e, if_false]; exact List.mem_cons_of_mem _ (ih h)

def lft (m : List (α × β)) (B seen : List Nat) : List (α × β) := ((m.zip B).filter fun p => !(seen.contains p.2)).map Prod.fst
omit [DecidableEq α] in
theorem lft_start {m : List (α × β)} {B : List Nat} (h : B.length = m.length) : lft m B [] = m := by
  unfold lft;rw [List.filter_eq_self.2 (by simp)];exact List.map_fst_zip (by omega)
omit [DecidableEq α] in
theorem lft_next : ∀ {m : List (α × β)} {B seen : List Nat} {j b : Nat} {x : α × β}, B.Nodup → m[j]? = some x → B[j]? = some b → b ∉ seen → (lft m B seen).Perm (x :: lft m B (seen ++ [b]))
  | [], _, _, _, _, _, _, h, _, _ => by simp at h
  | y :: m, [], _, _, _, _, _, _, h, _ => by simp at h
  | y :: m, c :: B, seen, j, b, x, hn, hx, hb, hs => by
    simp only [List.nodup_cons] at hn
    cases j with
    | zero =>
      simp at hx hb; subst hx hb
      have e : ∀ (m : List (α × β)) (B : List Nat), c ∉ B → lft m B (seen ++ [c]) = lft m B seen := fun m B h => by
        unfold lft
        congr 1
        refine List.filter_congr fun p hp => ?_;have : p.2 ≠ c := fun e => h (by rw [← e]; exact (List.of_mem_zip hp).2)
        simp [this]
      have h1 : lft (y :: m) (c :: B) seen = y :: lft m B seen := by simp [lft, hs]
      have h2 : lft (y :: m) (c :: B) (seen ++ [c]) = lft m B (seen ++ [c]) := by simp [lft]
      rw [h1, h2, e m B hn.1]
    | succ j =>
      have ih := lft_next (seen := seen) hn.2 (by simpa using hx) (by simpa using hb) hs;have hbB : b ∈ B := List.mem_of_getElem? (by simpa using hb);have hcb : c ≠ b := fun e => hn.1 (by rw [e]; exact hbB)
      by_cases hcs : c ∈ seen
      · have h1 : lft (y :: m) (c :: B) seen = lft m B seen := by simp [lft, hcs]
        have h2 : lft (y :: m) (c :: B) (seen ++ [b]) = lft m B (seen ++ [b]) := by simp [lft, hcs]
        rw [h1, h2]; exact ih
      · have h1 : lft (y :: m) (c :: B) seen = y :: lft m B seen := by simp [lft, hcs]
        have h2 : lft (y :: m) (c :: B) (seen ++ [b]) = y :: lft m B (seen ++ [b]) := by simp [lft, hcs, hcb]
        rw [h1, h2];exact (List.Perm.cons _ ih).trans (List.Perm.swap _ _ _)
end
end Go.Proofs.Ytgdppeobgefogaa

/- The rules of maps' operations. No program in sight. -/
namespace Go.Proofs.Ytgdppeobgefogaa
open Go.RowKit

def valA? : Value → Option AV
  | .agg cs => match constL? cs.toList with
    | none => none
    | some l => mkAgg? l
  | v => constAV? v
def zeroA? (P : Program) (T : TypeId) : Option AV := match P.info? T with
  | none => none
  | some i => match i.zero with
    | none => none
    | some z => valA? z
theorem valA?_spec {v : Value} {a : AV} (h : valA? v = some a) (w : World) (O : Nat → Prop) (ρ : Nat → Nat → Value) : RepA w O ρ a v := by
  unfold valA? at h
  split at h
  · rename_i cs
    split at h
    · cases h
    · rename_i l hl
      obtain ⟨h1, h2⟩ := constL?_spec hl w O ρ;have := mkAgg?_spec (w := w) (O := O) (ρ := ρ) h h1 h2
      simpa using this
  · exact (rep_const h).1
theorem zeroA?_spec {P : Program} {T : TypeId} {a : AV} (h : zeroA? P T = some a) (w : World) : ∃ z, (zeroValue T).run P w = .ok z w ∧ ∀ (w' : World) O ρ, RepA w' O ρ a z := by
  unfold zeroA? at h
  split at h
  · cases h
  · rename_i i hi
    split at h
    · cases h
    · rename_i z hz
      exact ⟨z, by simp [zeroValue, typeInfo, hi, hz], fun w' O ρ => valA?_spec h w' O ρ⟩

def mapTyB (P : Program) (T K E : TypeId) : Bool := match P.underlying T with
  | some (.map k e) => Nat.beq k K && Nat.beq e E
  | _ => false
theorem mapTy_spec {P : Program} {T K E : TypeId} (h : mapTyB P T K E = true) : P.underlying T = some (.map K E) := by
  unfold mapTyB at h
  split at h
  · rename_i k e hk
    simp only [Bool.and_eq_true] at h;rw [hk, Nat.eq_of_beq_eq_true h.1, Nat.eq_of_beq_eq_true h.2]
  · cases h

section
variable {α β : Type} [DecidableEq α]
def ents (eK : α → D) (eV : β → D) (m : List (α × β)) : List (D × D) := m.map fun x => (eK x.1, eV x.2)
def mapC (eK : α → D) (eV : β → D) (m : List (α × β)) : AObj := .map (some (List.range m.length, m.length)) (ents eK eV m)
def mapH (eK : α → D) (eV : β → D) (m : List (α × β)) : AObj := .map none (ents eK eV m)

variable {P : Program} {F : Fr} {s : AS} {K : TypeId} {eK : α → D} {kv : α → Value} {eV : β → D}
theorem ents_keys (KT : KeyTy P K eK kv) {w : World} {O : Nat → Prop} {m : List (α × β)} {arr : Array MapEntry} (hz : arr.size = (ents eK eV m).length)
    (h : ∀ (i : Nat) e x, arr[i]? = some e → (ents eK eV m)[i]? = some x → RepD w O x.1 e.key ∧ RepD w O x.2 e.val) : arr.toList.map (·.key) = (m.map Prod.fst).map kv := by
  simp only [ents, List.length_map] at hz;refine List.ext_getElem? fun i => ?_;simp only [List.getElem?_map, Array.getElem?_toList]
  cases ha : arr[i]? with
  | none =>
    have : arr.size ≤ i := Array.getElem?_eq_none_iff.1 ha;rw [List.getElem?_eq_none (by omega)]; rfl
  | some e =>
    have hlt : i < m.length := by have := (Array.getElem?_eq_some_iff.1 ha).1; omega
    rw [List.getElem?_eq_getElem hlt];have h1 := (h i e (eK m[i].1, eV m[i].2) ha (by simp [ents, hlt])).1;simp only [Option.map_some, Option.some.injEq];exact h1.val (KT.val _)
theorem hit_get (KT : KeyTy P K eK kv) {w : World} {O : Nat → Prop} {m : List (α × β)} {arr : Array MapEntry} (hz : arr.size = (ents eK eV m).length)
    (h : ∀ (i : Nat) e x, arr[i]? = some e → (ents eK eV m)[i]? = some x → RepD w O x.1 e.key ∧ RepD w O x.2 e.val) (a : α) (z : β) :
    (hitL a (m.map Prod.fst) arr.toList 0 = none ∧ mhas m a = false ∧ mget m a z = z ∧ mix m a = m.length) ∨ ∃ i e, hitL a (m.map Prod.fst) arr.toList 0 = some (i, e.val) ∧ arr[i]? = some e ∧ e.key = kv a ∧ mhas m a = true ∧ mix m a = i ∧ i < m.length ∧ RepD w O (eV (mget m a z)) e.val := by
  have hlen : arr.toList.length = (m.map Prod.fst).length := by simpa [ents] using hz
  cases hh : hitL a (m.map Prod.fst) arr.toList 0 with
  | none =>
    have hn := hitL_none hlen hh;refine .inl ⟨rfl, ?_, mget_none hn, ?_⟩
    · cases hm : mhas m a with
      | false => rfl
      | true => exact absurd (mhas_iff.1 hm) hn
    · clear hh hlen hz h
      induction m with
      | nil => rfl
      | cons p r ih =>
        obtain ⟨k, b⟩ := p;simp only [List.map_cons, List.mem_cons, not_or] at hn
        simp [mix, hn.1, ih hn.2]
  | some q =>
    obtain ⟨i, v⟩ := q;obtain ⟨_, h2, ⟨e, h3, h4⟩, h5⟩ := hitL_some hh;simp only [Nat.sub_zero, Array.getElem?_toList] at h2 h3 h5;rw [List.getElem?_map] at h2
    have hi : i < m.length := by
      cases hm : m[i]? with
      | none => rw [hm] at h2; cases h2
      | some x => exact (List.getElem?_eq_some_iff.1 hm).1
    have hx : (m[i]).1 = a := by rw [List.getElem?_eq_getElem hi] at h2; simpa using h2
    have hkey : mix m a = i ∧ mget m a z = (m[i]).2 := by
      clear hh hlen hz h h3 h4
      induction m generalizing i with
      | nil => simp at hi
      | cons p r ih =>
        obtain ⟨k, b⟩ := p
        cases i with
        | zero => simp at hx; subst hx; simp [mix, mget]
        | succ i =>
          have hne : a ≠ k := fun e => h5 0 (by omega) (by simp [e]);have h5' : ∀ k', k' < i → (r.map Prod.fst)[k']? ≠ some a := fun k' hk' => by simpa using h5 (k' + 1) (by omega)
          have := ih i (Nat.zero_le _) (by rw [List.getElem?_cons_succ] at h2; exact h2) h5' (by simpa using hi) (by simpa using hx)
          simp [mix, mget, hne, this]
    obtain ⟨g1, g2⟩ := h i e (eK m[i].1, eV m[i].2) h3 (by simp [ents, hi]);refine .inr ⟨i, e, by rw [← h4], h3, ?_, mhas_iff.2 (by rw [← hx]; exact List.mem_map_of_mem (List.getElem_mem hi)), hkey.1, hi, by rw [hkey.2]; exact g2⟩;have := g1.val (KT.val _);rw [this, hx]

variable {d : Nat} {ty T E : TypeId} {pos : String} {aft : Array Edge} {g : Option (Nat × Bool)} {x y z : Operand} {bs : Option (List Nat × Nat)}
theorem SR.mapAt {ρ : Nat → Nat → Value} {act : Act} {w : World} (hs : SR F s ρ act w) {f i : Nat} {es : List (D × D)} (hx : s.ev x = some (.map f i)) (ho : hget s.hp f i = some (.map bs es)) :
    ∃ (mb : Nat) (arr : Array MapEntry) (c : Nat), act.eval x = .map (some mb) ∧ ρ f i = .map (some mb) ∧ w.heap[mb]? = some (.map arr c) ∧ arr.size = es.length ∧ (∀ (i : Nat) e x, arr[i]? = some e → es[i]? = some x → RepD w (F.O ρ s.hp) x.1 e.key ∧ RepD w (F.O ρ s.hp) x.2 e.val) ∧
      (arr.toList.map (·.born)).Nodup ∧ (∀ e ∈ arr.toList, e.born < c) ∧ ∀ B c', bs = some (B, c') → B = arr.toList.map (·.born) ∧ c' = c := by
  have hrx := hs.ev hx;obtain ⟨mb, arr, c, h1, h2⟩ := hs.heap.sim f i _ ho
  generalize act.eval x = vx at hrx
  cases hrx with
  | @map _ _ m' h => rw [h1] at h; injection h with h; injection h with h; subst h; exact ⟨mb, arr, c, rfl, h1, h2⟩

theorem st_look (m : List (α × β)) (a : α) (b0 v : β) {f i : Nat} (hx : s.ev x = some (.map f i)) (ho : hget s.hp f i = some (.map bs (ents eK eV m))) (hy : s.ev y = some (.d (eK a))) (hT : mapTyB P T K E = true) (KT : KeyTy P K eK kv) (hz : zeroA? P E = some (.d (eV b0))) (hv : mget m a b0 = v) (hd : Nat.blt d s.n = true) :
    Zab P F ⟨some d, .lookup T x y false, ty, pos, aft, g⟩ s d (.d (eV v)) :=
  ZaE _ hd fun ρ act w hs => by
    obtain ⟨mb, arr, c, e1, _, h1, h2, h3, _⟩ := hs.mapAt hx ho;have hk : act.eval y = kv a := (hs.repD hy).val (KT.val a);obtain ⟨zv, hz1, hz2⟩ := zeroA?_spec hz w;subst hv;rcases hit_get KT h2 h3 a b0 with ⟨g1, _, g3, _⟩ | ⟨j, e, g1, g2, _, _, _, _, g7⟩
    · refine ⟨zv, ?_, by rw [g3]; exact hz2 _ _ _⟩
      simp [execOp, Instr.lookup, run_underlying (mapTy_spec hT), e1, hk, MapKept.run_getObj_map h1, KT.check, KT.find w a _ _ (ents_keys KT h2 h3), g1, hz1, Result.andThen]
    · refine ⟨e.val, ?_, .d g7⟩
      simp [execOp, Instr.lookup, run_underlying (mapTy_spec hT), e1, hk, MapKept.run_getObj_map h1, KT.check, KT.find w a _ _ (ents_keys KT h2 h3), g1, Result.andThen]
theorem st_makeMap (f : Nat) {env' : List (Nat × AV)} {hp1 hp' : List (Nat × List AObj)} (hE : killE? f s.env = some env') (hH : killH? f s.hp = some hp1) (hn : hnew? hp1 f (.map (some ([], 0)) []) = some hp') (hd : Nat.blt d s.n = true) :
    Zaw P F ⟨some d, .makeMap T none, ty, pos, aft, g⟩ s ⟨s.n, (d, .map f 0) :: env', hp'⟩ (notFam f) := fun ρ act w hs => by
  have hrun : (execOp act.eval ⟨some d, .makeMap T none, ty, pos, aft, g⟩).run P w = .ok (.value (.map (some w.heap.size))) (w.alloc (.map #[] 0)) := by
    simp [execOp, run_makeMap, Result.andThen]
  unfold Oper.wp;rw [hrun];have hsr := hs.new f (.map (some ([], 0)) []) (.map (some w.heap.size)) (.map #[] 0) hE hH hn rfl (fun hrep => ⟨w.heap.size, #[], 0, rfl, heap_alloc_new w _, rfl, by simp, by simp, by simp, fun B c' e => by injection e with e; injection e with e1 e2; subst e1 e2; simp⟩);exact ⟨_, hsr.put (Za3 hd) (.map Zbv), fun f i h => Zbd fun e => Zbx h e.1⟩
end
end Go.Proofs.Ytgdppeobgefogaa

/- The rules of maps' operations that write, and of ranges over maps. No program in sight. -/
namespace Go.Proofs.Ytgdppeobgefogaa
open Go.RowKit Go.ChangeMaps

section
variable {α β : Type} [DecidableEq α]
variable {P : Program} {F : Fr} {s : AS} {K : TypeId} {eK : α → D} {kv : α → Value} {eV : β → D}
variable {d : Nat} {ty T E : TypeId} {pos : String} {aft : Array Edge} {g : Option (Nat × Bool)} {x y z : Operand} {bs : Option (List Nat × Nat)}

def bsPut (m : List (α × β)) (a : α) : Option (List Nat × Nat) → Option (List Nat × Nat)
  | none => none
  | some (B, c) => if mix m a < m.length then some (B, c) else some (B ++ [c], c + 1)
theorem bsPut_canon (m : List (α × β)) (a : α) (b : β) : bsPut m a (some (List.range m.length, m.length)) = some (List.range (mput m a b).length, (mput m a b).length) := by
  obtain ⟨h1, h2⟩ := mput_len (m := m) (a := a) (b := b);unfold bsPut
  by_cases h : mix m a < m.length
  · simp only [h, if_true, show (mput m a b).length = m.length by omega]
  · simp only [h, if_false, show (mput m a b).length = m.length + 1 by omega, List.range_succ]

theorem simMap_put (_ : KeyTy P K eK kv) {w w' : World} {O O' : Nat → Prop} {ρ : Nat → Nat → Value} {m : List (α × β)} {a : α} {b : β} {arr arr' : Array MapEntry} {c c' mb : Nat} {v : Value}
    (hz : arr.size = (ents eK eV m).length) (h : ∀ (i : Nat) e x, arr[i]? = some e → (ents eK eV m)[i]? = some x → RepD w O x.1 e.key ∧ RepD w O x.2 e.val)
    (hn : (arr.toList.map (·.born)).Nodup) (hb : ∀ e ∈ arr.toList, e.born < c) (hbs : ∀ B c', bs = some (B, c') → B = arr.toList.map (·.born) ∧ c' = c)
    (hrep : ∀ A v, RepA w O ρ A v → RepA w' O' ρ A v) (hv : RepD w' O' (eV b) v) (hkr : RepD w' O' (eK a) (kv a))
    (hcase : (mix m a = m.length ∧ arr' = arr.push { key := kv a, val := v, born := c } ∧ c' = c + 1) ∨ ∃ e, arr[mix m a]? = some e ∧ mix m a < m.length ∧ arr' = (arr.modify (mix m a) fun e => { e with key := kv a, val := v }) ∧ c' = c)
    (hblk : w'.heap[mb]? = some (.map arr' c')) : SimObj w' O' ρ (.map (bsPut m a bs) (ents eK eV (mput m a b))) (.map (some mb)) := by
  have hzm : arr.size = m.length := by simpa [ents] using hz
  obtain ⟨l1, l2⟩ := mput_len (m := m) (a := a) (b := b);obtain ⟨p1, p2⟩ := mput_ix (m := m) (a := a) (b := b)
  have hrepD : ∀ x v, RepD w O x v → RepD w' O' x v := fun x v hx => by
    have := hrep (.d x) v (.d hx)
    cases this with | d h => exact h
  rcases hcase with ⟨hm, rfl, rfl⟩ | ⟨e0, he0, hlt, rfl, rfl⟩
  · refine ⟨mb, _, _, rfl, hblk, ?_, fun i e x he hx => ?_, ?_, fun e he => ?_, fun B c' hB => ?_⟩
    · simp [ents]; omega
    · have hi : i < (mput m a b).length := by have := (List.getElem?_eq_some_iff.1 hx).1; simpa [ents] using this
      by_cases hie : i = m.length
      · subst hie;rw [Array.getElem?_push, if_pos hzm.symm] at he;injection he with he; subst he
        have : (ents eK eV (mput m a b))[m.length]? = some (eK a, eV b) := by
          have := p1; rw [hm] at this; simp [ents, this]
        rw [this] at hx; injection hx with hx; subst hx
        exact ⟨hkr, hv⟩
      · rw [Array.getElem?_push, if_neg (by omega)] at he
        have hx' : (ents eK eV m)[i]? = some x := by
          have := p2 i (by omega);simp only [ents, List.getElem?_map, this] at hx ⊢;exact hx
        obtain ⟨g1, g2⟩ := h i e x he hx';exact ⟨hrepD _ _ g1, hrepD _ _ g2⟩
    · simp only [Array.toList_push, List.map_append, List.map_cons, List.map_nil];rw [List.nodup_append];refine ⟨hn, by simp, fun u hu v' hv' => ?_⟩
      simp at hv'; subst hv'
      obtain ⟨e, he, rfl⟩ := List.mem_map.1 hu;have := hb e he; omega
    · simp only [Array.toList_push, List.mem_append, List.mem_cons, List.not_mem_nil, or_false] at he;rcases he with he | rfl
      · have := hb e he; omega
      · show c < c + 1; omega
    · cases bs with
      | none => cases hB
      | some q =>
        obtain ⟨B0, c0⟩ := q;obtain ⟨rfl, rfl⟩ := hbs B0 c0 rfl;simp only [bsPut, hm, Nat.lt_irrefl, if_false, Option.some.injEq, Prod.mk.injEq] at hB;obtain ⟨rfl, rfl⟩ := hB
        simp
  · have hie : ∀ (i : Nat) e, (arr.modify (mix m a) fun e => { e with key := kv a, val := v })[i]? = some e → ∃ e1, arr[i]? = some e1 ∧ e = if i = mix m a then { e1 with key := kv a, val := v } else e1 := fun i e he => by
      rw [Array.getElem?_modify] at he
      split at he
      · rename_i hh; subst hh
        rw [he0] at he; simp at he; subst he;exact ⟨e0, he0, by simp⟩
      · rename_i hh; exact ⟨e, he, by rw [if_neg (fun hh' => hh hh'.symm)]⟩
    have hborn : (arr.modify (mix m a) fun e => { e with key := kv a, val := v }).toList.map (·.born) = arr.toList.map (·.born) := by
      refine List.ext_getElem? fun i => ?_;simp only [List.getElem?_map, Array.getElem?_toList, Array.getElem?_modify]
      split
      · rename_i hh; subst hh; rw [he0]; rfl
      · rfl
    refine ⟨mb, _, _, rfl, hblk, ?_, fun i e x he hx => ?_, by rw [hborn]; exact hn, fun e he => ?_, fun B c' hB => ?_⟩
    · simp [ents]; omega
    · obtain ⟨e1, h1, rfl⟩ := hie i e he
      by_cases hii : i = mix m a
      · subst hii;rw [if_pos rfl];have : (ents eK eV (mput m a b))[mix m a]? = some (eK a, eV b) := by simp [ents, p1]
        rw [this] at hx; injection hx with hx; subst hx
        exact ⟨hkr, hv⟩
      · rw [if_neg hii]
        have hx' : (ents eK eV m)[i]? = some x := by
          have := p2 i hii;simp only [ents, List.getElem?_map, this] at hx ⊢;exact hx
        obtain ⟨g1, g2⟩ := h i e1 x h1 hx';exact ⟨hrepD _ _ g1, hrepD _ _ g2⟩
    · have : e.born ∈ (arr.modify (mix m a) fun e => { e with key := kv a, val := v }).toList.map (·.born) := List.mem_map_of_mem (f := (·.born)) he;rw [hborn] at this;obtain ⟨e1, h1, h2⟩ := List.mem_map.1 this;rw [← h2]; exact hb e1 h1
    · cases bs with
      | none => cases hB
      | some q =>
        obtain ⟨B0, c0⟩ := q;simp only [bsPut, hlt, if_true, Option.some.injEq, Prod.mk.injEq] at hB;obtain ⟨rfl, rfl⟩ := hB;rw [hborn]; exact hbs _ _ rfl

theorem setBlock_other {w : World} {b : Nat} {o : Obj} {i : Nat} (h : i ≠ b) : (setBlock w b o).heap[i]? = w.heap[i]? := by
  simp [setBlock, Ne.symm h]
theorem setBlock_same {w : World} {b : Nat} {o o' : Obj} (h : w.heap[b]? = some o') : (setBlock w b o).heap[b]? = some o := by
  have := (Array.getElem?_eq_some_iff.1 h).1
  simp [setBlock, this]
theorem setBlock_size {w : World} {b : Nat} {o : Obj} : (setBlock w b o).heap.size = w.heap.size := by simp [setBlock]

theorem st_mapU0 (m : List (α × β)) (a : α) (b : β) {f i : Nat} {hp' : List (Nat × List AObj)} (hx : s.ev x = some (.map f i)) (ho : hget s.hp f i = some (.map bs (ents eK eV m))) (hy : s.ev y = some (.d (eK a))) (hT : mapTyB P T K E = true) (KT : KeyTy P K eK kv) (hz : s.ev z = some (.d (eV b)))
    (hh : hset? s.hp f i (.map (bsPut m a bs) (ents eK eV (mput m a b))) = some hp') : Zaw P F ⟨none, .mapUpdate T x y z, ty, pos, aft, g⟩ s ⟨s.n, s.env, hp'⟩ (fun _ _ => true) := fun ρ act w hs => by
  obtain ⟨mb, arr, c, e1, e2, h1, h2, h3, h4, h5, h6⟩ := hs.mapAt hx ho;have hk : act.eval y = kv a := (hs.repD hy).val (KT.val a);have hkr : RepD w (F.O ρ s.hp) (eK a) (kv a) := hk ▸ hs.repD hy;have hvr := hs.ev hz
  have fin : ∀ arr' c', (execOp act.eval ⟨none, .mapUpdate T x y z, ty, pos, aft, g⟩).run P w = .ok .skip (setBlock w mb (.map arr' c')) → ((mix m a = m.length ∧ arr' = arr.push { key := kv a, val := act.eval z, born := c } ∧ c' = c + 1) ∨ ∃ e, arr[mix m a]? = some e ∧ mix m a < m.length ∧ arr' = (arr.modify (mix m a) fun e => { e with key := kv a, val := act.eval z }) ∧ c' = c) →
      (⟨none, .mapUpdate T x y z, ty, pos, aft, g⟩ : Oper).wp P act w (fun act' w' => ∃ ρ', SR F ⟨s.n, s.env, hp'⟩ ρ' act' w' ∧ ∀ f i, (fun _ _ => true) f i = true → ρ' f i = ρ f i) (fun _ _ _ => False) := fun arr' c' hrun hcase => by
    unfold Oper.wp;rw [hrun];refine ⟨ρ, hs.write f i _ (.map (bsPut m a bs) (ents eK eV (mput m a b))) ho (hset?_spec hh) rfl rfl rfl setBlock_size (fun b' hb' => setBlock_other fun e => hb' (by rw [e2, e]; rfl)) (fun _ _ e => by cases e) fun hrep => ?_, fun _ _ _ => rfl⟩;rw [e2];refine simMap_put KT h2 h3 h4 h5 h6 hrep (by have := hrep _ _ hvr; cases this with | d h => exact h) ?_ hcase (setBlock_same h1);have := hrep (.d (eK a)) _ (.d hkr)
    cases this with | d h => exact h
  rcases hit_get KT h2 h3 a b with ⟨g1, _, _, g4⟩ | ⟨j, e, g1, g2, g3, _, g5, g6, _⟩
  · refine fin _ _ ?_ (.inl ⟨g4, rfl, rfl⟩)
    simp [execOp, Instr.mapUpdate, run_underlying (mapTy_spec hT), e1, hk, MapKept.run_getObj_map h1, KT.check, KT.find w a _ _ (ents_keys KT h2 h3), g1, Result.andThen, MapKept.run_setObj_map _ h1, setBlock]
  · refine fin _ _ ?_ (.inr ⟨e, by rw [g5]; exact g2, by rw [g5]; exact g6, rfl, rfl⟩)
    simp [execOp, Instr.mapUpdate, run_underlying (mapTy_spec hT), e1, hk, MapKept.run_getObj_map h1, KT.check, KT.find w a _ _ (ents_keys KT h2 h3), g1, g2, g3, g5, Result.andThen, MapKept.run_setObj_map _ h1, setBlock, KT.stays]
theorem st_mapU {n : Nat} {env : List (Nat × AV)} {hp hp' : List (Nat × List AObj)} (m : List (α × β)) (a : α) (b : β) {f i : Nat} (hx : AS.ev ⟨n, env, hp⟩ x = some (.map f i)) (ho : hget hp f i = some (mapC eK eV m)) (hy : AS.ev ⟨n, env, hp⟩ y = some (.d (eK a))) (hT : mapTyB P T K E = true) (KT : KeyTy P K eK kv) (hz : AS.ev ⟨n, env, hp⟩ z = some (.d (eV b)))
    (hh : hset? hp f i (mapC eK eV (mput m a b)) = some hp') : Zaw P F ⟨none, .mapUpdate T x y z, ty, pos, aft, g⟩ ⟨n, env, hp⟩ ⟨n, env, hp'⟩ (fun _ _ => true) :=
  st_mapU0 (s := ⟨n, env, hp⟩) m a b hx ho hy hT KT hz (by rw [bsPut_canon (b := b)]; exact hh)
theorem st_mapUH {n : Nat} {env : List (Nat × AV)} {hp hp' : List (Nat × List AObj)} (m : List (α × β)) (a : α) (b : β) {f i : Nat} (hx : AS.ev ⟨n, env, hp⟩ x = some (.map f i)) (ho : hget hp f i = some (mapH eK eV m)) (hy : AS.ev ⟨n, env, hp⟩ y = some (.d (eK a))) (hT : mapTyB P T K E = true) (KT : KeyTy P K eK kv) (hz : AS.ev ⟨n, env, hp⟩ z = some (.d (eV b)))
    (hh : hset? hp f i (mapH eK eV (mput m a b)) = some hp') : Zaw P F ⟨none, .mapUpdate T x y z, ty, pos, aft, g⟩ ⟨n, env, hp⟩ ⟨n, env, hp'⟩ (fun _ _ => true) :=
  st_mapU0 (s := ⟨n, env, hp⟩) m a b hx ho hy hT KT hz hh

theorem st_range (gf : Nat) {f i c : Nat} {B : List Nat} {es : List (D × D)} {env' : List (Nat × AV)} {hp1 hp' : List (Nat × List AObj)} (hx : s.ev x = some (.map f i)) (ho : hget s.hp f i = some (.map (some (B, c)) es)) (hne : Nat.beq f gf = false) (hT : mapTyB P T K E = true)
    (hE : killE? gf s.env = some env') (hH : killH? gf s.hp = some hp1) (hn : hnew? hp1 gf (.iter f i c []) = some hp') (hd : Nat.blt d s.n = true) :
    Zaw P F ⟨some d, .range T x, ty, pos, aft, g⟩ s ⟨s.n, (d, .ptr gf 0 0) :: env', hp'⟩ (notFam gf) := fun ρ act w hs => by
  obtain ⟨mb, arr, c', e1, e2, h1, h2, h3, h4, h5, h6⟩ := hs.mapAt hx ho;obtain ⟨_, rfl⟩ := h6 _ _ rfl
  have hrun : (execOp act.eval ⟨some d, .range T x, ty, pos, aft, g⟩).run P w = .ok (.value (.pointer (some ⟨w.heap.size, 0, none⟩))) (w.alloc (.mapIter (some mb) c #[] c)) := by
    simp [execOp, Instr.range, run_underlying (mapTy_spec hT), e1, MapKept.run_getObj_map h1, Result.andThen]
  unfold Oper.wp;rw [hrun];have hsr := hs.new gf (.iter f i c []) (.pointer (some ⟨w.heap.size, 0, none⟩)) (.mapIter (some mb) c #[] c) hE hH hn rfl (fun hrep => ⟨w.heap.size, mb, #[], rfl, by rw [Zbd (fun e => (Nat.ne_of_beq_eq_false hne) e.1)]; exact e2, heap_alloc_new w _, rfl⟩);exact ⟨_, hsr.put (Za3 hd) (.ptr Zbv), fun f i h => Zbd fun e => Zbx h e.1⟩

omit [DecidableEq α] in
theorem o_next {Q : Exit → AS → Prop} {ops : Array Oper} {rest : List Oper} {n : Nat} {env : List (Nat × AV)} {hp : List (Nat × List AObj)} (m : List (α × β)) {gf f i c : Nat} {B seen : List Nat} (hx : AS.ev ⟨n, env, hp⟩ x = some (.ptr gf 0 0)) (hi : hget hp gf 0 = some (.iter f i c seen)) (ho : hget hp f i = some (.map (some (B, c)) (ents eK eV m))) (hd : Nat.blt d n = true)
    (h0 : lft m B seen = [] → Aops P F ops rest Q ⟨n, (d, .tup [.d (.raw (.bool false))]) :: env, hp⟩)
    (h1 : ∀ (j b : Nat) (k : α) (v : β), m[j]? = some (k, v) → B[j]? = some b → B.Nodup → (lft m B seen).Perm ((k, v) :: lft m B (seen ++ [b])) → ∃ hp', hset? hp gf 0 (.iter f i c (seen ++ [b])) = some hp' ∧ Aops P F ops rest Q ⟨n, (d, .tup [.d (.raw (.bool true)), .d (eK k), .d (eV v)]) :: env, hp'⟩) :
    Aops P F ops (⟨some d, .next x false, ty, pos, aft, none⟩ :: rest) Q ⟨n, env, hp⟩ := fun ρ act w hs => by
  obtain ⟨r, mb, sn, q1, q2, q3, q4⟩ := hs.heap.sim gf 0 _ hi;obtain ⟨mb', arr, c', p1, p2, p3, p4, p5, p6, p7⟩ := hs.heap.sim f i _ ho;obtain ⟨hB, hc⟩ := p7 _ _ rfl;subst hc;have : mb' = mb := by rw [p1] at q2; injection q2 with q2; injection q2 with q2
  subst this
  have hxv : act.eval x = .pointer (some ⟨r, 0, none⟩) := by
    have hr := hs.ev hx
    generalize act.eval x = vx at hr
    cases hr with
    | ptr h => rw [q1] at h; injection h with h; injection h with h; injection h with h; subst h; rfl
  have hzm : arr.size = m.length := by simpa [ents] using p3
  have hBn : B.Nodup := hB ▸ p5;have hBl : B.length = m.length := by rw [hB]; simp [hzm]
  refine wpListIn_plain rfl fun Kk hk => wpIn_of_wp rfl ?_;rcases run_next_at (P := P) w ty r mb' c c sn arr c q3 p2 (fun e he => p6 e he) (Nat.le_refl _) with ⟨hz, hrun⟩ | ⟨e, he, w1, hw1, hrun⟩
  · have hl0 : lft m B seen = [] := by
      have hz' : arr.filter (fun e => !sn.contains e.born) = #[] := Array.eq_empty_of_size_eq_zero hz;rw [Array.filter_eq_empty_iff] at hz';unfold lft;rw [List.map_eq_nil_iff, List.filter_eq_nil_iff];intro q hq hs';obtain ⟨j, hj, rfl⟩ := List.getElem_of_mem hq;rw [List.length_zip] at hj;have hja : j < arr.size := by omega
      have h2 := hz' arr[j] (by simp);rw [List.getElem_zip] at hs'
      have h3 : B[j]'(by omega) = arr[j].born := by
        have := congrArg (·[j]?) hB;simp only [List.getElem?_map, Array.getElem?_toList, Array.getElem?_eq_getElem hja, Option.map_some] at this;rw [List.getElem?_eq_getElem (by omega)] at this;injection this
      simp only [h3, ← q4] at hs';simp only [Array.contains_toList] at hs';exact absurd hs' (by simpa using h2)
    have hex : (execOp act.eval ⟨some d, .next x false, ty, pos, aft, none⟩).run P w = .ok (.value (.tuple #[.bool false])) w := by
      simp [execOp, hxv, hrun, Result.andThen]
    unfold Oper.wp;rw [hex]
    exact hk _ _ (h0 hl0 ρ _ w (hs.put (Za3 hd) (.tup (vs := [.bool false]) rfl fun i a v ha hv => by
      rcases i with _ | i
      · simp at ha hv; subst ha hv; exact .d (.raw rfl)
      · simp at ha)))
  · have he' : e ∈ arr ∧ (!sn.contains e.born) = true := by
      have : e ∈ arr.filter (fun e => !sn.contains e.born) := by simpa [leftOf] using he
      rwa [Array.mem_filter] at this
    obtain ⟨j, hj, rfl⟩ := Array.getElem_of_mem he'.1;have hjm : j < m.length := by omega
    have hBj : B[j]? = some arr[j].born := by rw [hB]; simp [hj]
    obtain ⟨g1, g2⟩ := p4 j arr[j] (eK m[j].1, eV m[j].2) (Array.getElem?_eq_getElem hj) (by simp [ents, hjm])
    have hns : arr[j].born ∉ seen := by
      rw [← q4];have := he'.2
      simpa using this
    have hperm := lft_next hBn (List.getElem?_eq_getElem hjm) hBj hns;obtain ⟨hp', hh, hA⟩ := h1 j _ m[j].1 m[j].2 (List.getElem?_eq_getElem hjm) hBj hBn hperm
    have hex : (execOp act.eval ⟨some d, .next x false, ty, pos, aft, none⟩).run P w = .ok (.value (.tuple #[.bool true, arr[j].key, arr[j].val])) (setBlock w1 r (.mapIter (some mb') c (sn.push arr[j].born) c)) := by
      simp [execOp, hxv, hrun, Result.andThen]
    unfold Oper.wp;rw [hex]
    have hs1 : SR F ⟨n, env, hp⟩ ρ act w1 := by
      rcases hw1 with rfl | rfl
      · exact hs
      · exact hs.drew rfl rfl rfl rfl
    have q3' : w1.heap[r]? = some (.mapIter (some mb') c sn c) := by rcases hw1 with rfl | rfl <;> exact q3
    have hr1 : RepD w1 (F.O ρ hp) (eK m[j].1) arr[j].key ∧ RepD w1 (F.O ρ hp) (eV m[j].2) arr[j].val := by
      rcases hw1 with rfl | rfl
      · exact ⟨g1, g2⟩
      · exact ⟨g1.mono (w := w) (w' := w.drew) (Nat.le_refl _) (fun _ _ _ => rfl) (fun _ _ h => h), g2.mono (w := w) (w' := w.drew) (Nat.le_refl _) (fun _ _ _ => rfl) (fun _ _ h => h)⟩
    have hw := hs1.write gf 0 _ (.iter f i c (seen ++ [arr[j].born])) (w' := setBlock w1 r (.mapIter (some mb') c (sn.push arr[j].born) c)) hi (hset?_spec hh) rfl rfl rfl setBlock_size (fun b' hb' => setBlock_other fun e => hb' (by rw [q1, e]; rfl)) (fun _ _ e => by cases e) fun hrep => by
      exact ⟨r, mb', sn.push arr[j].born, q1, q2, setBlock_same q3', by simp [q4]⟩
    have hO : ∀ b, F.O ρ hp' b → F.O ρ hp b := fun b hh' => by
      rcases hh' with hh' | ⟨f', i', o1, k1, k2⟩
      · exact .inl hh'
      · refine .inr ?_
        by_cases e : f' = gf ∧ i' = 0
        · obtain ⟨rfl, rfl⟩ := e; exact ⟨f', 0, _, hi, k2⟩
        · rw [hset?_spec hh, if_neg e] at k1; exact ⟨f', i', o1, k1, k2⟩
    have hbb : ∀ b, b < w1.heap.size → ¬ F.O ρ hp b → (setBlock w1 r (.mapIter (some mb') c (sn.push arr[j].born) c)).heap[b]? = w1.heap[b]? := fun b _ hn => setBlock_other fun e => hn (.inr ⟨gf, 0, _, hi, by rw [q1, e]; rfl⟩);refine hk _ _ (hA ρ _ _ (hw.put (Za3 hd) (.tup (vs := [.bool true, arr[j].key, arr[j].val]) rfl fun i a v ha hv => ?_)));rcases i with _ | _ | _ | i
    · simp at ha hv; subst ha hv; exact .d (.raw rfl)
    · simp at ha hv; subst ha hv; exact .d (hr1.1.mono (Nat.le_of_eq setBlock_size.symm) hbb (fun b _ => hO b))
    · simp at ha hv; subst ha hv; exact .d (hr1.2.mono (Nat.le_of_eq setBlock_size.symm) hbb (fun b _ => hO b))
    · simp at ha

omit [DecidableEq α] in
theorem st_entry (m : List (α × β)) (j b : Nat) {k : α} {v : β} {gf f i c : Nat} {B seen : List Nat} (hx : s.ev x = some (.ptr gf 0 0)) (hi : hget s.hp gf 0 = some (.iter f i c (seen ++ [b]))) (ho : hget s.hp f i = some (.map (some (B, c)) (ents eK eV m))) (hm : m[j]? = some (k, v)) (hb : B[j]? = some b) (hd : Nat.blt d s.n = true) :
    Zab P F ⟨some d, .entry x, ty, pos, aft, g⟩ s d (.tup [.d (eK k), .d (eV v)]) :=
  ZaE _ hd fun ρ act w hs => by
    obtain ⟨r, mb, sn, q1, q2, q3, q4⟩ := hs.heap.sim gf 0 _ hi;obtain ⟨mb', arr, c', p1, p2, p3, p4, p5, p6, p7⟩ := hs.heap.sim f i _ ho;obtain ⟨hB, hc⟩ := p7 _ _ rfl;subst hc;have : mb' = mb := by rw [p1] at q2; injection q2 with q2; injection q2 with q2
    subst this
    have hxv : act.eval x = .pointer (some ⟨r, 0, none⟩) := by
      have hr := hs.ev hx
      generalize act.eval x = vx at hr
      cases hr with
      | ptr h => rw [q1] at h; injection h with h; injection h with h; injection h with h; subst h; rfl
    have hjm : j < m.length := (List.getElem?_eq_some_iff.1 hm).1;have hzm : arr.size = m.length := by simpa [ents] using p3
    have hbe : arr[j].born = b := by
      rw [hB] at hb; simpa [show j < arr.size by omega] using hb
    have hsn : sn = (⟨seen⟩ : Array Nat).push arr[j].born := by
      apply Array.ext'
      rw [q4, Array.toList_push, hbe]
    rw [hsn] at q3;have hrun := run_entry_at (P := P) w r mb' c ⟨seen⟩ arr c arr[j] q3 p2 (by simp) p5;obtain ⟨g1, g2⟩ := p4 j arr[j] (eK k, eV v) (Array.getElem?_eq_getElem (by omega)) (by simp [ents, hm]);refine ⟨.tuple #[arr[j].key, arr[j].val], by simp [execOp, hxv, hrun, Result.andThen], .tup (vs := [arr[j].key, arr[j].val]) rfl fun i a v ha hv => ?_⟩;rcases i with _ | _ | i
    · simp at ha hv; subst ha hv; exact .d g1
    · simp at ha hv; subst ha hv; exact .d g2
    · simp at ha
end
end Go.Proofs.Ytgdppeobgefogaa

/- Keys of plain types. No program in sight. -/
namespace Go.Proofs.Ytgdppeobgefogaa
open Go.RowKit
theorem KeyTy.int {P : Program} {K : TypeId} (hK : P.underlying K = some (.int .i64)) : KeyTy P K (fun z : Int => .raw (.int .i64 z)) (fun z => .int .i64 z) :=
  KeyTy.plain hK (fun _ => rfl) (fun _ => rfl) fun a b => by simp [Instr.sameNow]; rfl
end Go.Proofs.Ytgdppeobgefogaa
/- Structs of numbers and strings: equality, as keys. No program in sight. -/
namespace Go.Proofs.Ytgdppeobgefogaa
open Go.RowKit

def flatFs (rec : TypeId → Option (List TypeDesc)) : Nat → List Field → Option (List TypeDesc)
  | _, [] => some []
  | off, f :: fs => match rec f.type with
    | none => none
    | some ds => match flatFs rec (off + ds.length) fs with
      | none => none
      | some r => match Nat.beq f.offset off && f.name != "_" with
        | true => some (ds ++ r)
        | false => none
def flatTy (P : Program) : Nat → TypeId → Option (List TypeDesc)
  | 0, _ => none
  | m + 1, T => match P.underlying T with
    | some (.int k) => some [.int k]
    | some .string => some [.string]
    | some .bool => some [.bool]
    | some (.struct fs) => match flatFs (flatTy P m) 0 fs.toList with
      | none => none
      | some ds => match sizeTy P T ds.length && !P.stoodInHeld T with
        | true => some ds
        | false => none
    | _ => none
def PlainAre (ds : List TypeDesc) (us : List Value) : Prop := us.length = ds.length ∧ ∀ (i : Nat) d u, ds[i]? = some d → us[i]? = some u → MapKept.IsKey d u
def isStr (P : Program) (T : TypeId) : Bool := match P.underlying T with
  | some (.struct _) => true
  | _ => false
def mkV (P : Program) (T : TypeId) (us : List Value) : Value := match isStr P T with
  | true => .agg us.toArray
  | false => us.headD undef
def eqCell : Value → Value → Bool
  | .int _ a, .int _ b => a == b
  | .string a, .string b => a.toList == b.toList
  | .bool a, .bool b => a == b
  | _, _ => false
def eqCells : List Value → List Value → Bool
  | [], [] => true
  | a :: r, b :: s => eqCell a b && eqCells r s
  | _, _ => false
theorem eqCells_append {a a' b b' : List Value} (h : a.length = b.length) : eqCells (a ++ a') (b ++ b') = (eqCells a b && eqCells a' b') := by
  induction a generalizing b with
  | nil =>
    cases b with
    | nil => simp [eqCells]
    | cons _ _ => simp at h
  | cons x r ih =>
    cases b with
    | nil => simp at h
    | cons y s => simp only [List.cons_append, eqCells, ih (show r.length = s.length by simpa using h), Bool.and_assoc]
theorem PlainAre.split {ds ds' : List TypeDesc} {us : List Value} (h : PlainAre (ds ++ ds') us) : PlainAre ds (us.take ds.length) ∧ PlainAre ds' (us.drop ds.length) := by
  obtain ⟨h1, h2⟩ := h;rw [List.length_append] at h1;refine ⟨⟨by simp; omega, fun i d u hd hu => ?_⟩, ⟨by simp; omega, fun i d u hd hu => ?_⟩⟩
  · have hi : i < ds.length := (List.getElem?_eq_some_iff.1 hd).1;rw [List.getElem?_take_of_lt hi] at hu;exact h2 i d u (by rw [List.getElem?_append_left hi]; exact hd) hu
  · rw [List.getElem?_drop] at hu;refine h2 (ds.length + i) d u ?_ hu;rw [List.getElem?_append_right (by omega), show ds.length + i - ds.length = i by omega]; exact hd

section
variable {P : Program}
theorem flatTy_one {m : Nat} {T : TypeId} {ds : List TypeDesc} (h : flatTy P m T = some ds) (hs : isStr P T = false) : ∃ d, ds = [d] ∧ P.underlying T = some d ∧ ((∃ k, d = .int k) ∨ d = .string ∨ d = .bool) := by
  cases m with
  | zero => cases h
  | succ m =>
    unfold flatTy at h;unfold isStr at hs
    split at h
    · rename_i k hk; injection h with h; subst h; exact ⟨_, rfl, hk, .inl ⟨k, rfl⟩⟩
    · rename_i hk; injection h with h; subst h; exact ⟨_, rfl, hk, .inr (.inl rfl)⟩
    · rename_i hk; injection h with h; subst h; exact ⟨_, rfl, hk, .inr (.inr rfl)⟩
    · rename_i fs hk; rw [hk] at hs; cases hs
    · cases h
theorem flatTy_str {m : Nat} {T : TypeId} {ds : List TypeDesc} (h : flatTy P m T = some ds) (hs : isStr P T = true) : ∃ m' fs, m = m' + 1 ∧ P.underlying T = some (.struct fs) ∧ flatFs (flatTy P m') 0 fs.toList = some ds ∧ sizeTy P T ds.length = true ∧ P.stoodInHeld T = false := by
  cases m with
  | zero => cases h
  | succ m =>
    unfold flatTy at h;unfold isStr at hs
    split at h
    · rename_i k hk; rw [hk] at hs; cases hs
    · rename_i hk; rw [hk] at hs; cases hs
    · rename_i hk; rw [hk] at hs; cases hs
    · rename_i fs hk
      split at h
      · cases h
      · rename_i ds' hds
        split at h
        · rename_i hb
          injection h with h; subst h
          simp only [Bool.and_eq_true, Bool.not_eq_true'] at hb;exact ⟨m, fs, rfl, hk, hds, hb.1, hb.2⟩
        · cases h
    · cases h
theorem run_part_flat {m : Nat} {T : TypeId} {ds : List TypeDesc} (h : flatTy P m T = some ds) (w : World) (us : List Value) (off : Nat) (hl : off + ds.length ≤ us.length) : (part T us.toArray off).run P w = .ok (mkV P T ((us.drop off).take ds.length)) w := by
  cases hs : isStr P T with
  | false =>
    obtain ⟨d, rfl, hd, hk⟩ := flatTy_one h hs
    have ha : (isAgg T).run P w = .ok false w := by
      rcases hk with ⟨k, rfl⟩ | rfl | rfl <;> simp [isAgg, run_underlying hd, Result.andThen]
    have hlt : off < us.length := by simp at hl; omega
    simp only [part, Sem.run_bind, ha, Result.andThen_ok, Bool.false_eq_true, if_false, mkV, hs];rw [List.getElem?_toArray, List.getElem?_eq_getElem hlt];simp only [Sem.run_pure, List.length_cons, List.length_nil];rw [List.drop_eq_getElem_cons hlt]; rfl
  | true =>
    obtain ⟨m', fs, rfl, hd, _, hz, _⟩ := flatTy_str h hs;have ha : (isAgg T).run P w = .ok true w := by simp [isAgg, run_underlying hd, Result.andThen]
    have hz' := run_sizeOf (P := P) (ZbR hz) w;simp only [part, Sem.run_bind, ha, Result.andThen_ok, if_true, hz', Sem.run_pure, mkV, hs]
    congr 2
    apply Array.ext'
    simp
theorem equalIn_flat : ∀ (m : Nat) (T : TypeId) (ds : List TypeDesc), flatTy P m T = some ds → ∀ (d : Nat) (us vs : List Value), PlainAre ds us → PlainAre ds vs → ∀ w, (Op.equalIn (d + m) T (mkV P T us) (mkV P T vs)).run P w = .ok (eqCells us vs) w
  | 0, _, _, h => by cases h
  | m + 1, T, ds, h => fun d us vs hu hv w => by
    cases hs : isStr P T with
    | false =>
      obtain ⟨d', rfl, hd, hk⟩ := flatTy_one h hs;obtain ⟨u, rfl⟩ := List.length_eq_one_iff.1 hu.1;obtain ⟨v, rfl⟩ := List.length_eq_one_iff.1 hv.1;have k1 := hu.2 0 d' u rfl rfl;have k2 := hv.2 0 d' v rfl rfl;simp only [mkV, hs, List.headD_cons, eqCells, Bool.and_true];rcases hk with ⟨k, rfl⟩ | rfl | rfl
      · cases u <;> cases v <;> simp only [MapKept.IsKey] at k1 k2
        subst k1 k2;exact run_equalIn_int w (d + m) T _ _ _ _ hd
      · cases u <;> cases v <;> simp only [MapKept.IsKey] at k1 k2
        exact run_equalIn_string w (d + m) T _ _ hd
      · cases u <;> cases v <;> simp only [MapKept.IsKey] at k1 k2
        exact run_equalIn_bool' w (d + m) T _ _ hd
    | true =>
      obtain ⟨m', fs, hm, hd, hfl, hz, hst⟩ := flatTy_str h hs;injection hm with hm; subst hm
      have hf : P.fieldsOf T = fs := by simp [Program.fieldsOf, hd]
      simp only [mkV, hs];rw [← Nat.add_assoc, run_equalIn_struct w (d + m) T _ _ (by rw [hf]; exact hd) hst, hf]
      -- along the fields
      have key : ∀ (fs : List Field) (off : Nat) (ds : List TypeDesc) (us vs : List Value), flatFs (flatTy P m) off fs = some ds → PlainAre ds (us.drop off) → PlainAre ds (vs.drop off) → off ≤ us.length → off ≤ vs.length → (Op.eqFields (d + m) us.toArray vs.toArray fs).run P w = .ok (eqCells (us.drop off) (vs.drop off)) w := by
        intro fs
        induction fs with
        | nil =>
          intro off ds us vs h hu hv _ _;simp only [flatFs, Option.some.injEq] at h; subst h;rw [List.eq_nil_of_length_eq_zero hu.1, List.eq_nil_of_length_eq_zero hv.1]; rfl
        | cons f fs ih =>
          intro off ds us vs h hu hv hou hov;simp only [flatFs] at h
          split at h
          · cases h
          · rename_i d1 h1
            split at h
            · cases h
            · rename_i r hr
              split at h
              · rename_i hb
                injection h with h; subst h
                simp only [Bool.and_eq_true] at hb;have hoff := Nat.eq_of_beq_eq_true hb.1;have hname : f.name ≠ "_" := by simpa using hb.2
                have lu := hu.1; have lv := hv.1;rw [List.length_append, List.length_drop] at lu lv;have hl1 : off + d1.length ≤ us.length := by omega
                have hl2 : off + d1.length ≤ vs.length := by omega
                obtain ⟨u1, u2⟩ := hu.split;obtain ⟨v1, v2⟩ := hv.split;rw [List.drop_drop] at u2 v2;have e1 := run_part_flat h1 w us off hl1;have e2 := run_part_flat h1 w vs off hl2;have e3 := equalIn_flat m f.type d1 h1 d _ _ u1 v1 w;have e4 := ih (off + d1.length) r us vs hr u2 v2 hl1 hl2;simp only [Op.eqFields, hname, ne_eq, not_false_eq_true, if_true, hoff, Sem.run_bind, e1, e2, e3, Result.andThen_ok]
                have hsplit : eqCells (us.drop off) (vs.drop off) = (eqCells ((us.drop off).take d1.length) ((vs.drop off).take d1.length) && eqCells (us.drop (off + d1.length)) (vs.drop (off + d1.length))) := by
                  rw [← List.drop_drop, ← List.drop_drop, ← eqCells_append (by simp; omega), List.take_append_drop, List.take_append_drop]
                rw [hsplit]
                cases hc : eqCells ((us.drop off).take d1.length) ((vs.drop off).take d1.length) with
                | false => simp
                | true => simp only [Bool.not_true, Bool.false_eq_true, if_false, Bool.true_and]; exact e4
              · cases h
      have := key fs.toList 0 ds us vs hfl (by simpa using hu) (by simpa using hv) (Nat.zero_le _) (Nat.zero_le _)
      simpa using this
theorem checkKey_flat (em : Bool) : ∀ (m : Nat) (T : TypeId) (ds : List TypeDesc), flatTy P m T = some ds → ∀ (d : Nat) (us : List Value), PlainAre ds us → ∀ w, (Instr.checkKey em (d + m) T (mkV P T us)).run P w = .ok () w
  | 0, _, _, h => by cases h
  | m + 1, T, ds, h => fun d us hu w => by
    cases hs : isStr P T with
    | false =>
      obtain ⟨d', rfl, hd, hk⟩ := flatTy_one h hs;obtain ⟨u, rfl⟩ := List.length_eq_one_iff.1 hu.1;have k1 := hu.2 0 d' u rfl rfl;simp only [mkV, hs, List.headD_cons];exact MapKept.run_checkKey hd k1 em (d + m)
    | true =>
      obtain ⟨m', fs, hm, hd, hfl, hz, hst⟩ := flatTy_str h hs;injection hm with hm; subst hm
      simp only [mkV, hs];rw [← Nat.add_assoc];simp only [Instr.checkKey, Sem.run_bind, run_underlying hd, Result.andThen_ok];rw [← Array.forIn_toList];have h0 : PlainAre ds (us.drop 0) := by simpa using hu
      have hou : 0 ≤ us.length := Nat.zero_le _
      clear h hs hz hu hd hst
      generalize fs.toList = fl at hfl ⊢
      generalize (0 : Nat) = off at hfl h0 hou
      induction fl generalizing off ds with
      | nil => rfl
      | cons f fl ih =>
        simp only [flatFs] at hfl
        split at hfl
        · cases hfl
        · rename_i d1 h1
          split at hfl
          · cases hfl
          · rename_i r hr
            split at hfl
            · rename_i hb
              injection hfl with hfl; subst hfl
              simp only [Bool.and_eq_true] at hb;have hoff := Nat.eq_of_beq_eq_true hb.1;have hname : f.name ≠ "_" := by simpa using hb.2
              have lu := h0.1;rw [List.length_append, List.length_drop] at lu;have hl1 : off + d1.length ≤ us.length := by omega
              obtain ⟨u1, u2⟩ := h0.split;rw [List.drop_drop] at u2;have e1 := run_part_flat h1 w us off hl1;have e3 := checkKey_flat em m f.type d1 h1 d _ u1 w;have e4 := ih r (off + d1.length) hr u2 hl1;rw [List.forIn_cons];simp only [hname, ne_eq, not_false_eq_true, if_true, hoff, Sem.run_bind, e1, e3, Result.andThen_ok, Sem.run_pure] at e4 ⊢;exact e4
            · cases hfl
theorem sameBits_plain {d : TypeDesc} {u : Value} (h : MapKept.IsKey d u) (n : Nat) : Instr.sameBits n u u = true := by
  cases d <;> cases u <;> simp only [MapKept.IsKey] at h <;> cases n <;> simp [Instr.sameBits] <;> exact (beq_toListBytes _ _).trans (by simp)
theorem stays_flat {m : Nat} {T : TypeId} {ds : List TypeDesc} (h : flatTy P m T = some ds) {us : List Value} (hu : PlainAre ds us) (w : World) : (Instr.keyThatStays (mkV P T us) (mkV P T us)).run P w = .ok (mkV P T us) w := by
  have : Instr.sameBits 10000 (mkV P T us) (mkV P T us) = true := by
    cases hs : isStr P T with
    | false =>
      obtain ⟨d', rfl, hd, hk⟩ := flatTy_one h hs;obtain ⟨u, rfl⟩ := List.length_eq_one_iff.1 hu.1;simp only [mkV, hs, List.headD_cons];exact sameBits_plain (hu.2 0 d' u rfl rfl) _
    | true =>
      simp only [mkV, hs];show Instr.sameBits (9999 + 1) _ _ = true;simp only [Instr.sameBits, beq_self_eq_true, Bool.true_and, List.all_eq_true];intro p hp;obtain ⟨i, hi, e⟩ := List.getElem_of_mem hp;rw [List.getElem_zip] at e;rw [← e]
      simp only
      have hi' : i < us.length := by simpa using hi
      have hd : i < ds.length := by rw [← hu.1]; exact hi'
      exact sameBits_plain (hu.2 i ds[i] us[i] (List.getElem?_eq_getElem hd) (List.getElem?_eq_getElem hi')) _
  simp [Instr.keyThatStays, this]
theorem KeyTy.flat {α : Type} [DecidableEq α] {K : TypeId} {eK : α → D} {cl : α → List Value} {ds : List TypeDesc} (hf : flatTy P 8 K = some ds) (hs : isStr P K = true) (hv : ∀ a, (eK a).val? = some (.agg (cl a).toArray)) (hp : ∀ a, PlainAre ds (cl a)) (he : ∀ a b, eqCells (cl a) (cl b) = decide (a = b)) : KeyTy P K eK fun a => .agg (cl a).toArray := by
  have hm : ∀ a, mkV P K (cl a) = .agg (cl a).toArray := fun a => by simp only [mkV, hs]
  obtain ⟨m', fs, _, hd, _⟩ := flatTy_str hf hs;refine KeyTy.asking hd hv (fun w em a => ?_) (fun w a b => ?_) (fun a b => by simp [Instr.sameNow]) (fun w a => ?_)
  · have := checkKey_flat em 8 K ds hf 9992 (cl a) (hp a) w
    rwa [hm] at this
  · have := equalIn_flat 8 K ds hf 9992 (cl a) (cl b) (hp a) (hp b) w;rw [hm, hm, he] at this;exact this
  · have := stays_flat hf (hp a) w
    rwa [hm] at this
end

theorem less_swap : ∀ a b : List UInt8, Op.bytesLess b a = (!Op.bytesLess a b && !a == b)
  | [], [] => rfl
  | [], _ :: _ => rfl
  | _ :: _, [] => rfl
  | x :: a, y :: b => by
    have ih := less_swap a b;rcases Nat.lt_trichotomy x.toNat y.toNat with h | h | h
    · have h1 : x < y := UInt8.lt_iff_toNat_lt.2 h;have h2 : ¬ y < x := fun h' => by have := UInt8.lt_iff_toNat_lt.1 h'; omega
      have h3 : y ≠ x := fun e => by subst e; omega
      simp [Op.bytesLess, h1, h2, h3]
    · have h1 : x = y := UInt8.toNat_inj.1 h;subst h1;have h2 : ¬ x < x := fun h' => by have := UInt8.lt_iff_toNat_lt.1 h'; omega
      simp [Op.bytesLess, h2, ih]
    · have h1 : y < x := UInt8.lt_iff_toNat_lt.2 h;have h2 : ¬ x < y := fun h' => by have := UInt8.lt_iff_toNat_lt.1 h'; omega
      have h3 : x ≠ y := fun e => by subst e; omega
      simp [Op.bytesLess, h1, h2, h3]
section
variable {P : Program} {F : Fr} {s : AS} {d : Nat} {ty T T' : TypeId} {pos : String} {aft : Array Edge} {g : Option (Nat × Bool)} {x y : Operand}
theorem ZbF {a b : ByteArray} (hx : s.ev x = some (.d (.raw (.string a)))) (hy : s.ev y = some (.d (.raw (.string b)))) (hd : Nat.blt d s.n = true) : Zab P F ⟨some d, .binOp .gtr T x y T', ty, pos, aft, g⟩ s d (.d (.raw (.bool (Op.bytesLess b.toList a.toList)))) :=
  ZaE _ hd fun _ act _ hs => ⟨.bool (Op.bytesLess b.toList a.toList), by simp [execOp, eqGuard, binOp, Op.stringOp, hs.raw hx, hs.raw hy, less_swap a.toList b.toList], .d (.raw rfl)⟩
end
end Go.Proofs.Ytgdppeobgefogaa
/- Interface values that hold a pointer of the call's own; calls of their methods. No program in sight. -/
namespace Go.Proofs.Ytgdppeobgefogaa
open Go.RowKit

section
variable {P : Program} {F : Fr} {s : AS} {d : Nat} {ty T T' E : TypeId} {pos : String} {aft : Array Edge} {g : Option (Nat × Bool)} {at_ : Array TypeId} {x : Operand}

def plainTy (P : Program) (T : TypeId) : Bool := match P.underlying T with
  | some (.interface _) => false
  | some _ => true
  | none => false
theorem run_makeInterface {w : World} {v : Value} (h : plainTy P T = true) : (Instr.makeInterface T v).run P w = .ok (.iface T v) w := by
  unfold plainTy at h
  split at h
  · cases h
  · rename_i u hne hu
    unfold Instr.makeInterface;simp only [Sem.run_bind, run_underlying hu, Result.andThen_ok]
    cases u <;> first | rfl | exact absurd rfl (hne _)
  · cases h
theorem ZbS {f i : Nat} (hT : plainTy P T = true) (hx : s.ev x = some (.ptr f i 0)) (hd : Nat.blt d s.n = true) :
    Zab P F ⟨some d, .makeInterface T x, ty, pos, aft, g⟩ s d (.ifc T none f i) :=
  ZaE _ hd fun ρ act w hs => by
    have hr := hs.ev hx
    generalize hv : act.eval x = v at hr
    cases hr with
    | @ptr _ _ _ b h => exact ⟨.iface T (.pointer (some ⟨b, 0, none⟩)), by simp [execOp, hv, run_makeInterface hT], .ifc (nm := none) h⟩
theorem ZbP {v : Value} (hT : plainTy P T = true) (hx : s.ev x = some (.d (.raw v))) (hd : Nat.blt d s.n = true) :
    Zab P F ⟨some d, .makeInterface T x, ty, pos, aft, g⟩ s d (.d (.raw (.iface T v))) :=
  ZaE _ hd fun ρ act w hs => by
    have hr := hs.raw hx;exact ⟨.iface T v, by simp [execOp, hr, run_makeInterface hT], .d (.raw rfl)⟩
theorem run_typeAssert {w : World} {v : Value} (h : plainTy P T = true) : (Instr.typeAssert (.iface T v) T' T false).run P w = .ok v w := by
  unfold plainTy at h
  split at h
  · cases h
  · rename_i u hne hu
    unfold Instr.typeAssert;simp only [Sem.run_bind, run_underlying hu, Result.andThen_ok]
    cases u <;> first | exact absurd rfl (hne _) | simp
  · cases h
theorem st_assertR {v : Value} (hv1 : v.oneCell' = true) (hT : plainTy P T = true) (hx : s.ev x = some (.d (.raw (.iface T v)))) (hd : Nat.blt d s.n = true) :
    Zab P F ⟨some d, .typeAssert x T' T false, ty, pos, aft, g⟩ s d (.d (.raw v)) :=
  ZaE _ hd fun ρ act w hs => by
    have hr := hs.raw hx;exact ⟨v, by simp [execOp, hr, run_typeAssert hT], .d (.raw hv1)⟩

def MethOf (P : Program) (T : TypeId) (name : String) (f : FuncId) : Prop := ∀ (b : Nat) (w : World), (method (P.types.size + Made.depth) T (.pointer (some ⟨b, 0, none⟩)) name).run P w = .ok (f, .pointer (some ⟨b, 0, none⟩)) w
theorem run_invoke {f : FuncId} {name : String} (hm : MethOf P T name f) {fn : Func} (hf : P.funcs[f]? = some fn) (hname : (fn.name == "runtime.NumGoroutine") = false) (hb : fn.body.isSome = true) {act : Act} {w : World} {xs : List Operand} {b : Nat} {dst : Option Nat} (hv : act.eval x = .iface T (.pointer (some ⟨b, 0, none⟩))) :
    (execOp act.eval ⟨dst, .call { callee := .invoke x name, args := xs.toArray, argTypes := at_ }, ty, pos, aft, g⟩).run P w = .ok (.enter f (.pointer (some ⟨b, 0, none⟩) :: xs.map act.eval).toArray) w := by
  have hb' : ¬ fn.body = none := by intro h; rw [h] at hb; cases hb
  have hn' : ¬ fn.name = "runtime.NumGoroutine" := by simpa using hname
  have hm' := hm b w;have e : (List.map act.eval xs).take xs.length = List.map act.eval xs := List.take_of_length_le (by simp)
  simp [execOp, resolve, hv, invoke, callMethod, hm', callFunc, hf, hn', hb', e]

def argsI? (s : AS) (x : Operand) (T : TypeId) (xs : List Operand) : Option (List AV) := match s.ev x with
  | some (.ifc T' none f i) => if Nat.beq T' T then (match evs? s xs with
    | some l => some (.ptr f i 0 :: l)
    | none => none) else none
  | _ => none
theorem argsI?_spec {ρ : Nat → Nat → Value} {act : Act} {w : World} (hs : SR F s ρ act w) {xs : List Operand} {args : List AV} (h : argsI? s x T xs = some args) :
    ∃ b : Nat, act.eval x = .iface T (.pointer (some ⟨b, 0, none⟩)) ∧ (Value.pointer (some ⟨b, 0, none⟩) :: xs.map act.eval).length = args.length ∧ ∀ (i : Nat) a v, args[i]? = some a → (Value.pointer (some ⟨b, 0, none⟩) :: xs.map act.eval)[i]? = some v → RepA w (F.O ρ s.hp) ρ a v := by
  unfold argsI? at h
  split at h
  · rename_i T1 f i hx
    split at h
    · rename_i hT
      have hT := Nat.eq_of_beq_eq_true hT;subst hT
      split at h
      · rename_i l hl
        injection h with h; subst h
        obtain ⟨g1, g2⟩ := evs?_spec hs hl;have hr := hs.ev hx
        generalize act.eval x = v at hr ⊢
        cases hr with
        | @ifc _ _ _ _ b hb =>
          refine ⟨b, rfl, by simp [g1], fun k a v ha hv => ?_⟩
          cases k with
          | zero =>
            rw [List.getElem?_cons_zero] at ha hv;injection ha with ha; injection hv with hv; subst ha hv
            exact .ptr hb
          | succ k =>
            rw [List.getElem?_cons_succ] at ha hv;exact g2 k a v ha hv
      · cases h
    · cases h
  · cases h

theorem ZbI {f : FuncId} {name : String} {xs : List Operand} {args : List AV} {CH H0 : Hp} {r0 : AV} (hm : MethOf P T name f) (hc : ACalls P f args CH fun r H' => r = r0 ∧ H' = H0) (hargs : argsI? s x T xs = some args)
    (nm : List Nat) (hfe : FamsEq s.hp CH nm) (hcn : namesIn nm CH = true) {rest0 rest : Hp} {env' : List (Nat × AV)} (hr0 : rest? nm s.hp = some rest0) (hE : keepE? (okRef CH nm) s.env = some env') (hH : keepH? (okRef CH nm) rest0 = some rest)
    (hR1 : namesIn nm H0 = true) (hR2 : hpIn nm H0 = true) (hR3 : r0.ok (inNm nm) = true) (hd : Nat.blt d s.n = true) {hp' : Hp} (hhp : some (H0 ++ rest) = some hp') :
    Zaw P F ⟨some d, .call { callee := .invoke x name, args := xs.toArray, argTypes := at_ }, ty, pos, aft, g⟩ s ⟨s.n, (d, r0) :: env', hp'⟩ (okRef CH nm) := by
  injection hhp with hhp
  subst hhp;intro ρ act w hs;obtain ⟨fn, h1, h2, h3⟩ := hc.1;obtain ⟨b, hv, h4, h5⟩ := argsI?_spec hs hargs;unfold Oper.wp;rw [run_invoke hm h1 h2 h3 hv, Oper.upon_enter];refine (call_core hs hc h4 h5 nm hfe hcn hr0 hE hH (fun r H' ⟨e1, e2⟩ => by subst e1 e2; exact ⟨hR1, hR2, hR3⟩)).mono fun e w' ⟨v, r, H', ρ'', e1, ⟨e2, e3⟩, hrep, hsr, hk⟩ => ?_;subst e1 e2 e3;exact ⟨ρ'', hsr.put (Za3 hd) hrep, hk⟩
end
end Go.Proofs.Ytgdppeobgefogaa
/- Names of owned objects: an object's own value, known by name, so that references survive calls as plain values. No program in sight. -/
namespace Go.Proofs.Ytgdppeobgefogaa
open Go.RowKit

section
variable {P : Program} {F : Fr} {Q : Exit → AS → Prop} {c : Code} {ops : Array Oper} {l : List Oper} {n : Nat} {env env' : List (Nat × AV)} {hp hp1 : Hp}
end
end Go.Proofs.Ytgdppeobgefogaa
/- Names of rows whose headers lie in blocks: the header is told as a plain value while the row grows. No program in sight. -/
namespace Go.Proofs.Ytgdppeobgefogaa
open Go.RowKit

section
variable {P : Program} {F : Fr} {Q : Exit → AS → Prop} {c : Code} {ops : Array Oper} {l : List Oper} {n : Nat} {env env' : List (Nat × AV)} {hp hp1 : Hp}
end
section
variable {P : Program} {F : Fr} {s : AS} {d : Nat} {ty T : TypeId} {pos : String} {aft : Array Edge} {g : Option (Nat × Bool)} {x : Operand}
end
end Go.Proofs.Ytgdppeobgefogaa
/- A heap of many blocks as one owned object: a finite map from block numbers to cells and rows; references are plain pointers. No program in sight. -/
namespace Go.Proofs.Ytgdppeobgefogaa
open Go.RowKit

abbrev pV (b off : Nat) : Value := .pointer (some ⟨b, off, none⟩)
abbrev pD (b off : Nat) : D := .raw (pV b off)
abbrev sV (b n cap : Nat) : Value := .slice (some ⟨b, 0, none⟩) n cap
abbrev MF := Nat → Option MObj
def mput_ (M : MF) (b : Nat) (m : MObj) : MF := fun i => if i = b then some m else M i
def mdel_ (M : MF) (b : Nat) : MF := fun i => if i = b then none else M i
theorem mput_same (M : MF) (b : Nat) (m : MObj) : mput_ M b m b = some m := by unfold mput_; rw [if_pos rfl]
theorem mput_ne {M : MF} {b i : Nat} {m : MObj} (h : i ≠ b) : mput_ M b m i = M i := by unfold mput_; rw [if_neg h]
theorem mdel_same (M : MF) (b : Nat) : mdel_ M b b = none := by unfold mdel_; rw [if_pos rfl]
theorem mdel_ne {M : MF} {b i : Nat} (h : i ≠ b) : mdel_ M b i = M i := by unfold mdel_; rw [if_neg h]
def hmul? : Hp → Nat → MF → Option Hp
  | [], _, _ => none
  | (k, l) :: r, f, M => match Nat.beq k f with
    | true => match isM l with
      | some _ => some ((k, [.multi M]) :: r)
      | none => none
    | false => match hmul? r f M with
      | none => none
      | some r' => some ((k, l) :: r')
theorem Za5 {hp : Hp} {f : Nat} {M : MF} (h : hfam hp f = some [.multi M]) (b : Nat) : hget hp f b = (M b).map (MObj.at_ b) := by unfold hget; rw [h]; rfl
theorem hmul?_spec {hp hp' : Hp} {f : Nat} {M' : MF} (h : hmul? hp f M' = some hp') : ∀ g i, hget hp' g i = if g = f then (M' i).map (MObj.at_ i) else hget hp g i := by
  induction hp generalizing hp' with
  | nil => simp [hmul?] at h
  | cons p r ih =>
    obtain ⟨k, l⟩ := p;simp only [hmul?] at h
    split at h
    · rename_i hk
      have hk' := Nat.eq_of_beq_eq_true hk;subst hk'
      split at h
      · injection h with h; subst h
        intro g i
        by_cases e : k = g
        · subst e; rw [if_pos rfl]; simp only [hget, hfam, Nat.beq_refl, Option.bind_some, gl, isM]
        · rw [if_neg (fun h => e h.symm)]; simp only [hget, hfam, ZaV e]
      · cases h
    · rename_i hk
      have hk' := Nat.ne_of_beq_eq_false hk
      split at h
      · cases h
      · rename_i r' hr
        injection h with h; subst h
        intro g i
        by_cases e : k = g
        · subst e; rw [if_neg hk']; simp only [hget, hfam, Nat.beq_refl]
        · have := ih hr g i;simp only [hget, hfam, ZaV e] at this ⊢;exact this
theorem SR.cellsN {F : Fr} {s : AS} {ρ : Nat → Nat → Value} {act : Act} {w : World} (h : SR F s ρ act w) {f b : Nat} {M : MF} {t : TypeId} {cs : List D} (hM : hfam s.hp f = some [.multi M]) (hb : M b = some (.cells t cs)) : ρ f b = pV b 0 ∧ ∃ us : List Value, w.heap[b]? = some (.cells us.toArray t (0, 0)) ∧ us.length = cs.length ∧ (∀ (j : Nat) c u, cs[j]? = some c → us[j]? = some u → RepD w (F.O ρ s.hp) c u) ∧ ∀ u ∈ us, u.oneCell' = true :=
  h.heap.sim f b (.nb b t cs) (by rw [Za5 hM, hb]; rfl)
theorem SR.rowN {F : Fr} {s : AS} {ρ : Nat → Nat → Value} {act : Act} {w : World} (h : SR F s ρ act w) {f b : Nat} {M : MF} {t : TypeId} {k cap : Nat} {xs : List D} (hM : hfam s.hp f = some [.multi M]) (hb : M b = some (.row t k cap xs)) : ρ f b = pV b 0 ∧ ∃ us : List Value, w.ownsRow 0 t k (sV b xs.length cap) xs.length us ∧ Lies D.cells k (RepD w (F.O ρ s.hp)) xs us ∧ ∀ x ∈ xs, ∀ c ∈ x.cells, c.one = true :=
  h.heap.sim f b (.nr b t k cap xs) (by rw [Za5 hM, hb]; rfl)
section
variable {P : Program} {F : Fr} {s : AS} {d : Nat} {x y : Operand} {T E : TypeId} {ty : TypeId} {pos : String} {aft : Array Edge} {g : Option (Nat × Bool)} {k : IntKind} {i : Int}
theorem Zaq {b off : Nat} (hx : s.ev x = some (.d (pD b off))) (hd : Nat.blt d s.n = true) : Zab P F ⟨some d, .nilCheck x, ty, pos, aft, g⟩ s d (.d (pD b off)) :=
  ZaE _ hd fun _ act w hs => ⟨pV b off, by simp [execOp, hs.raw hx], .d (.raw rfl)⟩
theorem ZaB {b off off' o n i : Nat} {r : Bool} (hx : s.ev x = some (.d (pD b off))) (hf : fieldInfo P T i = some (o, n, r)) (hn : Nat.blt 0 n = true) (ho : off + o = off') (hd : Nat.blt d s.n = true) :
    Zab P F ⟨some d, .fieldAddr T x i, ty, pos, aft, g⟩ s d (.d (pD b off')) :=
  ZaE _ hd fun ρ act w hs => by
    have h := hs.raw hx;subst ho;exact ⟨pV b (off + o), by simp [execOp, h, run_fieldAt hf hn], .d (.raw rfl)⟩
theorem Zbi {a : Option Addr} {n cap : Nat} (hx : s.ev x = some (.d (.raw (.slice a n cap)))) (hT : P.underlying T = some (.slice E)) (hd : Nat.blt d s.n = true) :
    Zab P F ⟨some d, .call { callee := .builtin .len, args := #[x], argTypes := #[T] }, ty, pos, aft, g⟩ s d (.d (.raw (.int .i64 (n : Int)))) :=
  ZaE _ hd fun _ act w hs => ⟨_, by simp [execOp, resolve, invoke, builtin, Builtin.len_, run_underlying hT, hs.raw hx, goInt], .d (.raw rfl)⟩
end
theorem SR.move {F : Fr} {s : AS} {ρ : Nat → Nat → Value} {act : Act} {w : World} (hs : SR F s ρ act w) (f1 i1 f2 i2 : Nat) {o1 o2 : AObj} {v2 : Value} {env' : List (Nat × AV)} {hp' : Hp}
    (h1 : hget s.hp f1 i1 = some o1) (hn2 : hget s.hp f2 i2 = none) (hv : blkOf v2 = blkOf (ρ f1 i1)) (hp1 : F.pin f1 i1 = none)
    (ha : ∀ f i o', hget hp' f i = some o' → (f = f2 ∧ i = i2 ∧ o' = o2) ∨ (¬ (f = f2 ∧ i = i2) ∧ ¬ (f = f1 ∧ i = i1) ∧ ∃ o, hget s.hp f i = some o ∧ (∀ w O ρ v, SimObj w O ρ o v → SimObj w O ρ o' v) ∧ ¬ o'.Refs f2 i2))
    (hb : hget hp' f2 i2 = some o2) (hc : ∀ f i t cs, hget s.hp f i = some (.blk t cs) → ¬ (f = f1 ∧ i = i1) → ∃ cs', hget hp' f i = some (.blk t cs'))
    (hcc : ∀ f i o, hget s.hp f i = some o → ¬ (f = f1 ∧ i = i1) → ∃ o', hget hp' f i = some o')
    (hE : ∀ t a, get env' t = some a → RepA w (F.O ρ s.hp) ρ a (act.tmps.getD t undef) ∧ ¬ a.Refs f2 i2)
    (hsim : SimObj w (F.O ρ s.hp) (upd ρ f2 i2 v2) o2 v2) : SR F ⟨s.n, env', hp'⟩ (upd ρ f2 i2 v2) act w := by
  have hown : ∀ b, OwnB (upd ρ f2 i2 v2) hp' b ↔ OwnB ρ s.hp b := fun b => by
    constructor
    · rintro ⟨f, i, o', ho, hbk⟩;rcases ha f i o' ho with ⟨rfl, rfl, rfl⟩ | ⟨e2, _, o, h3, _⟩
      · rw [Zbv, hv] at hbk; exact ⟨f1, i1, o1, h1, hbk⟩
      · rw [Zbd e2] at hbk; exact ⟨f, i, o, h3, hbk⟩
    · rintro ⟨f, i, o, ho, hbk⟩
      by_cases e : f = f1 ∧ i = i1
      · obtain ⟨rfl, rfl⟩ := e;exact ⟨f2, i2, o2, hb, by rw [Zbv, hv]; exact hbk⟩
      · have e2 : ¬ (f = f2 ∧ i = i2) := fun e2 => by rw [e2.1, e2.2, hn2] at ho; cases ho
        obtain ⟨o', h3⟩ := hcc f i o ho e;exact ⟨f, i, o', h3, by rw [Zbd e2]; exact hbk⟩
  have hO : F.O (upd ρ f2 i2 v2) hp' = F.O ρ s.hp := funext fun b => propext ⟨fun h => h.imp id (hown b).1, fun h => h.imp id (hown b).2⟩;have href : ∀ (f i : Nat), ¬ (f = f2 ∧ i = i2) → upd ρ f2 i2 v2 f i = ρ f i := fun f i e => Zbd e;refine ⟨hs.size, hO ▸ hs.defs, fun t a hta => ?_, ?_⟩
  · obtain ⟨h3, h4⟩ := hE t a hta;show RepA w (F.O (upd ρ f2 i2 v2) hp') _ _ _;rw [hO];exact h3.mono (Nat.le_refl _) (fun _ _ _ => rfl) (fun _ _ h => h) fun f i hr => href f i fun e => h4 (by rw [← e.1, ← e.2]; exact hr)
  · refine ⟨fun f i o' ho => ?_, fun f i f' i' o o' b ho ho' hbk hbk' => ?_, fun b hbk => hs.heap.mine b ((hown b).1 hbk), hs.heap.os, hs.heap.tape, hs.heap.output, hs.heap.size0, hs.heap.keep, fun f i b hpin => ?_, hs.heap.drawn⟩
    · show SimObj w (F.O (upd ρ f2 i2 v2) hp') _ _ _;rw [hO];rcases ha f i o' ho with ⟨rfl, rfl, rfl⟩ | ⟨e2, _, o, h3, h4, h5⟩
      · rw [Zbv]; exact hsim
      · rw [Zbd e2];exact (h4 _ _ _ _ (hs.heap.sim f i o h3)).mono (Nat.le_refl _) (fun _ _ _ => rfl) (fun _ _ h => h) (fun _ _ => rfl) fun f' i' hr => href f' i' fun e => h5 (by rw [← e.1, ← e.2]; exact hr)
    · rcases ha f i o ho with ⟨rfl, rfl, _⟩ | ⟨e2, e3, q, h3, _⟩ <;> rcases ha f' i' o' ho' with ⟨rfl, rfl, _⟩ | ⟨e2', e3', q', h3', _⟩
      · exact ⟨rfl, rfl⟩
      · rw [Zbv, hv] at hbk; rw [Zbd e2'] at hbk';exact absurd (hs.heap.inj f' i' f1 i1 q' o1 b h3' h1 hbk' hbk) e3'
      · rw [Zbv, hv] at hbk'; rw [Zbd e2] at hbk;exact absurd (hs.heap.inj f i f1 i1 q o1 b h3 h1 hbk hbk') e3
      · rw [Zbd e2] at hbk; rw [Zbd e2'] at hbk';exact hs.heap.inj f i f' i' q q' b h3 h3' hbk hbk'
    · obtain ⟨a1, t, cs, a2⟩ := hs.heap.pins f i b hpin;have e1 : ¬ (f = f1 ∧ i = i1) := fun e => by rw [e.1, e.2, hp1] at hpin; cases hpin
      have e2 : ¬ (f = f2 ∧ i = i2) := fun e => by rw [e.1, e.2, hn2] at a2; cases a2
      obtain ⟨cs', h3⟩ := hc f i t cs a2 e1;exact ⟨by rw [Zbd e2]; exact a1, t, cs', h3⟩
theorem pin_none {F : Fr} {pn : List Nat} {g i : Nat} (hF : F.pn = pn) (h : memB g pn = false) : F.pin g i = none := by
  cases hh : F.pin g i with
  | none => rfl
  | some b =>
    have := ZaX.2 (hF ▸ F.hpn g i b hh);rw [h] at this; cases this
theorem MObj.val {F : Fr} {s : AS} {ρ : Nat → Nat → Value} {act : Act} {w : World} (hs : SR F s ρ act w) {f b : Nat} {M : MF} {m : MObj} (hM : hfam s.hp f = some [.multi M]) (hb : M b = some m) : ρ f b = pV b 0 := by
  have h2 : hget s.hp f b = some (m.at_ b) := by rw [Za5 hM, hb]; rfl
  have := hs.heap.sim f b _ h2
  cases m with
  | cells _ _ => exact this.1
  | row _ _ _ _ => exact this.1
theorem idx0 {hp : Hp} {g i : Nat} {o q : AObj} (hone : hfam hp g = some [o]) (hm : notM o = true) (h : hget hp g i = some q) : i = 0 := by
  unfold hget at h;rw [hone] at h;have h2 : [o][i]? = some q := by rw [← gl_one hm]; exact h
  match i, h2 with
  | 0, _ => rfl
  | i + 1, h2 => cases h2
theorem moved {hp hp1 hp2 hp3 hp' : Hp} {g f b : Nat} {M : MF} {m : MObj} {o : AObj} (hgf : g ≠ f) (hone : hfam hp g = some [o]) (hnm : notM o = true) (hM : hfam hp f = some [.multi M]) (hMb : M b = none) (hH : killH? g hp = some hp1) (hH2 : killH? f hp1 = some hp2) (hh : hdel? g hp2 = some hp3) (hm : hmul? hp3 f (mput_ M b m) = some hp') :
    (∀ f' i o', hget hp' f' i = some o' → (f' = f ∧ i = b ∧ o' = m.at_ b) ∨ (¬ (f' = f ∧ i = b) ∧ ¬ (f' = g ∧ i = 0) ∧ ∃ o, hget hp f' i = some o ∧ (∀ w O ρ v, SimObj w O ρ o v → SimObj w O ρ o' v) ∧ ¬ o'.Refs f b)) ∧ hget hp' f b = some (m.at_ b) ∧
    (∀ f' i t cs, hget hp f' i = some (.blk t cs) → ¬ (f' = g ∧ i = 0) → ∃ cs', hget hp' f' i = some (.blk t cs')) ∧ (∀ f' i o, hget hp f' i = some o → ¬ (f' = g ∧ i = 0) → ∃ o', hget hp' f' i = some o') := by
  obtain ⟨a1, a2⟩ := killH?_spec hH;obtain ⟨c1, c2⟩ := killH?_spec hH2;have hd := hdel?_spec hh;have hg' := hmul?_spec hm;refine ⟨fun f' i o' hq => ?_, by rw [hg', if_pos rfl, mput_same]; rfl, fun f' i t' cs' hq hne' => ?_, fun f' i o hq hne' => ?_⟩
  · rw [hg'] at hq
    by_cases e : f' = f
    · subst e;rw [if_pos rfl] at hq
      by_cases e2 : i = b
      · subst e2;rw [mput_same] at hq; injection hq with hq
        exact .inl ⟨rfl, rfl, hq.symm⟩
      · rw [mput_ne e2] at hq;refine .inr ⟨fun h => e2 h.2, fun h => hgf h.1.symm, o', by rw [Za5 hM]; exact hq, fun _ _ _ _ h => h, ?_⟩
        cases hmi : M i with
        | none => rw [hmi] at hq; cases hq
        | some m => rw [hmi] at hq; injection hq with hq; subst hq; exact MObj.norefs
    · rw [if_neg e, hd] at hq
      split at hq
      · cases hq
      · rename_i e3
        obtain ⟨o2, q1, q2⟩ := c1 _ _ _ hq;obtain ⟨o3, q3, q4⟩ := a1 _ _ _ q1;exact .inr ⟨fun h => e h.1, fun h => e3 h.1, o3, q3, fun w O ρ v h => q2.1 _ _ _ _ (q4.1 _ _ _ _ h), fun hr => Zbx (q2.2.1 _ _ hr) rfl⟩
  · have e1 : f' ≠ f := fun e => by
      subst e; rw [Za5 hM] at hq
      cases hmi : M i with
      | none => rw [hmi] at hq; cases hq
      | some m => rw [hmi] at hq; injection hq with hq; exact MObj.notBlk hq
    obtain ⟨o2, q1, q2⟩ := a2 _ _ _ hq;obtain ⟨cs2, rfl⟩ := q2.2.2.1 _ _ rfl;obtain ⟨o3, q3, q4⟩ := c2 _ _ _ q1;obtain ⟨cs3, rfl⟩ := q4.2.2.1 _ _ rfl;refine ⟨cs3, ?_⟩;rw [hg', if_neg e1, hd, if_neg]
    · exact q3
    · rintro rfl; exact hne' ⟨rfl, idx0 hone hnm hq⟩
  · by_cases e : f' = f
    · subst e
      by_cases e2 : i = b
      · subst e2; rw [Za5 hM, hMb] at hq; cases hq
      · exact ⟨o, by rw [hg', if_pos rfl, mput_ne e2, ← Za5 hM]; exact hq⟩
    · obtain ⟨o2, q1, q2⟩ := a2 _ _ _ hq;obtain ⟨o3, q3, q4⟩ := c2 _ _ _ q1;refine ⟨o3, ?_⟩;rw [hg', if_neg e, hd, if_neg]
      · exact q3
      · rintro rfl; exact hne' ⟨rfl, idx0 hone hnm hq⟩
theorem slots_moved {F : Fr} {s : AS} {ρ : Nat → Nat → Value} {act : Act} {w : World} (hs : SR F s ρ act w) {g f b t : Nat} {v : Value} {env1 env' : List (Nat × AV)} (hE : killE? g s.env = some env1) (hE2 : killE? f env1 = some env') (hv : act.tmps.getD t undef = v) (h1 : v.oneCell' = true) :
    ∀ t' a, get ((t, .d (.raw v)) :: env') t' = some a → RepA w (F.O ρ s.hp) ρ a (act.tmps.getD t' undef) ∧ ¬ a.Refs f b := fun t' a ha => by
  rcases Zbn ha with ⟨rfl, rfl⟩ | ⟨_, ha⟩
  · rw [hv]; exact ⟨.d (.raw h1), fun h => by cases h⟩
  · rcases killE?_spec hE2 ha with rfl | ⟨h3, h4⟩
    · exact ⟨.top, fun h => by cases h⟩
    · rcases killE?_spec hE h3 with rfl | ⟨h5, _⟩
      · exact ⟨.top, fun h => by cases h⟩
      · exact ⟨hs.env t' _ h5, h4 b⟩
theorem SR.absorbR {F : Fr} {s : AS} {ρ : Nat → Nat → Value} {act : Act} {w : World} (hs : SR F s ρ act w) (t g f : Nat) {M : MF} {T : TypeId} {kk n : Nat} {xs : List D} {pn : List Nat} {env1 env' : List (Nat × AV)} {hp1 hp2 hp3 : Hp} {hp' : Nat → Nat → Hp} (hF : F.pn = pn) (hpn : memB g pn = false) (hne : Nat.beq g f = false)
    (ht : get s.env t = some (.own g 0 n)) (hn : n = xs.length) (hxs : xs ≠ []) (hone : hfam s.hp g = some [.rowD T kk xs]) (hM : hfam s.hp f = some [.multi M]) (hE : killE? g s.env = some env1) (hE2 : killE? f env1 = some env') (hH : killH? g s.hp = some hp1) (hH2 : killH? f hp1 = some hp2) (hh : hdel? g hp2 = some hp3) (hm : ∀ b cap, hmul? hp3 f (mput_ M b (.row T kk cap xs)) = some (hp' b cap)) :
    ∃ b cap, M b = none ∧ xs.length ≤ cap ∧ SR F ⟨s.n, (t, .d (.raw (sV b n cap))) :: env', hp' b cap⟩ (upd ρ f b (pV b 0)) act w := by
  subst hn;have hgf : g ≠ f := Nat.ne_of_beq_eq_false hne;have ho : hget s.hp g 0 = some (.rowD T kk xs) := by unfold hget; rw [hone]; rfl
  obtain ⟨us, a, cap, hρ, k1, k2, k3, k4, k5⟩ := hs.rowD ho
  have hpos : 0 < xs.length := by
    cases xs with
    | nil => exact absurd rfl hxs
    | cons _ _ => simp
  obtain ⟨b, rfl, _⟩ := k5 hpos
  have hMb : M b = none := by
    cases hmb : M b with
    | none => rfl
    | some m =>
      have h2 : hget s.hp f b = some (m.at_ b) := by rw [Za5 hM, hmb]; rfl
      exact absurd (hs.heap.inj g 0 f b _ _ b ho h2 (by rw [hρ]; rfl) (by rw [MObj.val hs hM hmb]; rfl)).1 hgf
  obtain ⟨m1, m2, m3, m4⟩ := moved hgf hone rfl hM hMb hH hH2 hh (hm b cap);refine ⟨b, cap, hMb, k4.1, hs.move g 0 f b ho (by simp only [Za5 hM, hMb, Option.map_none]) (by rw [hρ]; rfl) (pin_none hF hpn) m1 m2 m3 m4 (slots_moved hs hE hE2 ?_ rfl) ⟨rfl, us, k1, k2, k3⟩⟩;have hr := hs.env t _ ht
  generalize act.tmps.getD t undef = x at hr ⊢
  cases hr with
  | own h1 h2 =>
    rw [hρ] at h1; injection h1 with h1 h3 h4; subst h1 h4; rfl
theorem SR.splitR {F : Fr} {s : AS} {ρ : Nat → Nat → Value} {act : Act} {w : World} (hs : SR F s ρ act w) (t g f : Nat) {M : MF} {T : TypeId} {kk n cap b : Nat} {xs : List D} {env' : List (Nat × AV)} {hp1 hp' : Hp} (hne : Nat.beq g f = false)
    (ht : get s.env t = some (.d (.raw (sV b n cap)))) (hn : n = xs.length) (hM : hfam s.hp f = some [.multi M]) (hb : M b = some (.row T kk cap xs)) (hE : killE? g s.env = some env') (hH : killH? g s.hp = some hp1) (hz : hfam hp1 g = none) (hm : hmul? hp1 f (mdel_ M b) = some hp') :
    SR F ⟨s.n, (t, .own g 0 n) :: env', (g, [.rowD T kk xs]) :: hp'⟩ (upd ρ g 0 (sV b n cap)) act w := by
  subst hn;have hgf : g ≠ f := Nat.ne_of_beq_eq_false hne;obtain ⟨hρ, us, k1, k2, k3⟩ := hs.rowN hM hb;obtain ⟨a1, a2⟩ := killH?_spec hH;have hg' := hmul?_spec hm
  have hz' : ∀ i, hget s.hp g i = none := fun i => by
    cases hq : hget s.hp g i with
    | none => rfl
    | some o =>
      obtain ⟨o2, q1, _⟩ := a2 _ _ _ hq;unfold hget at q1; rw [hz] at q1; cases q1
  have hcons : ∀ f' i, hget ((g, [.rowD T kk xs]) :: hp') f' i = if f' = g then [AObj.rowD T kk xs][i]? else hget hp' f' i := fun f' i => by
    by_cases e : f' = g
    · subst e; rw [if_pos rfl]; simp only [hget, hfam, Nat.beq_refl, Option.bind_some, gl_one (o := .rowD T kk xs) rfl]
    · rw [if_neg e]; simp only [hget, hfam, ZaV (fun h => e h.symm)]
  have hmv := hs.move f b g 0 (o1 := .nr b T kk cap xs) (o2 := .rowD T kk xs) (v2 := sV b xs.length cap) (env' := env') (hp' := (g, [.rowD T kk xs]) :: hp') (by rw [Za5 hM, hb]; rfl) (hz' 0) (by rw [hρ]; rfl) (by
    cases hpin : F.pin f b with
    | none => rfl
    | some b' =>
      obtain ⟨_, t', cs', h⟩ := hs.heap.pins f b b' hpin
      rw [Za5 hM, hb] at h; injection h with h; cases h)
    (fun f' i o' hq => by
      rw [hcons] at hq
      split at hq
      · rename_i e
        subst e
        match i, hq with
        | 0, hq => injection hq with hq; exact .inl ⟨rfl, rfl, hq.symm⟩
        | i + 1, hq => cases hq
      · rename_i e
        rw [hg'] at hq
        split at hq
        · rename_i e2
          subst e2
          by_cases e3 : i = b
          · subst e3; rw [mdel_same] at hq; cases hq
          · rw [mdel_ne e3] at hq;refine .inr ⟨fun h => e h.1, fun h => e3 h.2, o', by rw [Za5 hM]; exact hq, fun _ _ _ _ h => h, ?_⟩
            cases hmi : M i with
            | none => rw [hmi] at hq; cases hq
            | some m => rw [hmi] at hq; injection hq with hq; subst hq; exact MObj.norefs
        · rename_i e2
          obtain ⟨o3, q3, q4⟩ := a1 _ _ _ hq
          exact .inr ⟨fun h => e h.1, fun h => e2 h.1, o3, q3, fun w O ρ v h => q4.1 _ _ _ _ h, fun hr => Zbx (q4.2.1 _ _ hr) rfl⟩)
    (by rw [hcons, if_pos rfl]; rfl)
    (fun f' i t' cs' hq hne' => by
      have e1 : f' ≠ f := fun e => by
        subst e; rw [Za5 hM] at hq
        cases hmi : M i with
        | none => rw [hmi] at hq; cases hq
        | some m => rw [hmi] at hq; injection hq with hq; exact MObj.notBlk hq
      have e2 : f' ≠ g := fun e => by subst e; rw [hz'] at hq; cases hq
      obtain ⟨o2, q1, q2⟩ := a2 _ _ _ hq;obtain ⟨cs2, rfl⟩ := q2.2.2.1 _ _ rfl
      exact ⟨cs2, by rw [hcons, if_neg e2, hg', if_neg e1]; exact q1⟩)
    (fun f' i o hq hne' => by
      have e2 : f' ≠ g := fun e => by subst e; rw [hz'] at hq; cases hq
      by_cases e1 : f' = f
      · subst e1;have e3 : i ≠ b := fun e => hne' ⟨rfl, e⟩;exact ⟨o, by rw [hcons, if_neg e2, hg', if_pos rfl, mdel_ne e3, ← Za5 hM]; exact hq⟩
      · obtain ⟨o2, q1, q2⟩ := a2 _ _ _ hq
        exact ⟨o2, by rw [hcons, if_neg e2, hg', if_neg e1]; exact q1⟩)
    (fun t' a ha => by
      rcases killE?_spec hE ha with rfl | ⟨h3, h4⟩
      · exact ⟨.top, fun h => by cases h⟩
      · exact ⟨hs.env t' _ h3, h4 0⟩)
    ⟨us, k1, k2, k3⟩
  refine ⟨hmv.size, hmv.defs, fun t' a ha => ?_, hmv.heap⟩;rcases Zbn ha with ⟨rfl, rfl⟩ | ⟨_, ha⟩
  · have hr := hs.env t _ ht
    generalize act.tmps.getD t undef = x at hr ⊢
    cases hr with
    | d h => cases h with | raw _ => exact .own Zbv (Nat.le_refl _)
  · exact hmv.env t' a ha
section
variable {P : Program} {F : Fr} {Q : Exit → AS → Prop} {c : Code} {ops : Array Oper} {l : List Oper} {n : Nat} {env env1 env' : List (Nat × AV)} {hp hp1 hp2 hp3 : Hp}
theorem o_absorbR (t g f : Nat) {M : MF} {T : TypeId} {kk m : Nat} {xs : List D} {pn : List Nat} {hp' : Nat → Nat → Hp} (hF : F.pn = pn) (hpn : memB g pn = false) (hne : Nat.beq g f = false) (ht : get env t = some (.own g 0 m)) (hn : m = xs.length) (hxs : xs ≠ []) (hone : hfam hp g = some [.rowD T kk xs]) (hM : hfam hp f = some [.multi M]) (hE : killE? g env = some env1) (hE2 : killE? f env1 = some env') (hH : killH? g hp = some hp1) (hH2 : killH? f hp1 = some hp2) (hh : hdel? g hp2 = some hp3) (hm : ∀ b cap, hmul? hp3 f (mput_ M b (.row T kk cap xs)) = some (hp' b cap))
    (h : ∀ b cap, M b = none → xs.length ≤ cap → Aops P F ops l Q ⟨n, (t, .d (.raw (sV b m cap))) :: env', hp' b cap⟩) : Aops P F ops l Q ⟨n, env, hp⟩ := fun ρ act w hs => by
  obtain ⟨b, cap, hb, hc, hs'⟩ := hs.absorbR t g f hF hpn hne ht hn hxs hone hM hE hE2 hH hH2 hh hm;exact h b cap hb hc _ act w hs'
theorem a_multi (f : Nat) (hE : killE? f env = some env') (hH : killH? f hp = some hp1) (hz : hfam hp1 f = none) (h : Awp P F c Q ⟨n, env', (f, [.multi fun _ => none]) :: hp1⟩) : Awp P F c Q ⟨n, env, hp⟩ := fun ρ act w hs => by
  refine h ρ act w ?_;obtain ⟨a1, a2⟩ := killH?_spec hH
  have hcons : ∀ f' i, hget ((f, [.multi fun _ => none]) :: hp1) f' i = if f' = f then none else hget hp1 f' i := fun f' i => by
    by_cases e : f' = f
    · subst e; rw [if_pos rfl]; simp only [hget, hfam, Nat.beq_refl, Option.bind_some, gl, isM, Option.map_none]
    · rw [if_neg e]; simp only [hget, hfam, ZaV (fun h => e h.symm)]
  have hh : Heap F ((f, [.multi fun _ => none]) :: hp1) ρ w := hs.heap.less (fun g i o' ho => by
    rw [hcons] at ho
    split at ho
    · cases ho
    · obtain ⟨o, h1, h2⟩ := a1 _ _ _ ho
      exact ⟨o, h1, fun w O v h => h2.1 _ _ _ _ h⟩) fun g i o ho => by
    obtain ⟨o', h1, h2⟩ := a2 _ _ _ ho
    have e : g ≠ f := fun e => by
      subst e; unfold hget at h1; rw [hz] at h1; cases h1
    exact ⟨o', by rw [hcons, if_neg e]; exact h1, fun t cs e => by subst e; exact h2.2.2.1 _ _ rfl⟩
  have hO : F.O ρ ((f, [.multi fun _ => none]) :: hp1) = F.O ρ hp := funext fun b => propext ⟨fun h => h.imp id fun ⟨g, i, o, h1, h2⟩ => by
    rw [hcons] at h1
    split at h1
    · cases h1
    · obtain ⟨o', h3, _⟩ := a1 _ _ _ h1
      exact ⟨g, i, o', h3, h2⟩, fun h => h.imp id fun ⟨g, i, o, h1, h2⟩ => by
    obtain ⟨o', h3, _⟩ := a2 _ _ _ h1
    have e : g ≠ f := fun e => by
      subst e; unfold hget at h3; rw [hz] at h3; cases h3
    exact ⟨g, i, o', by rw [hcons, if_neg e]; exact h3, h2⟩⟩
  refine ⟨hs.size, hO ▸ hs.defs, fun t a ha => ?_, hh⟩;show RepA w (F.O ρ ((f, [.multi fun _ => none]) :: hp1)) ρ a _;rw [hO];rcases killE?_spec hE ha with rfl | ⟨h3, _⟩
  · exact .top
  · exact hs.env t a h3
end
end Go.Proofs.Ytgdppeobgefogaa
/- A block of the map becomes a family of its own; a row that a block's cell refers to goes back into the map. No program in sight. -/
namespace Go.Proofs.Ytgdppeobgefogaa
open Go.RowKit

theorem SR.split {F : Fr} {s : AS} {ρ : Nat → Nat → Value} {act : Act} {w : World} (hs : SR F s ρ act w) (t g f : Nat) {M : MF} {T : TypeId} {b : Nat} {cs : List D} {env' : List (Nat × AV)} {hp1 hp' : Hp} (hne : Nat.beq g f = false)
    (ht : get s.env t = some (.d (pD b 0))) (hM : hfam s.hp f = some [.multi M]) (hb : M b = some (.cells T cs)) (hE : killE? g s.env = some env') (hH : killH? g s.hp = some hp1) (hz : hfam hp1 g = none) (hm : hmul? hp1 f (mdel_ M b) = some hp') :
    SR F ⟨s.n, (t, .ptr g 0 0) :: env', (g, [.blk T (cs.map .d)]) :: hp'⟩ (upd ρ g 0 (pV b 0)) act w := by
  have hgf : g ≠ f := Nat.ne_of_beq_eq_false hne;obtain ⟨hρ, us, k1, k2, k3, k4⟩ := hs.cellsN hM hb;obtain ⟨a1, a2⟩ := killH?_spec hH;have hg' := hmul?_spec hm
  have hz' : ∀ i, hget s.hp g i = none := fun i => by
    cases hq : hget s.hp g i with
    | none => rfl
    | some o =>
      obtain ⟨o2, q1, _⟩ := a2 _ _ _ hq;unfold hget at q1; rw [hz] at q1; cases q1
  have hcons : ∀ f' i, hget ((g, [.blk T (cs.map .d)]) :: hp') f' i = if f' = g then [AObj.blk T (cs.map .d)][i]? else hget hp' f' i := fun f' i => by
    by_cases e : f' = g
    · subst e; rw [if_pos rfl]; simp only [hget, hfam, Nat.beq_refl, Option.bind_some, gl_one (o := .blk T (cs.map .d)) rfl]
    · rw [if_neg e]; simp only [hget, hfam, ZaV (fun h => e h.symm)]
  have hmv := hs.move f b g 0 (o1 := .nb b T cs) (o2 := .blk T (cs.map .d)) (v2 := pV b 0) (env' := env') (hp' := (g, [.blk T (cs.map .d)]) :: hp') (by rw [Za5 hM, hb]; rfl) (hz' 0) (by rw [hρ]) (by
    cases hpin : F.pin f b with
    | none => rfl
    | some b' =>
      obtain ⟨_, t', cs', h⟩ := hs.heap.pins f b b' hpin
      rw [Za5 hM, hb] at h; injection h with h; cases h)
    (fun f' i o' hq => by
      rw [hcons] at hq
      split at hq
      · rename_i e
        subst e
        match i, hq with
        | 0, hq => injection hq with hq; exact .inl ⟨rfl, rfl, hq.symm⟩
        | i + 1, hq => cases hq
      · rename_i e
        rw [hg'] at hq
        split at hq
        · rename_i e2
          subst e2
          by_cases e3 : i = b
          · subst e3; rw [mdel_same] at hq; cases hq
          · rw [mdel_ne e3] at hq;refine .inr ⟨fun h => e h.1, fun h => e3 h.2, o', by rw [Za5 hM]; exact hq, fun _ _ _ _ h => h, ?_⟩
            cases hmi : M i with
            | none => rw [hmi] at hq; cases hq
            | some m => rw [hmi] at hq; injection hq with hq; subst hq; exact MObj.norefs
        · rename_i e2
          obtain ⟨o3, q3, q4⟩ := a1 _ _ _ hq
          exact .inr ⟨fun h => e h.1, fun h => e2 h.1, o3, q3, fun w O ρ v h => q4.1 _ _ _ _ h, fun hr => Zbx (q4.2.1 _ _ hr) rfl⟩)
    (by rw [hcons, if_pos rfl]; rfl)
    (fun f' i t' cs' hq hne' => by
      have e1 : f' ≠ f := fun e => by
        subst e; rw [Za5 hM] at hq
        cases hmi : M i with
        | none => rw [hmi] at hq; cases hq
        | some m => rw [hmi] at hq; injection hq with hq; exact MObj.notBlk hq
      have e2 : f' ≠ g := fun e => by subst e; rw [hz'] at hq; cases hq
      obtain ⟨o2, q1, q2⟩ := a2 _ _ _ hq;obtain ⟨cs2, rfl⟩ := q2.2.2.1 _ _ rfl
      exact ⟨cs2, by rw [hcons, if_neg e2, hg', if_neg e1]; exact q1⟩)
    (fun f' i o hq hne' => by
      have e2 : f' ≠ g := fun e => by subst e; rw [hz'] at hq; cases hq
      by_cases e1 : f' = f
      · subst e1;have e3 : i ≠ b := fun e => hne' ⟨rfl, e⟩;exact ⟨o, by rw [hcons, if_neg e2, hg', if_pos rfl, mdel_ne e3, ← Za5 hM]; exact hq⟩
      · obtain ⟨o2, q1, q2⟩ := a2 _ _ _ hq
        exact ⟨o2, by rw [hcons, if_neg e2, hg', if_neg e1]; exact q1⟩)
    (fun t' a ha => by
      rcases killE?_spec hE ha with rfl | ⟨h3, h4⟩
      · exact ⟨.top, fun h => by cases h⟩
      · exact ⟨hs.env t' _ h3, h4 0⟩)
    ⟨b, us, rfl, k1, by rw [List.length_map]; exact k2, fun j c u hc hu => by
      rw [List.getElem?_map] at hc
      cases hj : cs[j]? with
      | none => rw [hj] at hc; cases hc
      | some d =>
        rw [hj] at hc; injection hc with hc; subst hc
        exact .d (k3 j d u hj hu), k4⟩
  refine ⟨hmv.size, hmv.defs, fun t' a ha => ?_, hmv.heap⟩;rcases Zbn ha with ⟨rfl, rfl⟩ | ⟨_, ha⟩
  · have hr := hs.env t _ ht
    generalize act.tmps.getD t undef = x at hr ⊢
    cases hr with
    | d h => cases h with | raw _ => exact .ptr Zbv
  · exact hmv.env t' a ha
section
variable {P : Program} {F : Fr} {Q : Exit → AS → Prop} {c : Code} {n : Nat} {env env1 env' : List (Nat × AV)} {hp hp1 : Hp}
end
end Go.Proofs.Ytgdppeobgefogaa
/- A binary heap in a list: sifting up and down. Plain laws. -/
namespace Go.Proofs.Ytgdppeobgefogaa
def nth (l : List Nat) (i : Nat) : Nat := l.getD i 0
theorem Za6 {l : List Nat} {i : Nat} (h : i < l.length) : nth l i = l[i] := by simp [nth, h]
theorem nth_get? {l : List Nat} {i : Nat} (h : i < l.length) : l[i]? = some (nth l i) := by rw [Za6 h, List.getElem?_eq_getElem h]
theorem Zbs {l : List Nat} {i : Nat} (h : i < l.length) : nth l i ∈ l := by rw [Za6 h]; exact List.getElem_mem h
def swp (l : List Nat) (i j : Nat) : List Nat := (l.set i (nth l j)).set j (nth l i)
theorem ZaR (l : List Nat) (i j : Nat) : (swp l i j).length = l.length := by simp [swp]
theorem nth_set {l : List Nat} {i k x : Nat} (hi : i < l.length) : nth (l.set i x) k = if k = i then x else nth l k := by
  unfold nth;rw [List.getD_eq_getElem?_getD, List.getD_eq_getElem?_getD, List.getElem?_set]
  by_cases e : i = k
  · subst e; simp [hi]
  · rw [if_neg e, if_neg fun h => e h.symm]
theorem nth_swp {l : List Nat} {i j k : Nat} (hi : i < l.length) (hj : j < l.length) : nth (swp l i j) k = if k = j then nth l i else if k = i then nth l j else nth l k := by
  unfold swp;rw [nth_set (by simpa using hj), nth_set hi]
theorem swp_perm {l : List Nat} {i j : Nat} (hi : i < l.length) (hj : j < l.length) : (swp l i j).Perm l := by
  refine List.perm_iff_count.2 fun a => ?_;unfold swp;rw [List.count_set (by simpa using hj), List.count_set hi];rw [Za6 hi, Za6 hj, List.getElem_set];have h1 : 0 < l.count l[i] := List.count_pos_iff.2 (List.getElem_mem hi);have h2 : 0 < l.count l[j] := List.count_pos_iff.2 (List.getElem_mem hj)
  by_cases e : i = j
  · subst e
    by_cases e2 : l[i] = a
    · subst e2; simp <;> omega
    · simp [e2]
  · simp only [if_neg e, beq_iff_eq]
    by_cases e2 : l[i] = a <;> by_cases e3 : l[j] = a
    · subst e2; simp [e3] <;> omega
    · subst e2; simp [e3] <;> omega
    · subst e3; simp [e2] <;> omega
    · simp [e2, e3]

def Heap2 (K : Nat → Nat) (l : List Nat) : Prop := ∀ i, 0 < i → i < l.length → K (nth l ((i - 1) / 2)) ≤ K (nth l i)
theorem heap_min {K : Nat → Nat} {l : List Nat} (h : Heap2 K l) : ∀ i, i < l.length → K (nth l 0) ≤ K (nth l i) := by
  intro i
  induction i using Nat.strongRecOn with
  | ind i ih =>
    intro hi
    by_cases h0 : i = 0
    · subst h0; exact Nat.le_refl _
    · exact Nat.le_trans (ih ((i - 1) / 2) (by omega) (by omega)) (h i (by omega) hi)
def upF (K : Nat → Nat) : Nat → List Nat → Nat → List Nat
  | 0, l, _ => l
  | f + 1, l, j => if j = 0 then l else if K (nth l j) < K (nth l ((j - 1) / 2)) then upF K f (swp l ((j - 1) / 2) j) ((j - 1) / 2) else l
def dnF (K : Nat → Nat) (n : Nat) : Nat → List Nat → Nat → List Nat
  | 0, l, _ => l
  | f + 1, l, i => if n ≤ 2 * i + 1 then l else
    let j := if 2 * i + 2 < n ∧ K (nth l (2 * i + 2)) < K (nth l (2 * i + 1)) then 2 * i + 2 else 2 * i + 1
    if K (nth l j) < K (nth l i) then dnF K n f (swp l i j) j else l
theorem upF_perm (K : Nat → Nat) : ∀ (f : Nat) (l : List Nat) (j : Nat), j < l.length → (upF K f l j).Perm l
  | 0, l, _, _ => .refl _
  | f + 1, l, j, hj => by
    unfold upF
    split
    · exact .refl _
    · split
      · exact (upF_perm K f _ _ (by rw [ZaR]; omega)).trans (swp_perm (by omega) hj)
      · exact .refl _
theorem dnF_perm (K : Nat → Nat) (n : Nat) : ∀ (f : Nat) (l : List Nat) (i : Nat), i < l.length → n ≤ l.length → (dnF K n f l i).Perm l
  | 0, l, _, _, _ => .refl _
  | f + 1, l, i, hi, hn => by
    unfold dnF
    split
    · exact .refl _
    · dsimp only
      split
      · split
        · rename_i h1 h2 h3; exact (dnF_perm K n f _ _ (by rw [ZaR]; omega) (by rw [ZaR]; exact hn)).trans (swp_perm hi (by omega))
        · exact .refl _
      · split
        · exact (dnF_perm K n f _ _ (by rw [ZaR]; omega) (by rw [ZaR]; exact hn)).trans (swp_perm hi (by omega))
        · exact .refl _
def HeapU (K : Nat → Nat) (l : List Nat) (j : Nat) : Prop :=
  (∀ i, 0 < i → i < l.length → i ≠ j → K (nth l ((i - 1) / 2)) ≤ K (nth l i)) ∧ (0 < j → ∀ i, 0 < i → i < l.length → (i - 1) / 2 = j → K (nth l ((j - 1) / 2)) ≤ K (nth l i))
theorem upF_heap (K : Nat → Nat) : ∀ (f : Nat) (l : List Nat) (j : Nat), j ≤ f → j < l.length → HeapU K l j → Heap2 K (upF K f l j)
  | 0, l, j, hf, hj, h => fun i h0 hi => h.1 i h0 hi (by omega)
  | f + 1, l, j, hf, hj, h => by
    unfold upF
    split
    · rename_i e; subst e; exact fun i h0 hi => h.1 i h0 hi (by omega)
    · rename_i hj0
      split
      · rename_i hlt
        refine upF_heap K f _ _ (by omega) (by rw [ZaR]; omega) ⟨fun i h0 hi hne => ?_, fun hp i h0 hi hpi => ?_⟩
        · rw [ZaR] at hi;rw [nth_swp (by omega) hj, nth_swp (by omega) hj, if_neg (show ¬ i = (j - 1) / 2 from hne)]
          by_cases e1 : i = j
          · subst e1; rw [if_neg (by omega), if_pos rfl, if_pos rfl]; exact Nat.le_of_lt hlt
          · rw [if_neg e1]
            by_cases e2 : (i - 1) / 2 = j
            · rw [if_pos e2]; exact h.2 (by omega) i h0 hi e2
            · rw [if_neg e2]
              by_cases e3 : (i - 1) / 2 = (j - 1) / 2
              · rw [if_pos e3];have := h.1 i h0 hi e1;rw [e3] at this; omega
              · rw [if_neg e3]; exact h.1 i h0 hi e1
        · rw [ZaR] at hi;rw [nth_swp (by omega) hj, nth_swp (by omega) hj, if_neg (by omega), if_neg (by omega)];have hq := h.1 ((j - 1) / 2) hp (by omega) (by omega)
          by_cases e1 : i = j
          · subst e1; rw [if_pos rfl]; exact hq
          · rw [if_neg e1, if_neg (by omega)];have := h.1 i h0 hi e1;rw [hpi] at this; omega
      · rename_i hge
        intro i h0 hi
        by_cases e : i = j
        · subst e; omega
        · exact h.1 i h0 hi e
def HeapD (K : Nat → Nat) (n : Nat) (l : List Nat) (i : Nat) : Prop :=
  (∀ k, 0 < k → k < n → (k - 1) / 2 ≠ i → K (nth l ((k - 1) / 2)) ≤ K (nth l k)) ∧ (0 < i → ∀ k, 0 < k → k < n → (k - 1) / 2 = i → K (nth l ((i - 1) / 2)) ≤ K (nth l k))
theorem dnF_heap (K : Nat → Nat) (n : Nat) : ∀ (f : Nat) (l : List Nat) (i : Nat), n ≤ f + i → i < l.length → n ≤ l.length → HeapD K n l i →
    ∀ k, 0 < k → k < n → K (nth (dnF K n f l i) ((k - 1) / 2)) ≤ K (nth (dnF K n f l i) k)
  | 0, l, i, hf, hi, hn, h => fun k h0 hk => h.1 k h0 hk (by omega)
  | f + 1, l, i, hf, hi, hn, h => by
    unfold dnF
    split
    · exact fun k h0 hk => h.1 k h0 hk (by omega)
    · rename_i hlt
      dsimp only
      have key : ∀ j, (j = 2 * i + 1 ∨ j = 2 * i + 2) → j < n → (∀ k, 0 < k → k < n → (k - 1) / 2 = i → K (nth l j) ≤ K (nth l k)) →
          ∀ k, 0 < k → k < n → K (nth (if K (nth l j) < K (nth l i) then dnF K n f (swp l i j) j else l) ((k - 1) / 2)) ≤ K (nth (if K (nth l j) < K (nth l i) then dnF K n f (swp l i j) j else l) k) := by
        intro j hj hjn hmin;have hjl : j < l.length := by omega
        have hpj : (j - 1) / 2 = i := by omega
        split
        · rename_i hlt2
          refine dnF_heap K n f _ _ (by omega) (by rw [ZaR]; exact hjl) (by rw [ZaR]; exact hn) ⟨fun k h0 hk hne => ?_, fun hj0 k h0 hk hpk => ?_⟩
          · rw [nth_swp hi hjl, nth_swp hi hjl, if_neg hne]
            by_cases e1 : k = j
            · subst e1; rw [if_pos rfl, if_pos hpj]; exact Nat.le_of_lt hlt2
            · rw [if_neg e1]
              by_cases e2 : (k - 1) / 2 = i
              · rw [if_pos e2, if_neg (by omega)]; exact hmin k h0 hk e2
              · rw [if_neg e2]
                by_cases e3 : k = i
                · subst e3; rw [if_pos rfl]; exact h.2 h0 j (by omega) hjn hpj
                · rw [if_neg e3]; exact h.1 k h0 hk e2
          · rw [nth_swp hi hjl, nth_swp hi hjl, if_neg (by omega), if_pos hpj, if_neg (by omega), if_neg (by omega)];have := h.1 k h0 hk (by omega);rw [hpk] at this; exact this
        · rename_i hge
          intro k h0 hk
          by_cases e : (k - 1) / 2 = i
          · rw [e]; have := hmin k h0 hk e; omega
          · exact h.1 k h0 hk e
      split
      · rename_i h2
        refine key (2 * i + 2) (.inr rfl) h2.1 fun k h0 hk hp => ?_;rcases (show k = 2 * i + 1 ∨ k = 2 * i + 2 by omega) with rfl | rfl
        · exact Nat.le_of_lt h2.2
        · exact Nat.le_refl _
      · rename_i h2
        refine key (2 * i + 1) (.inl rfl) (by omega) fun k h0 hk hp => ?_;rcases (show k = 2 * i + 1 ∨ k = 2 * i + 2 by omega) with rfl | rfl
        · exact Nat.le_refl _
        · exact Nat.le_of_not_lt fun h3 => h2 ⟨hk, h3⟩
theorem upF_zero (K : Nat → Nat) (f : Nat) (l : List Nat) : upF K f l 0 = l := by cases f <;> simp [upF]
theorem upF_stop {K : Nat → Nat} {f j : Nat} {l : List Nat} (h : ¬ K (nth l j) < K (nth l ((j - 1) / 2))) : upF K f l j = l := by
  cases f with
  | zero => rfl
  | succ f => unfold upF; split <;> first | rfl | exact if_neg h
theorem upF_go {K : Nat → Nat} {f j : Nat} {l : List Nat} (h0 : j ≠ 0) (h : K (nth l j) < K (nth l ((j - 1) / 2))) : upF K (f + 1) l j = upF K f (swp l ((j - 1) / 2) j) ((j - 1) / 2) := by
  rw [upF, if_neg h0, if_pos h]
def dnJ (K : Nat → Nat) (n : Nat) (l : List Nat) (i : Nat) : Nat := if 2 * i + 2 < n ∧ K (nth l (2 * i + 2)) < K (nth l (2 * i + 1)) then 2 * i + 2 else 2 * i + 1
theorem dnJ_lt {K : Nat → Nat} {n i : Nat} {l : List Nat} (h : ¬ n ≤ 2 * i + 1) : dnJ K n l i < n ∧ i < dnJ K n l i := by unfold dnJ; split <;> omega
theorem dnF_end {K : Nat → Nat} {n f i : Nat} {l : List Nat} (h : n ≤ 2 * i + 1) : dnF K n f l i = l := by
  cases f with
  | zero => rfl
  | succ f => rw [dnF, if_pos h]
theorem dnF_stop {K : Nat → Nat} {n f i : Nat} {l : List Nat} (h : ¬ K (nth l (dnJ K n l i)) < K (nth l i)) : dnF K n f l i = l := by
  cases f with
  | zero => rfl
  | succ f =>
    unfold dnF; split <;> first | rfl | exact if_neg h
theorem dnF_go {K : Nat → Nat} {n f i : Nat} {l : List Nat} (h0 : ¬ n ≤ 2 * i + 1) (h : K (nth l (dnJ K n l i)) < K (nth l i)) : dnF K n (f + 1) l i = dnF K n f (swp l i (dnJ K n l i)) (dnJ K n l i) := by
  rw [dnF, if_neg h0]; exact if_pos h
def hpush (K : Nat → Nat) (l : List Nat) (x : Nat) : List Nat := upF K l.length (l ++ [x]) l.length
def hpop1 (K : Nat → Nat) (l : List Nat) : List Nat := dnF K (l.length - 1) (l.length - 1) (swp l 0 (l.length - 1)) 0
def hpop (K : Nat → Nat) (l : List Nat) : List Nat := (hpop1 K l).take (l.length - 1)
theorem nth_app {l m : List Nat} {i : Nat} (h : i < l.length) : nth (l ++ m) i = nth l i := by
  unfold nth; rw [List.getD_eq_getElem?_getD, List.getD_eq_getElem?_getD, List.getElem?_append_left h]
theorem nth_take {l : List Nat} {n i : Nat} (h : i < n) : nth (l.take n) i = nth l i := by
  unfold nth; rw [List.getD_eq_getElem?_getD, List.getD_eq_getElem?_getD, List.getElem?_take_of_lt h]
theorem hpush_perm (K : Nat → Nat) (l : List Nat) (x : Nat) : (hpush K l x).Perm (x :: l) :=
  (upF_perm K _ _ _ (by simp)).trans (by simp)
theorem hpush_heap {K : Nat → Nat} {l : List Nat} (h : Heap2 K l) (x : Nat) : Heap2 K (hpush K l x) := by
  refine upF_heap K _ _ _ (Nat.le_refl _) (by simp) ⟨fun i h0 hi hne => ?_, fun h0 i hi0 hi hp => ?_⟩
  · rw [List.length_append, List.length_singleton] at hi;rw [nth_app (by omega), nth_app (by omega)]; exact h i h0 (by omega)
  · rw [List.length_append, List.length_singleton] at hi; omega
theorem hpop1_length (K : Nat → Nat) {l : List Nat} (h : l ≠ []) : (hpop1 K l).length = l.length := by
  have h0 : 0 < l.length := List.length_pos_iff.2 h;have := (dnF_perm K (l.length - 1) (l.length - 1) (swp l 0 (l.length - 1)) 0 (by rw [ZaR]; exact h0) (by rw [ZaR]; omega)).length_eq;rw [ZaR] at this; exact this
theorem dnF_last (K : Nat → Nat) (n : Nat) : ∀ (f : Nat) (l : List Nat) (i k : Nat), n ≤ k → i < n → n ≤ l.length → nth (dnF K n f l i) k = nth l k
  | 0, l, _, _, _, _, _ => rfl
  | f + 1, l, i, k, hk, hi, hn => by
    unfold dnF
    split
    · rfl
    · dsimp only
      have key : ∀ j, j < n → nth (if K (nth l j) < K (nth l i) then dnF K n f (swp l i j) j else l) k = nth l k := by
        intro j hj
        split
        · rw [dnF_last K n f _ _ k hk hj (by rw [ZaR]; exact hn), nth_swp (by omega) (by omega), if_neg (by omega), if_neg (by omega)]
        · rfl
      split
      · rename_i h2; exact key _ h2.1
      · exact key _ (by omega)
theorem hpop1_last (K : Nat → Nat) {l : List Nat} (h : l ≠ []) : nth (hpop1 K l) (l.length - 1) = nth l 0 := by
  have h0 : 0 < l.length := List.length_pos_iff.2 h;unfold hpop1
  by_cases e : l.length - 1 = 0
  · rw [e]; show nth (swp l 0 0) 0 = _; rw [nth_swp h0 h0, if_pos rfl]
  · rw [dnF_last K _ _ _ _ _ (Nat.le_refl _) (by omega) (by rw [ZaR]; omega), nth_swp h0 (by omega), if_pos rfl]
theorem hpop_perm (K : Nat → Nat) {l : List Nat} (h : l ≠ []) : (nth l 0 :: hpop K l).Perm l := by
  have h0 : 0 < l.length := List.length_pos_iff.2 h;have h1 : (hpop1 K l).Perm l := (dnF_perm K _ _ _ _ (by rw [ZaR]; exact h0) (by rw [ZaR]; omega)).trans (swp_perm h0 (by omega));have hl := hpop1_length K h
  have h2 : hpop1 K l = hpop K l ++ [nth l 0] := by
    rw [← hpop1_last K h, Za6 (by omega)];have := List.take_append_drop (l.length - 1) (hpop1 K l);rw [List.drop_eq_getElem_cons (by omega), show l.length - 1 + 1 = (hpop1 K l).length by omega, List.drop_length] at this;exact this.symm
  rw [h2] at h1;have h3 : (nth l 0 :: hpop K l).Perm (hpop K l ++ [nth l 0]) := by simpa using List.perm_append_comm (l₁ := [nth l 0]) (l₂ := hpop K l)
  exact h3.trans h1
theorem hpop_heap {K : Nat → Nat} {l : List Nat} (h : Heap2 K l) (hne : l ≠ []) : Heap2 K (hpop K l) := by
  have h0 : 0 < l.length := List.length_pos_iff.2 hne;intro i hi0 hi;have hl := hpop1_length K hne;have hn : (hpop K l).length = l.length - 1 := by unfold hpop; rw [List.length_take, hl]; omega
  rw [hn] at hi;unfold hpop;rw [nth_take (by omega), nth_take hi];refine dnF_heap K (l.length - 1) (l.length - 1) _ _ (by omega) (by rw [ZaR]; exact h0) (by rw [ZaR]; omega) ⟨fun k hk0 hk hp => ?_, fun h => by omega⟩ i hi0 hi;rw [nth_swp h0 (by omega), nth_swp h0 (by omega), if_neg (by omega), if_neg hp, if_neg (by omega), if_neg (by omega)];exact h k hk0 (by omega)
end Go.Proofs.Ytgdppeobgefogaa
