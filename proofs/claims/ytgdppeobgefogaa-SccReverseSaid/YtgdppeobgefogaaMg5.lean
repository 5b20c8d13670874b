/- append onto an owned row, of whatever is appended; slice literals; make; a nil slice taken over; a row that becomes frozen. No program in sight. -/
import Derived.Test.YtgdppeobgefogaaMg4
import Derived.Deep.AppendSrc
namespace Go.Proofs.Ytgdppeobgefogaa
open Go.RowKit

theorem run_append_src {P : Program} (w : World) (t tx ty e : TypeId) (size bytes : Nat) (T : SlTy P t e size bytes) (v : Value) (n : Nat) (xs : List Value) (hown : w.ownsRow 0 e size v n xs)
    (x : Value) (m : Nat) (news : List Value) (hs : Src P size tx x m news w) (hbytes : (n + m) * bytes ≤ 140737488355328) :
    ∃ v' w', (Builtin.append_ #[t, tx] ty #[v, x]).run P w = .ok v' w' ∧ w'.ownsRow 0 e size v' (n + m) (xs ++ news) ∧ w.grownBy w' v.ownBlock ∧ (v'.ownBlock = v.ownBlock ∨ v'.ownBlock = some w.heap.size) := by
  obtain ⟨i, z, hi, hz, hsize, hby, hzs⟩ := T.info;have ht := T.ht;have hsz := T.pos;have hbp := T.pos';subst hsize hby
  have h63 : n + m ≤ maxLen := by
    have : (n + m) * 1 ≤ (n + m) * i.bytes := Nat.mul_le_mul_left _ hbp;unfold maxLen; omega
  have hsmall : n + m ≤ 9223372036854775807 := by simp only [maxLen] at h63; omega
  have hl := hs.newsLen;have hlen : (xs ++ news).length = (n + m) * i.size := by rw [List.length_append, hown.1, hl, Nat.add_mul]
  have grown : ∀ (old : Nat), old < n + m → ∀ (row : Option Nat),
      (w.drew.alloc (.cells ((xs ++ news).toArray ++ Builtin.zeroCells z.cells (grownCap w (n + m) old e - (n + m))) e)).ownsRow 0 e i.size
        (.slice (some ⟨w.heap.size, 0, none⟩) (n + m) (grownCap w (n + m) old e)) (n + m) (xs ++ news) ∧
      w.grownBy (w.drew.alloc (.cells ((xs ++ news).toArray ++ Builtin.zeroCells z.cells (grownCap w (n + m) old e - (n + m))) e)) row := by
    intro old ho row;have hge := grownCap_ge w (n + m) old e;have hcm : grownCap w (n + m) old e ≤ maxLen := grownCap_le_maxLen w (n + m) old e h63;refine ⟨⟨hlen, .inr ⟨w.heap.size, _, _, rfl, Nat.zero_le _, heap_alloc_new w.drew _, hge, hcm, ?_, ?_⟩⟩, ⟨rfl, rfl, rfl, by simp, fun k hk _ => Below.heap_alloc w.drew _ k hk⟩⟩
    · simp only [Array.size_append, List.size_toArray, size_zeroCells, hzs, hlen, ← Nat.add_mul]
      congr 1
      omega
    · simp only [Array.toList_append];rw [← hlen];exact List.take_left
  rcases hown.2 with ⟨rfl, rfl⟩ | ⟨g, cap, cur, rfl, hbg, hg, hnc, hcm, hcs, htake⟩
  · have hx : xs = [] := List.eq_nil_of_length_eq_zero (by simpa using hown.1);subst hx
    by_cases hm : m = 0
    · subst hm;have hn : news = [] := List.eq_nil_of_length_eq_zero (by simpa using hl);subst hn;refine ⟨.slice none 0 0, w, ?_, World.ownsRow_nil w 0 e i.size, ⟨rfl, rfl, rfl, Nat.le_refl _, fun _ _ _ => rfl⟩, .inl rfl⟩;have hc := hs.cells;rcases hs.kind with ⟨e', hk⟩ | hk <;> simp [Builtin.append_, run_underlying ht, run_underlying hk, sizeOf, typeInfo, hi, hs.len, hc]
    · have hr := run_append_grow_src (P := P) w t tx ty e i z ht hi hz none 0 0 [] (run_firstCells_none w.drew i.size 0 0 0) x m news hs (by omega) (by omega) (growslice_fits (by omega) hbytes);have hgr := grown 0 (by omega) (Value.ownBlock (.slice none 0 0));simp only [Nat.zero_add, List.nil_append] at hr hgr ⊢;exact ⟨_, _, hr, hgr.1, hgr.2, .inr rfl⟩
  · by_cases hroom : n + m ≤ cap
    · have hfit : n * i.size + news.length ≤ cur.size := by rw [hl, hcs, ← Nat.add_mul]; exact Nat.mul_le_mul_right _ hroom
      have hg' : w.heap[g]? = some (.cells cur.toList.toArray e (0, 0)) := by simpa using hg
      have hr := run_append_room_src (P := P) w t tx ty e i ht hi g 0 n cap x m news hs hroom (fun j hj => by
        rw [cell_of_row w g _ cur e (0, 0) hg]; simp; omega) (fun j hj => by simp [World.frozen?, hg])
      rw [Nat.zero_add] at hr;obtain ⟨g1, g2, g3, g4⟩ := setCells_same (b := g) news (n * i.size) w;refine ⟨_, _, hr, ⟨hlen, .inr ⟨g, cap, _, rfl, hbg, ZbO _ _ _ _ hg', hroom, hcm, by simp [ZbL, hcs], ?_⟩⟩, ⟨g1, g2, g3, Nat.le_of_eq g4.symm, fun k _ hk => ZbN _ _ _ _ fun e => hk (by simp [Value.ownBlock, e])⟩, .inl rfl⟩;show (setL cur.toList (n * i.size) news).take ((n + m) * i.size) = xs ++ news;rw [Nat.add_mul, ← hl, setL_take _ _ _ _ (Nat.le_refl _) (by simpa using hfit)]
      apply List.ext_getElem?
      intro j;rw [setL_get news (cur.toList.take (n * i.size + news.length)) (n * i.size) (by have := Array.length_toList (xs := cur); rw [List.length_take]; omega) j, List.getElem?_append, List.getElem?_take, hown.1]
      by_cases h1 : j < n * i.size
      · rw [if_neg (by omega), if_pos (by omega), if_pos h1, ← htake, List.getElem?_take, if_pos h1]
      · by_cases h2 : j < n * i.size + news.length
        · rw [if_pos ⟨by omega, h2⟩, if_neg h1]
        · have h3 : news.length ≤ j - n * i.size := by omega
          rw [if_neg (fun hh => h2 hh.2), if_neg h2, if_neg h1, List.getElem?_eq_none h3]
    · have holds : ∀ j u, xs[j]? = some u → w.cell? ((⟨g, 0, none⟩ : Addr).add j) = some u := hown.cells (g := g) rfl;have hr := run_append_grow_src (P := P) w t tx ty e i z ht hi hz (some ⟨g, 0, none⟩) n cap xs (run_firstCells_some w.drew i.size n ⟨g, 0, none⟩ n cap xs hown.1 (by simpa using holds)) x m news hs (by omega) (by omega) (growslice_fits (by omega) hbytes);have hgr := grown cap (by omega) (Value.ownBlock (.slice (some ⟨g, 0, none⟩) n cap));exact ⟨_, _, hr, hgr.1, hgr.2, .inr rfl⟩

theorem blkOf_slice {a : Option Addr} {n c : Nat} : blkOf (.slice a n c) = (Value.slice a n c).ownBlock := by cases a <;> rfl

section
variable {P : Program} {F : Fr} {s : AS} {d : Nat} {ty T T2 E : TypeId} {pos : String} {aft : Array Edge} {g : Option (Nat × Bool)} {x y : Operand} {k : IntKind} {i : Int}

theorem append_core {ρ : Nat → Nat → Value} {act : Act} {w : World} (hs : SR F s ρ act w) {f j n kk by_ : Nat} {xs ys zs : List D} {env' : List (Nat × AV)} {hp1 hp' : List (Nat × List AObj)} (hx : s.ev x = some (.own f j n)) (ho : hget s.hp f j = some (.rowD E kk xs)) (hn : n ≤ xs.length)
    (S : SlTy P T E kk by_) {news : List Value} (hsrc : Src P kk T2 (act.eval y) ys.length news w) (hlies : Lies D.cells kk (RepD w (F.O ρ s.hp)) ys news) (hone : ∀ z ∈ ys, ∀ c ∈ z.cells, c.one = true) (hb : (n + ys.length) * by_ ≤ 140737488355328)
    (hE : killE? f s.env = some env') (hH : killH? f s.hp = some hp1) (hz : xs.take n ++ ys = zs) (hh : hset? hp1 f j (.rowD E kk zs) = some hp') :
    ∃ v' w', (Builtin.append_ #[T, T2] ty #[act.eval x, act.eval y]).run P w = .ok v' w' ∧ SR F ⟨s.n, env', hp'⟩ (upd ρ f j v') act w' ∧ ∀ w O, RepA w O (upd ρ f j v') (.own f j (n + ys.length)) v' := by
  have h := hs.ev hx
  generalize hv : act.eval x = u at h
  obtain ⟨us, a, cap, e1, h1, h2, h3, h4, h5⟩ := hs.rowD ho
  cases h with
  | own hρ hn' =>
    rw [e1] at hρ;injection hρ with e2 e3 e4
    subst e2 e3 e4;obtain ⟨v', w', r1, r2, r3, r4⟩ := run_append_src (P := P) w T T2 ty E kk by_ S _ n _ (ownsRow_take h1 hn) (act.eval y) ys.length news hsrc hb;obtain ⟨a', cap', e5, q1, q2, q3, q4⟩ := ownsRow_form r2;subst e5;have hzl : zs.length = n + ys.length := by rw [← hz, List.length_append, List.length_take]; omega
    refine ⟨_, w', r1, ?_, fun w O => .own Zbv (Nat.le_refl _)⟩;refine hs.set f j (.rowD E kk zs) _ hE hH (hset?_spec hh) (fun t cs e => by rw [ho] at e; cases e) (fun b hb => ?_) r3.os r3.tape r3.output r3.size (fun b hlt hne => r3.block b hlt fun e => hne ⟨⟨_, ho⟩, ?_⟩) (fun hrep => ?_) (run_drawn r1)
    · rw [blkOf_slice] at hb;rcases r4 with r4 | r4
      · left
        refine ⟨⟨_, ho⟩, ?_⟩;rw [e1, blkOf_slice, ← hb, r4]
        cases a <;> rfl
      · right
        rw [r4] at hb;injection hb with hb
        subst hb;have := (World.ownsRow.lt r2 w.heap.size r4).2;omega
    · rw [e1, blkOf_slice]
      cases a with
      | none => simp [Value.ownBlock] at e
      | some a => exact e.symm
    · have hrepD : ∀ c u, RepD w (F.O ρ s.hp) c u → RepD w' (F.O (upd ρ f j (.slice a' (n + ys.length) cap')) hp') c u := fun c u hr => by
        have := hrep (.d c) u (fun i h => by cases h) (.d hr)
        cases this with | d h => exact h
      refine ⟨us.take (n * kk) ++ news, by rw [hzl]; exact r2, ?_, fun z hz' c hc => ?_⟩
      · rw [← hz];exact ((h2.take n hn).append hlies).mono fun x _ c _ u hu => hrepD c u hu
      · rw [← hz] at hz';rcases List.mem_append.1 hz' with hz' | hz'
        · exact h3 z (List.mem_of_mem_take hz') c hc
        · exact hone z hz' c hc

theorem st_appendO {f j n kk by_ f2 j2 m : Nat} {xs ys0 ys zs : List D} {env' : List (Nat × AV)} {hp1 hp' : List (Nat × List AObj)} (hx : s.ev x = some (.own f j n)) (hy : s.ev y = some (.own f2 j2 m)) (ho : hget s.hp f j = some (.rowD E kk xs)) (hn : n ≤ xs.length)
    (ho2 : hget s.hp f2 j2 = some (.rowD E kk ys0)) (hys : ys0.take m = ys) (hm : m ≤ ys0.length)
    (S : SlTy P T E kk by_) (hb : (n + m) * by_ ≤ 140737488355328) (hE : killE? f s.env = some env') (hH : killH? f s.hp = some hp1) (hz : xs.take n ++ ys = zs) (hh : hset? hp1 f j (.rowD E kk zs) = some hp') (hd : Nat.blt d s.n = true) :
    Zaw P F ⟨some d, .call { callee := .builtin .append, args := #[x, y], argTypes := #[T, T] }, ty, pos, aft, g⟩ s ⟨s.n, (d, .own f j (n + m)) :: env', hp'⟩ (notFam f) := fun ρ act w hs => by
  have h := hs.ev hy
  generalize hv : act.eval y = u at h
  obtain ⟨us, a, cap, e1, h1, h2, h3, h4, h5⟩ := hs.rowD ho2;have hml : ys.length = m := by rw [← hys, List.length_take]; omega
  have g2 := h2.take m hm;rw [hys] at g2
  have hone : ∀ u ∈ us.take (m * kk), u.oneCell' = true := fun u hu => by
    obtain ⟨q, hq, rfl⟩ := List.getElem_of_mem hu;have hq' : q < ys.length * kk := by rw [← g2.1]; exact hq
    have hk0 : 0 < kk := S.pos;have hi : q / kk < ys.length := (Nat.div_lt_iff_lt_mul hk0).2 hq';obtain ⟨x, hx⟩ := List.getElem?_some_of_lt hi;obtain ⟨c, hc⟩ := List.getElem?_some_of_lt (l := x.cells) (i := q % kk) (by rw [g2.2.1 x (List.mem_of_getElem? hx)]; exact Nat.mod_lt _ hk0);obtain ⟨u, h1, h2, _⟩ := g2.2.2 _ x hx _ c hc;rw [show q / kk * kk + q % kk = q by rw [Nat.mul_comm]; exact Nat.div_add_mod q kk, List.getElem?_eq_getElem hq] at h1;injection h1 with h1; rw [h1]; exact h2
  have hsrc : Src P kk T (act.eval y) ys.length (us.take (m * kk)) w := by
    rw [hv, hml]
    cases h with
    | own hρ hn' =>
      rw [e1] at hρ;injection hρ with e2 e3 e4
      subst e2 e3 e4;have hl : (us.take (m * kk)).length = m * kk := by rw [g2.1, hml]
      rcases Nat.eq_zero_or_pos ys0.length with h0 | h0
      · have hm0 : m = 0 := by omega
        subst hm0;have hn0 : us.take (0 * kk) = [] := by simp
        rw [hn0]
        cases a with
        | none => exact Src.ofNil w S.ht cap
        | some ad => exact Src.ofSlice w S.ht ad 0 cap [] (by simp) (fun j u hu => by simp at hu) (by simp)
      · obtain ⟨b, rfl, cur, h6, h7, h8⟩ := h5 h0;refine Src.ofSlice w S.ht ⟨b, 0, none⟩ m cap _ hl (fun j u hu => ?_) hone;rw [List.getElem?_take] at hu
        split at hu
        · rw [Addr.add_mid, Nat.zero_add]; exact row_cell h6 h8 hu
        · cases hu
  rw [← hml] at hb;obtain ⟨v', w', r1, r2, r3⟩ := append_core (ty := ty) hs hx ho hn S hsrc g2 (fun z hz' c hc => h3 z (by rw [← hys] at hz'; exact List.mem_of_mem_take hz') c hc) hb hE hH hz hh
  have hex : (execOp act.eval ⟨some d, .call { callee := .builtin .append, args := #[x, y], argTypes := #[T, T] }, ty, pos, aft, g⟩).run P w = .ok (.value v') w' := by
    simp [execOp, resolve, invoke, builtin, r1]
  unfold Oper.wp;rw [hex, ← hml];exact ⟨_, r2.put (Za3 hd) (r3 _ _), fun f i h => Zbd fun e => Zbx h e.1⟩

theorem st_sliceO {f j n kk : Nat} {t : TypeId} {xs : List D} {hi : Operand} {kh : IntKind} {ih : Int} (h : Nat) (hx : s.ev x = some (.own f j n)) (hhi : s.ev hi = some (.d (.raw (.int kh ih)))) (hh : ih = (h : Int)) (hle : h ≤ xs.length) (ho : hget s.hp f j = some (.rowD t kk xs))
    (hT : P.underlying T = some (.slice E)) (hE : sizeTy P E kk = true) (hd : Nat.blt d s.n = true) :
    Zab P F ⟨some d, .slice T x none (some hi) none, ty, pos, aft, g⟩ s d (.own f j h) :=
  ZaE _ hd fun ρ act w hs => by
    have hr := hs.ev hx
    generalize hv : act.eval x = u at hr
    obtain ⟨us, a, cap, e1, h1, h2, h3, h4, h5⟩ := hs.rowD ho
    cases hr with
    | own hρ hn' =>
      rw [e1] at hρ;injection hρ with e2 e3 e4
      subst e2 e3 e4;subst hh;refine ⟨.slice (if cap = 0 then a else a.map (·.add (0 * kk))) (h - 0) (cap - 0), by simp only [execOp, hv, Option.map_some, Option.map_none, hs.raw hhi, Sem.run_bind, run_slice_hi hT (ZbR hE) (Nat.le_trans hle h4.1), Result.andThen_ok, Sem.run_pure], ?_⟩
      have : (if cap = 0 then a else a.map (·.add (0 * kk))) = a := by
        split
        · rfl
        · cases a <;> simp [Addr.add]
      rw [this];exact .own e1 hle
end

end Go.Proofs.Ytgdppeobgefogaa

/- Slice literals, make, a nil slice taken over, a row that becomes frozen. No program in sight. -/
namespace Go.Proofs.Ytgdppeobgefogaa
open Go.RowKit

def partsD? (s : AS) : Nat → List (Nat × Operand) → Option (List D)
  | _, [] => some []
  | i, (j, x) :: r => match Nat.beq i j with
    | false => none
    | true => match s.ev x with
      | some (.d v) => match partsD? s (i + 1) r with
        | none => none
        | some l => some (v :: l)
      | _ => none
def elemsB (k : Nat) : List D → Bool
  | [] => true
  | x :: r => (match x with | .tup _ => false | _ => true) && Nat.beq x.cells.length k && elemsB k r
theorem elemsB_spec {k : Nat} {xs : List D} (h : elemsB k xs = true) : ∀ x ∈ xs, x.cells.length = k ∧ (∀ cs, x ≠ .tup cs) := by
  induction xs with
  | nil => simp
  | cons x r ih =>
    simp only [elemsB, Bool.and_eq_true] at h;intro y hy;rcases List.mem_cons.1 hy with rfl | hy
    · exact ⟨Nat.eq_of_beq_eq_true h.1.2, fun cs e => by subst e; simp at h⟩
    · exact ih h.2 y hy
theorem RepD.cellsOf {w : World} {O : Nat → Prop} {x : D} {v : Value} (h : RepD w O x v) (ht : ∀ cs, x ≠ .tup cs) :
    v.cells.toList.length = x.cells.length ∧ (∀ c ∈ x.cells, c.one = true) ∧ ∀ (q : Nat) c, x.cells[q]? = some c → ∃ u, v.cells.toList[q]? = some u ∧ u.oneCell' = true ∧ RepD w O c u := by
  have one : ∀ {x : D} {v : Value}, x.one = true → RepD w O x v → v.cells.toList.length = x.cells.length ∧ (∀ c ∈ x.cells, c.one = true) ∧ ∀ (q : Nat) c, x.cells[q]? = some c → ∃ u, v.cells.toList[q]? = some u ∧ u.oneCell' = true ∧ RepD w O c u := fun {x v} h1 h => by
    have h2 := h.oneCell h1;have hc : v.cells.toList = [v] := by cases v <;> first | rfl | cases h2
    rw [hc, D.cells_one h1];refine ⟨rfl, by simp [h1], fun q c hc => ?_⟩
    cases q with
    | zero => simp at hc; subst hc; exact ⟨v, rfl, h2, h⟩
    | succ q => simp at hc
  cases x with
  | agg cs =>
    cases h with
    | @agg _ vs a1 a2 a3 =>
      refine ⟨by simpa [Value.cells, D.cells] using a1, a2, fun q c hc => ?_⟩;have hq : q < vs.length := by rw [a1]; exact (List.getElem?_eq_some_iff.1 hc).1
      have hr := a3 q c vs[q] hc (List.getElem?_eq_getElem hq);exact ⟨vs[q], by simp [Value.cells, hq], hr.oneCell (a2 c (List.mem_of_getElem? hc)), hr⟩
  | tup cs => exact absurd rfl (ht cs)
  | raw _ => exact one rfl h
  | sl _ _ => exact one rfl h
  | ptr _ => exact one rfl h
  | fn _ _ _ => exact one rfl h

theorem rowD_new {w : World} {O : Nat → Prop} {ρ : Nat → Nat → Value} {E : TypeId} {k : Nat} {xs : List D} {r : Array Value} (hm : xs.length ≤ maxLen) (hsz : r.size = xs.length * k)
    (h : ∀ (i : Nat) x, xs[i]? = some x → x.cells.length = k ∧ (∀ c ∈ x.cells, c.one = true) ∧ ∀ (q : Nat) c, x.cells[q]? = some c → ∃ u, r[i * k + q]? = some u ∧ u.oneCell' = true ∧ RepD (w.alloc (.cells r E)) O c u) :
    SimObj (w.alloc (.cells r E)) O ρ (.rowD E k xs) (.slice (some ⟨w.heap.size, 0, none⟩) xs.length xs.length) := by
  refine ⟨r.toList, ⟨by simpa using hsz, .inr ⟨w.heap.size, xs.length, r, rfl, Nat.zero_le _, heap_alloc_new w _, Nat.le_refl _, hm, hsz, by rw [← hsz, ← Array.length_toList, List.take_length]⟩⟩, ⟨by simpa using hsz, fun x hx => ?_, fun i x hx j c hc => ?_⟩, fun x hx c hc => ?_⟩
  · obtain ⟨i, hi, rfl⟩ := List.getElem_of_mem hx;exact (h i _ (List.getElem?_eq_getElem hi)).1
  · obtain ⟨u, h1, h2, h3⟩ := (h i x hx).2.2 j c hc;exact ⟨u, by simpa using h1, h2, h3⟩
  · obtain ⟨i, hi, rfl⟩ := List.getElem_of_mem hx;exact (h i _ (List.getElem?_eq_getElem hi)).2.1 c hc

section
variable {P : Program} {F : Fr} {s : AS} {d : Nat} {ty T T2 E : TypeId} {pos : String} {aft : Array Edge} {g : Option (Nat × Bool)} {x y : Operand} {k : IntKind} {i : Int}

theorem partsD?_spec {ρ : Nat → Nat → Value} {act : Act} {w : World} (hs : SR F s ρ act w) : ∀ (l : List (Nat × Operand)) (i : Nat) (xs : List D), partsD? s i l = some xs →
    (l.map fun p => (p.1, act.eval p.2)) = (((l.map fun p => act.eval p.2).zipIdx i).map fun x => (x.2, x.1)) ∧ l.length = xs.length ∧ ∀ (q : Nat) x, xs[q]? = some x → ∃ v, (l.map fun p => act.eval p.2)[q]? = some v ∧ RepD w (F.O ρ s.hp) x v
  | [], _, xs, h => by simp only [partsD?, Option.some.injEq] at h; subst h; simp
  | (j, x) :: r, i, xs, h => by
    simp only [partsD?] at h
    split at h
    · cases h
    · rename_i hj
      have := Nat.eq_of_beq_eq_true hj;subst this
      split at h
      · rename_i v hv
        split at h
        · cases h
        · rename_i l1 h1
          injection h with h; subst h
          obtain ⟨a1, a2, a3⟩ := partsD?_spec hs r (i + 1) l1 h1;refine ⟨by simp [a1], by simp [a2], fun q z hz => ?_⟩
          cases q with
          | zero => simp at hz; subst hz; exact ⟨_, by simp, hs.repD hv⟩
          | succ q => exact a3 q z (by simpa using hz)
      · cases h

theorem ZaN (f : Nat) {l : List (Nat × Operand)} {n kk by_ : Nat} {xs : List D} {env' : List (Nat × AV)} {hp1 hp' : List (Nat × List AObj)} (S : SlTy P T E kk by_) (hp : partsD? s 0 l = some xs) (hn : Nat.beq l.length n = true) (hk : elemsB kk xs = true) (hb : Nat.ble (n * kk) 16777216 = true)
    (hE : killE? f s.env = some env') (hH : killH? f s.hp = some hp1) (hh : hnew? hp1 f (.rowD E kk xs) = some hp') (hd : Nat.blt d s.n = true) :
    Zaw P F ⟨some d, .buildSlice T n l.toArray, ty, pos, aft, g⟩ s ⟨s.n, (d, .own f 0 n) :: env', hp'⟩ (notFam f) := fun ρ act w hs => by
  have := Nat.eq_of_beq_eq_true hn;subst this;obtain ⟨ti, z, h1, h2, h3, h4, h5⟩ := S.info;have hT := S.ht;obtain ⟨a1, a2, a3⟩ := partsD?_spec hs l 0 xs hp;have hbn := Nat.le_of_ble_eq_true hb;have hspec := elemsB_spec hk
  have hcs : ∀ v ∈ l.map (fun p => act.eval p.2), v.cells.size = kk := fun v hv => by
    obtain ⟨q, hq, rfl⟩ := List.getElem_of_mem hv;rw [List.length_map] at hq;obtain ⟨x, hx⟩ := List.getElem?_some_of_lt (l := xs) (i := q) (by omega);obtain ⟨v, hv1, hv2⟩ := a3 q x hx;rw [List.getElem?_eq_getElem (by simpa using hq)] at hv1;injection hv1 with hv1
    rw [hv1];obtain ⟨b1, b2⟩ := hspec x (List.mem_of_getElem? hx);rw [← b1, ← (hv2.cellsOf b2).1, Array.length_toList]
  obtain ⟨r, r1, r2, r3⟩ := Great.fill_dense S.pos (l.map fun p => act.eval p.2) 0 ((Array.range (l.length * kk)).map ((if l.length * kk = 0 then #[] else z.cells)[· % (if l.length * kk = 0 then #[] else z.cells).size]!)) hcs (by simp)
  have hrun : (Instr.buildSlice T l.length (l.toArray.map fun p => (p.1, act.eval p.2))).run P w = .ok (.slice (some ⟨w.heap.size, 0, none⟩) l.length l.length) (w.alloc (.cells r E)) := by
    have hl : (l.toArray.map fun p => (p.1, act.eval p.2)).toList = ((l.map fun p => act.eval p.2).zipIdx 0).map fun x => (x.2, x.1) := by simpa using a1
    have hbig : ¬ (16777216 < l.length * kk) := by omega
    have hsz := run_sizeOf (P := P) (T := E) (n := kk) (by rw [h1]; simp [h3]) w
    by_cases h0 : l.length * kk = 0
    · simp only [if_pos h0] at r1;simp only [Instr.buildSlice, Sem.run_bind, run_underlying hT w, Result.andThen_ok, hsz, if_neg hbig, if_pos h0, Sem.run_pure, hl, r1, newRow, newObj, Sem.run, World.alloc_eq]
    · simp only [if_neg h0] at r1;have hzv : (zeroValue E).run P w = .ok z w := by simp [zeroValue, typeInfo, h1, h2]
      simp only [Instr.buildSlice, Sem.run_bind, run_underlying hT w, Result.andThen_ok, hsz, if_neg hbig, if_neg h0, Sem.run_pure, hl, r1, newRow, newObj, Sem.run, World.alloc_eq, hzv]
  have hex : (execOp act.eval ⟨some d, .buildSlice T l.length l.toArray, ty, pos, aft, g⟩).run P w = .ok (.value (.slice (some ⟨w.heap.size, 0, none⟩) l.length l.length)) (w.alloc (.cells r E)) := by
    simp only [execOp, Sem.run_bind];have : (l.toArray.map fun (x : Nat × Operand) => match x with | (i, x) => (i, act.eval x)) = (l.toArray.map fun p => (p.1, act.eval p.2)) := rfl;rw [this, hrun]; rfl
  unfold Oper.wp;rw [hex];have hsize : r.size = xs.length * kk := by rw [r2, ← a2]; simp
  have hmax : xs.length ≤ maxLen := by
    have : xs.length * 1 ≤ xs.length * kk := Nat.mul_le_mul_left _ S.pos;unfold maxLen; rw [← a2] at this ⊢; omega
  have hsr := hs.new f (.rowD E kk xs) (.slice (some ⟨w.heap.size, 0, none⟩) l.length l.length) (.cells r E) hE hH hh rfl (fun hrep => by
    have hrd := rowD_new (w := w) (O := F.O (upd ρ f 0 (.slice (some ⟨w.heap.size, 0, none⟩) l.length l.length)) hp') (ρ := upd ρ f 0 (.slice (some ⟨w.heap.size, 0, none⟩) l.length l.length)) (E := E) (k := kk) (xs := xs) (r := r) hmax hsize;rw [← a2] at hrd;refine hrd fun i x hx => ?_;obtain ⟨v, hv1, hv2⟩ := a3 i x hx;obtain ⟨b1, b2⟩ := hspec x (List.mem_of_getElem? hx);obtain ⟨c1, c2, c3⟩ := hv2.cellsOf b2;refine ⟨b1, c2, fun q c hc => ?_⟩;obtain ⟨u, d1, d2, d3⟩ := c3 q c hc;have hqk : q < kk := by rw [← b1]; exact (List.getElem?_eq_some_iff.1 hc).1
    have hil : i < xs.length := (List.getElem?_eq_some_iff.1 hx).1;refine ⟨u, ?_, d2, ?_⟩
    · rw [r3, if_pos]
      · have e1 : (i * kk + q) / kk = i := by rw [Nat.mul_comm, Nat.mul_add_div S.pos, Nat.div_eq_of_lt hqk]; rfl
        have e2 : (i * kk + q) % kk = q := by rw [Nat.mul_comm, Nat.mul_add_mod, Nat.mod_eq_of_lt hqk]
        rw [e1, e2, Nat.sub_zero, hv1, Option.bind_some]
        simpa using d1
      · refine ⟨by omega, ?_⟩;have : (i + 1) * kk ≤ xs.length * kk := Nat.mul_le_mul_right _ hil;rw [Nat.add_mul] at this;rw [List.length_map, a2, Nat.zero_add]; omega
    · have := hrep (.d c) u (fun i h => by cases h) (.d d3)
      cases this with | d h => exact h)
  exact ⟨_, hsr.put (Za3 hd) (.own Zbv (Nat.le_refl _)), fun f i h => Zbd fun e => Zbx h e.1⟩

def zeroD? (P : Program) (E : TypeId) : Option D := match zeroL? P E with
  | none => none
  | some l => match allD? l with
    | none => none
    | some ds => match P.underlying E with
      | some (.struct _) => some (.agg ds)
      | some (.array _ _) => some (.agg ds)
      | some _ => match ds with
        | [x] => some x
        | _ => none
      | none => none
theorem zeroD?_spec {E : TypeId} {x : D} (h : zeroD? P E = some x) : ∃ l, zeroL? P E = some l ∧ l = x.cells.map .d ∧ ∀ c ∈ x.cells, c.one = true := by
  unfold zeroD? at h
  split at h
  · cases h
  · rename_i l hl
    split at h
    · cases h
    · rename_i ds hds
      obtain ⟨h1, h2⟩ := allD?_spec hds
      have fin : some (D.agg ds) = some x → ∃ l, zeroL? P E = some l ∧ l = x.cells.map .d ∧ ∀ c ∈ x.cells, c.one = true := fun h => by
        injection h with h; subst h; exact ⟨l, hl, h1, h2⟩
      split at h
      · exact fin h
      · exact fin h
      · split at h
        · injection h with h; subst h
          rename_i y
          have hy := h2 y (by simp);rw [D.cells_one hy];exact ⟨l, hl, h1, h2⟩
        · cases h
      · cases h
theorem st_make (f : Nat) {n kk by_ : Nat} {z : D} {k2 : IntKind} {env' : List (Nat × AV)} {hp1 hp' : List (Nat × List AObj)} (S : SlTy P T E kk by_) (hx : s.ev x = some (.d (.raw (.int k i)))) (hy : s.ev y = some (.d (.raw (.int k2 i)))) (hi : i = (n : Int)) (hb : n * by_ ≤ 140737488355328) (hz : zeroD? P E = some z)
    (hE : killE? f s.env = some env') (hH : killH? f s.hp = some hp1) (hh : hnew? hp1 f (.rowD E kk (List.replicate n z)) = some hp') (hd : Nat.blt d s.n = true) :
    Zaw P F ⟨some d, .makeSlice T x y, ty, pos, aft, g⟩ s ⟨s.n, (d, .own f 0 n) :: env', hp'⟩ (notFam f) := fun ρ act w hs => by
  obtain ⟨ti, zv, h1, h2, h3, h4, h5⟩ := S.info;have hT := S.ht;subst hi;have hbp := S.pos';have hn1 : n * 1 ≤ n * by_ := Nat.mul_le_mul_left _ hbp
  have hrun := run_make (P := P) w T E ti zv hT h1 h2 k k2 (n : Int) (n : Int) (by omega) (Int.le_refl _) (by
    rw [h4];have : ((by_ * n : Nat) : Int) ≤ 281474976710656 := by rw [Nat.mul_comm]; omega
    rwa [Int.natCast_mul] at this) (by omega)
  simp only [Int.toNat_natCast, h3] at hrun
  have hex : (execOp act.eval ⟨some d, .makeSlice T x y, ty, pos, aft, g⟩).run P w = .ok (.value (.slice (some ⟨w.heap.size, 0, none⟩) n n)) (w.alloc (.cells (madeCells zv.cells (n * kk)) E)) := by
    simp [execOp, hs.raw hx, hs.raw hy, hrun]
  unfold Oper.wp;rw [hex];obtain ⟨l, l1, l2, l3⟩ := zeroD?_spec hz;obtain ⟨ti', zv', m1, m2, m3⟩ := zeroL?_spec l1;rw [h1] at m1; injection m1 with m1; subst m1
  rw [h2] at m2; injection m2 with m2; subst m2
  have hcl := (constL?_spec m3 w (F.O ρ s.hp) ρ).1;rw [l2, List.length_map, Array.length_toList, h5] at hcl
  have hsr := hs.new f (.rowD E kk (List.replicate n z)) (.slice (some ⟨w.heap.size, 0, none⟩) n n) (.cells (madeCells zv.cells (n * kk)) E) hE hH hh rfl (fun hrep => by
    have hlen : (List.replicate n z).length = n := List.length_replicate
    have := rowD_new (w := w) (O := F.O (upd ρ f 0 (.slice (some ⟨w.heap.size, 0, none⟩) n n)) hp') (ρ := upd ρ f 0 (.slice (some ⟨w.heap.size, 0, none⟩) n n)) (E := E) (k := kk) (xs := List.replicate n z) (r := madeCells zv.cells (n * kk))
      (by rw [hlen]; unfold maxLen; omega) (by rw [hlen, size_madeCells]) (fun q x hx => by
        have hq : q < n := by rw [← hlen]; exact (List.getElem?_eq_some_iff.1 hx).1
        have hxz : x = z := by
          have := List.mem_of_getElem? hx;exact List.eq_of_mem_replicate this
        subst hxz;refine ⟨hcl.symm, l3, fun j c hc => ?_⟩;have hj : j < kk := by rw [hcl]; exact (List.getElem?_eq_some_iff.1 hc).1
        have hjz : j < zv.cells.size := by rw [h5]; exact hj
        obtain ⟨a1, a2⟩ := (constL?_spec m3 (w.alloc (.cells (madeCells zv.cells (n * kk)) E)) (F.O (upd ρ f 0 (.slice (some ⟨w.heap.size, 0, none⟩) n n)) hp') ρ).2 j (.d c) zv.cells[j] (by rw [l2, List.getElem?_map, hc]; rfl) (by simp [hjz])
        have hlt : q * kk + j < n * kk := by
          have : (q + 1) * kk ≤ n * kk := Nat.mul_le_mul_right _ hq;rw [Nat.add_mul] at this; omega
        refine ⟨zv.cells[j], ?_, a2, ?_⟩
        · have e2 : (q * kk + j) % kk = j := by rw [Nat.mul_comm, Nat.mul_add_mod, Nat.mod_eq_of_lt hj]
          simp only [madeCells];rw [Array.getElem?_map, Array.getElem?_range, if_pos hlt];simp only [Option.map_some, h5, e2]; rw [getElem!_pos zv.cells j hjz]
        · cases a1 with | d h => exact h)
    rwa [hlen] at this)
  exact ⟨_, hsr.put (Za3 hd) (.own Zbv (Nat.le_refl _)), fun f i h => Zbd fun e => Zbx h e.1⟩
end

theorem SR.adopt {P : Program} {F : Fr} {s : AS} {ρ : Nat → Nat → Value} {act : Act} {w : World} (h : SR F s ρ act w) (t f : Nat) {T E : TypeId} {kk by_ : Nat} (_S : SlTy P T E kk by_) {env' : List (Nat × AV)} {hp1 hp' : List (Nat × List AObj)} (ht : get s.env t = some (.d (.sl (some true) [])))
    (hE : killE? f s.env = some env') (hH : killH? f s.hp = some hp1) (hh : hnew? hp1 f (.rowD E kk []) = some hp') : SR F ⟨s.n, (t, .own f 0 0) :: env', hp'⟩ (upd ρ f 0 (.slice none 0 0)) act w := by
  have hr := h.env t _ ht
  have hv : act.tmps.getD t undef = .slice none 0 0 := by
    generalize act.tmps.getD t undef = v at hr
    cases hr with
    | d hr =>
      cases hr with
      | @sl _ _ a n cap k hn hz hln hc hm hk ha hp =>
        have := hn true rfl;have ha : a = none := by simpa using this
        subst ha;rw [hz rfl, ← hln]; rfl
  obtain ⟨h1, h2⟩ := hnew?_spec hh;have hsr := h.set f 0 (.rowD E kk []) (.slice none 0 0) hE hH h1 (fun t cs e => by obtain ⟨o, ho, _⟩ := (killH?_spec hH).2 _ _ _ e; rw [h2] at ho; cases ho) (fun b hb => by cases hb) rfl rfl rfl (Nat.le_refl _) (fun _ _ _ => rfl) (fun _ => ⟨[], World.ownsRow_nil w 0 E kk, ⟨by simp, by simp, fun i x hx => by simp at hx⟩, by simp⟩);refine ⟨hsr.size, hsr.defs, fun t' a ha => ?_, hsr.heap⟩;rcases Zbn ha with ⟨rfl, rfl⟩ | ⟨_, ha⟩
  · rw [hv]; exact .own Zbv (Nat.le_refl _)
  · exact hsr.env t' a ha

def hdel? (f : Nat) : List (Nat × List AObj) → Option (List (Nat × List AObj))
  | [] => some []
  | (k, l) :: r => match hdel? f r with
    | none => none
    | some r' => match Nat.beq k f with
      | true => some r'
      | false => some ((k, l) :: r')
theorem hdel?_spec {f : Nat} {hp hp' : List (Nat × List AObj)} (h : hdel? f hp = some hp') : ∀ g i, hget hp' g i = if g = f then none else hget hp g i := by
  induction hp generalizing hp' with
  | nil => simp only [hdel?, Option.some.injEq] at h; subst h; simp [hget, hfam]
  | cons p r ih =>
    obtain ⟨k, l⟩ := p;simp only [hdel?] at h
    split at h
    · cases h
    · rename_i r' hr
      split at h
      · rename_i hk
        have hk' := Nat.eq_of_beq_eq_true hk;subst hk';injection h with h; subst h
        intro g i;rw [ih hr g i]
        by_cases e : g = k
        · rw [if_pos e, if_pos e]
        · rw [if_neg e, if_neg e];simp only [hget, hfam, ZaV (Ne.symm e)]
      · rename_i hk
        have hk' := Nat.ne_of_beq_eq_false hk;injection h with h; subst h
        intro g i
        by_cases e : k = g
        · subst e;rw [if_neg hk'];simp only [hget, hfam, Nat.beq_refl]
        · have := ih hr g i;simp only [hget, hfam, ZaV e] at this ⊢;exact this

theorem SR.forget {F : Fr} {s : AS} {ρ : Nat → Nat → Value} {act : Act} {w : World} (h : SR F s ρ act w) (f : Nat) {env' : List (Nat × AV)} {hp1 hp' : List (Nat × List AObj)} (hE : killE? f s.env = some env') (hH : killH? f s.hp = some hp1) (hh : hdel? f hp1 = some hp') (hnb : ∀ i t cs, hget s.hp f i ≠ some (.blk t cs)) :
    SR F ⟨s.n, env', hp'⟩ ρ act w ∧ (∀ b, F.O ρ hp' b → F.O ρ s.hp b) ∧ ∀ i o b, hget s.hp f i = some o → blkOf (ρ f i) = some b → ¬ F.O ρ hp' b := by
  obtain ⟨k1, k2⟩ := killH?_spec hH;have hd := hdel?_spec hh
  have hsub : ∀ g i o', hget hp' g i = some o' → ∃ o, hget s.hp g i = some o ∧ o.Less (notFam f) o' ∧ g ≠ f := fun g i o' ho => by
    rw [hd] at ho
    split at ho
    · cases ho
    · rename_i e
      obtain ⟨o, h1, h2⟩ := k1 _ _ _ ho;exact ⟨o, h1, h2, e⟩
  have hO : ∀ b, F.O ρ hp' b → F.O ρ s.hp b := fun b hb => hb.imp id (OwnB.same fun g i o' ho => let ⟨o, a, _⟩ := hsub g i o' ho; ⟨o, a⟩);have hrep : ∀ A v, RepA w (F.O ρ s.hp) ρ A v → RepA w (F.O ρ hp') ρ A v := fun A v hr => hr.mono (Nat.le_refl _) (fun _ _ _ => rfl) (fun b _ => hO b) fun _ _ _ => rfl;refine ⟨⟨h.size, h.defs.mono (Nat.le_refl _) (fun _ _ _ => rfl) (fun b _ => hO b), fun t a ha => ?_, ⟨fun g i o' ho => ?_, fun g i g' i' o o' b ho ho' hb hb' => ?_, fun b hb => ?_, h.heap.os, h.heap.tape, h.heap.output, h.heap.size0, h.heap.keep, fun g i b hp => ?_, h.heap.drawn⟩⟩, hO, fun i o b ho hb hh => ?_⟩
  · rcases killE?_spec hE ha with rfl | ⟨h1, h2⟩
    · exact .top
    · exact hrep _ _ (h.env t a h1)
  · obtain ⟨o, h1, h2, _⟩ := hsub g i o' ho;exact (h2.1 _ _ _ _ (h.heap.sim g i o h1)).mono (Nat.le_refl _) (fun _ _ _ => rfl) (fun b _ => hO b) (fun _ _ => rfl) fun _ _ _ => rfl
  · obtain ⟨o1, h1, _⟩ := hsub _ _ _ ho;obtain ⟨o2, h2, _⟩ := hsub _ _ _ ho';exact h.heap.inj g i g' i' o1 o2 b h1 h2 hb hb'
  · exact h.heap.mine b (OwnB.same (fun g i o' ho => let ⟨o, a, _⟩ := hsub g i o' ho; ⟨o, a⟩) hb)
  · obtain ⟨a1, t, cs, a2⟩ := h.heap.pins g i b hp;obtain ⟨o', a3, _, _, a4, _⟩ := k2 _ _ _ a2;obtain ⟨cs', rfl⟩ := a4 t cs rfl;refine ⟨a1, t, cs', ?_⟩;rw [hd, if_neg]
    · exact a3
    · rintro rfl; exact hnb i t cs a2
  · rcases hh with hh | ⟨g, i', o', h1, h2⟩
    · exact h.heap.notOf ⟨f, i, o, ho, hb⟩ hh
    · obtain ⟨o2, h3, _, h4⟩ := hsub _ _ _ h1;exact h4 (h.heap.inj g i' f i o2 o b h3 ho h2 hb).1

theorem SR.freeze {F : Fr} {s : AS} {ρ : Nat → Nat → Value} {act : Act} {w : World} (h : SR F s ρ act w) (t f : Nat) {j n kk : Nat} {E : TypeId} {xs ys : List D} {env' : List (Nat × AV)} {hp1 hp' : List (Nat × List AObj)} (ht : get s.env t = some (.own f j n)) (ho : hget s.hp f j = some (.rowD E kk xs))
    (hn : n ≤ xs.length) (hys : xs.take n = ys) (hE : killE? f s.env = some env') (hH : killH? f s.hp = some hp1) (hh : hdel? f hp1 = some hp') (hone : hfam s.hp f = some [.rowD E kk xs]) : SR F ⟨s.n, (t, .d (.sl none ys)) :: env', hp'⟩ ρ act w := by
  obtain ⟨h1, h2, h3⟩ := h.forget f hE hH hh (fun i t cs e => by
    simp only [hget, hone, Option.bind_some, gl_one (o := .rowD E kk xs) rfl] at e
    cases i <;> simp at e)
  refine ⟨h1.size, h1.defs, fun t' a ha => ?_, h1.heap⟩;rcases Zbn ha with ⟨rfl, rfl⟩ | ⟨_, ha⟩
  · have hr := h.env t _ ht
    generalize act.tmps.getD t undef = v at hr
    obtain ⟨us, a, cap, e1, g1, g2, g3, g4, g5⟩ := h.rowD ho
    cases hr with
    | own hρ hn' =>
      rw [e1] at hρ;injection hρ with e2 e3 e4
      subst e2 e3 e4;refine .d (.sl kk (fun _ h => by cases h) g4.2.2 (by rw [← hys, List.length_take]; omega) (by omega) g4.2.1 (fun y hy => g2.2.1 y (by rw [← hys] at hy; exact List.mem_of_mem_take hy)) (fun hne => ?_) (fun b o hb i y hy => ?_))
      · have : 0 < xs.length := by
          rcases Nat.eq_zero_or_pos xs.length with h0 | h0
          · exfalso; apply hne; rw [← hys, List.eq_nil_of_length_eq_zero h0]; simp
          · exact h0
        obtain ⟨b, hb, _⟩ := g5 this;exact ⟨b, 0, hb⟩
      · have hy' : xs[i]? = some y := by
          rw [← hys, List.getElem?_take] at hy
          split at hy
          · exact hy
          · cases hy
        have hil : i < xs.length := (List.getElem?_eq_some_iff.1 hy').1;obtain ⟨b', hb', cur, c1, c2, c3⟩ := g5 (by omega);rw [hb'] at hb;injection hb with hb; injection hb with hb1 hb2; subst hb1 hb2
        subst hb';have hlt : b' < w.heap.size := (Array.getElem?_eq_some_iff.1 c1).1
        have hex : ∀ (q : Nat) c, y.cells[q]? = some c → ∃ u, w.cell? ⟨b', 0 + i * kk + q, none⟩ = some u ∧ RepD w (F.O ρ hp') c u := fun q c hc => by
          obtain ⟨u, d1, d2, d3⟩ := g2.2.2 i y hy' q c hc;exact ⟨u, by rw [Nat.zero_add]; exact row_cell c1 c3 d1, d3.mono (Nat.le_refl _) (fun _ _ _ => rfl) fun b _ => h2 b⟩
        refine .ptr (fun q => (w.cell? ⟨b', 0 + i * kk + q, none⟩).getD undef) hlt (h3 j _ b' ho (by rw [e1]; rfl)) (g3 y (List.mem_of_getElem? hy')) (fun q c hc => ?_) (fun q c hc => ?_)
        · obtain ⟨u, d1, _⟩ := hex q c hc;rw [d1]; rfl
        · obtain ⟨u, d1, d2⟩ := hex q c hc;rw [d1]; exact d2
  · exact h1.env t' a ha

section
variable {P : Program} {F : Fr} {Q : Exit → AS → Prop} {s : AS} {c : Code} {ops : Array Oper} {l : List Oper}
theorem a_adopt {sn : Nat} {env : List (Nat × AV)} {hp : List (Nat × List AObj)} (t f : Nat) {T E : TypeId} {kk by_ : Nat} (S : SlTy P T E kk by_) {env' : List (Nat × AV)} {hp1 hp' : List (Nat × List AObj)} (ht : get env t = some (.d (.sl (some true) []))) (hE : killE? f env = some env') (hH : killH? f hp = some hp1) (hh : hnew? hp1 f (.rowD E kk []) = some hp')
    (h : Awp P F c Q ⟨sn, (t, .own f 0 0) :: env', hp'⟩) : Awp P F c Q ⟨sn, env, hp⟩ := fun _ _ _ hs => h _ _ _ (hs.adopt t f S ht hE hH hh)
theorem a_freeze {sn : Nat} {env : List (Nat × AV)} {hp : List (Nat × List AObj)} (t f : Nat) {j n kk : Nat} {E : TypeId} {xs ys : List D} {env' : List (Nat × AV)} {hp1 hp' : List (Nat × List AObj)} (ht : get env t = some (.own f j n)) (ho : hget hp f j = some (.rowD E kk xs)) (hn : n ≤ xs.length) (hys : xs.take n = ys) (hE : killE? f env = some env') (hH : killH? f hp = some hp1) (hh : hdel? f hp1 = some hp') (hone : hfam hp f = some [.rowD E kk xs])
    (h : Awp P F c Q ⟨sn, (t, .d (.sl none ys)) :: env', hp'⟩) : Awp P F c Q ⟨sn, env, hp⟩ := fun _ _ _ hs => h _ _ _ (hs.freeze t f ht ho hn hys hE hH hh hone)
theorem o_freeze {sn : Nat} {env : List (Nat × AV)} {hp : List (Nat × List AObj)} (t f : Nat) {j n kk : Nat} {E : TypeId} {xs ys : List D} {env' : List (Nat × AV)} {hp1 hp' : List (Nat × List AObj)} (ht : get env t = some (.own f j n)) (ho : hget hp f j = some (.rowD E kk xs)) (hn : n ≤ xs.length) (hys : xs.take n = ys) (hE : killE? f env = some env') (hH : killH? f hp = some hp1) (hh : hdel? f hp1 = some hp') (hone : hfam hp f = some [.rowD E kk xs])
    (h : Aops P F ops l Q ⟨sn, (t, .d (.sl none ys)) :: env', hp'⟩) : Aops P F ops l Q ⟨sn, env, hp⟩ := fun _ _ _ hs => h _ _ _ (hs.freeze t f ht ho hn hys hE hH hh hone)
end

end Go.Proofs.Ytgdppeobgefogaa
/- Contracts over abstract states; how a function is entered, how it is left, how it is called. No program in sight. -/
namespace Go.Proofs.Ytgdppeobgefogaa
open Go.RowKit

abbrev Hp := List (Nat × List AObj)

def pinOf (ρ : Nat → Nat → Value) (H : Hp) (f i : Nat) : Option Nat := match hget H f i, ρ f i with
  | some (.blk _ _), .pointer (some ⟨b, 0, none⟩) => some b
  | _, _ => none
theorem pinOf_spec {ρ : Nat → Nat → Value} {H : Hp} {f i b : Nat} (h : pinOf ρ H f i = some b) : ρ f i = .pointer (some ⟨b, 0, none⟩) ∧ ∃ t cs, hget H f i = some (.blk t cs) := by
  unfold pinOf at h
  split at h
  · rename_i t cs b' h1 h2
    injection h with h; subst h
    exact ⟨h2, t, cs, h1⟩
  · cases h

def Fr.top (F : Fr) (H : Hp) : Prop := F.pn = hpN H ∧ F.rnd = none ∧ F.lo = F.w0.heap.size
def Fr.flat (F : Fr) : Prop := F.rnd = none ∧ F.lo ≤ F.w0.heap.size
def ACalls (P : Program) (f : FuncId) (args : List AV) (H : Hp) (R : AV → Hp → Prop) : Prop :=
  (∃ fn, P.funcs[f]? = some fn ∧ (fn.name == "runtime.NumGoroutine") = false ∧ fn.body.isSome = true) ∧
  ∀ (F : Fr) (ρ : Nat → Nat → Value) (vs : List Value), F.own0 = OwnB ρ H → F.pin = pinOf ρ H → F.top H → Heap F H ρ F.w0 → vs.length = args.length → (∀ (i : Nat) a v, args[i]? = some a → vs[i]? = some v → RepA F.w0 (F.O ρ H) ρ a v) →
    Calls P f vs.toArray F.w0 fun e w' => ∃ v r H' ρ', e = .returned v ∧ R r H' ∧ RepA w' (F.O ρ' H') ρ' r v ∧ Heap F H' ρ' w'
def PCalls (P : Program) (f : FuncId) (args : List AV) (x : D) : Prop := ACalls P f args [] fun r H' => r = .d x ∧ H' = []

theorem pinOf_mem {ρ : Nat → Nat → Value} {H : Hp} {f i b : Nat} (h : pinOf ρ H f i = some b) : f ∈ hpN H := by
  obtain ⟨_, t, cs, h1⟩ := pinOf_spec h;simp only [hget] at h1
  cases hf : hfam H f with
  | none => rw [hf] at h1; cases h1
  | some l => exact hpN_mem hf
theorem ACalls.mono {P : Program} {f : FuncId} {args : List AV} {H : Hp} {R R' : AV → Hp → Prop} (h : ACalls P f args H R) (hr : ∀ r H', R r H' → R' r H') : ACalls P f args H R' :=
  ⟨h.1, fun F ρ vs h1 h2 h2' h3 h4 h5 => (h.2 F ρ vs h1 h2 h2' h3 h4 h5).mono fun _ _ ⟨v, r, H', ρ', a, b, c⟩ => ⟨v, r, H', ρ', a, hr _ _ b, c⟩⟩

def enumE? : Nat → List AV → Option (List (Nat × AV))
  | _, [] => some []
  | i, a :: r => match enumE? (i + 1) r with
    | none => none
    | some l => some ((i, a) :: l)
theorem enumE?_spec {i : Nat} {as : List AV} {env : List (Nat × AV)} (h : enumE? i as = some env) {t : Nat} {a : AV} (ha : get env t = some a) : ∃ j : Nat, t = i + j ∧ as[j]? = some a := by
  induction as generalizing i env with
  | nil => simp only [enumE?, Option.some.injEq] at h; subst h; simp [get] at ha
  | cons x r ih =>
    simp only [enumE?] at h
    split at h
    · cases h
    · rename_i l hl
      injection h with h; subst h
      rcases Zbn ha with ⟨rfl, rfl⟩ | ⟨_, ha⟩
      · exact ⟨0, rfl, by simp⟩
      · obtain ⟨j, h1, h2⟩ := ih hl ha;exact ⟨j + 1, by omega, by simpa using h2⟩

def resV? (P : Program) (s : AS) : ResultVar → Option AV
  | .tmp t => get s.env t
  | .cell a T => match get s.env a with
    | some (.ptr f i off) => match hget s.hp f i with
      | some (.blk _ cs) => match oneTy P T with
        | true => cs[off]?
        | false => match P.info? T with
          | none => none
          | some inf => match rowTy P T inf.size with
            | false => none
            | true => match takeL? cs off inf.size with
              | none => none
              | some l => mkAgg? l
      | _ => none
    | _ => none
def resL? (P : Program) (s : AS) : List ResultVar → Option (List AV)
  | [] => some []
  | r :: rs => match resL? P s rs with
    | none => none
    | some l => match resV? P s r with
      | none => none
      | some a => some (a :: l)
def resAV? (P : Program) (s : AS) (rs : List ResultVar) : Option AV := match resL? P s rs with
  | none => none
  | some [a] => some a
  | some [.d x, .d y] => some (.d (.tup [x, y]))
  | some [.d x, .d y, .d z] => some (.d (.tup [x, y, z]))
  | some l => some (.tup l)
inductive RV (P : Program) (s : AS) : ResultVar → AV → Prop
  | tmp {t : Nat} {a : AV} (h : get s.env t = some a) : RV P s (.tmp t) a
  | cell1 {c f i off : Nat} {T t : TypeId} {cs : List AV} {a : AV} (hg : get s.env c = some (.ptr f i off)) (ho : hget s.hp f i = some (.blk t cs)) (hT : oneTy P T = true) (ha : cs[off]? = some a) : RV P s (.cell c T) a
  | cellS {c f i off n : Nat} {T t : TypeId} {cs l : List AV} {a : AV} (hg : get s.env c = some (.ptr f i off)) (ho : hget s.hp f i = some (.blk t cs)) (hT : rowTy P T n = true) (hl : takeL? cs off n = some l) (ha : mkAgg? l = some a) : RV P s (.cell c T) a
inductive RVs (P : Program) (s : AS) : List ResultVar → List AV → Prop
  | nil : RVs P s [] []
  | cons {r : ResultVar} {rs : List ResultVar} {a : AV} {l : List AV} (h : RV P s r a) (hs : RVs P s rs l) : RVs P s (r :: rs) (a :: l)
def tupAV : List AV → AV
  | [a] => a
  | [.d x, .d y] => .d (.tup [x, y])
  | [.d x, .d y, .d z] => .d (.tup [x, y, z])
  | l => .tup l
def Res (P : Program) (s : AS) (rs : List ResultVar) (r : AV) : Prop := ∃ l, RVs P s rs l ∧ tupAV l = r
theorem resV?_RV {P : Program} {s : AS} {r : ResultVar} {a : AV} (h : resV? P s r = some a) : RV P s r a := by
  cases r with
  | tmp t => exact .tmp h
  | cell c T =>
    simp only [resV?] at h
    split at h
    · rename_i f i off hg
      split at h
      · rename_i t cs ho
        split at h
        · rename_i hT; exact .cell1 hg ho hT h
        · split at h
          · cases h
          · rename_i inf hinf
            split at h
            · cases h
            · rename_i hT
              split at h
              · cases h
              · rename_i l hl; exact .cellS hg ho hT hl h
      · cases h
    · cases h
theorem resL?_RVs {P : Program} {s : AS} : ∀ {rs : List ResultVar} {l : List AV}, resL? P s rs = some l → RVs P s rs l
  | [], l, h => by simp only [resL?, Option.some.injEq] at h; subst h; exact .nil
  | r :: rs, l, h => by
    simp only [resL?] at h
    split at h
    · cases h
    · rename_i l1 h1
      split at h
      · cases h
      · rename_i a ha
        injection h with h; subst h
        exact .cons (resV?_RV ha) (resL?_RVs h1)
theorem ZaZ {P : Program} {s : AS} {rs : List ResultVar} {r : AV} (h : resAV? P s rs = some r) : Res P s rs r := by
  unfold resAV? at h
  cases hl : resL? P s rs with
  | none => rw [hl] at h; cases h
  | some l =>
    rw [hl] at h;refine ⟨l, resL?_RVs hl, ?_⟩
    split at h
    · rename_i heq; cases heq
    · rename_i x heq; injection heq with heq; subst heq; injection h
    · rename_i x y heq; injection heq with heq; subst heq; injection h
    · rename_i x y z heq; injection heq with heq; subst heq; injection h
    · rename_i l' hn1 hn2 hn3 heq
      injection heq with heq; subst heq; injection h with h; subst h
      unfold tupAV
      split
      · rename_i a; exact absurd rfl (hn1 a)
      · rename_i x y; exact absurd rfl (hn2 x y)
      · rename_i x y z; exact absurd rfl (hn3 x y z)
      · rfl
def part? (hp : Hp) : List Nat → Option Hp
  | [] => some []
  | g :: r => match part? hp r with
    | none => none
    | some l => match hfam hp g with
      | none => some l
      | some x => some ((g, x) :: l)
def memB (g : Nat) : List Nat → Bool
  | [] => false
  | a :: r => Nat.beq a g || memB g r
theorem ZaX {g : Nat} {nm : List Nat} : memB g nm = true ↔ g ∈ nm := by
  induction nm with
  | nil => simp [memB]
  | cons a r ih =>
    simp only [memB, Bool.or_eq_true, ih, List.mem_cons];exact or_congr ⟨fun h => (Nat.eq_of_beq_eq_true h).symm, fun h => by rw [h]; exact Nat.beq_refl a⟩ Iff.rfl
def namesIn (nm : List Nat) : Hp → Bool
  | [] => true
  | (g, _) :: r => memB g nm && namesIn nm r
theorem namesIn_fam {nm : List Nat} {H : Hp} (h : namesIn nm H = true) {g : Nat} {l : List AObj} (ho : hfam H g = some l) : g ∈ nm := by
  induction H with
  | nil => simp [hfam] at ho
  | cons p r ih =>
    obtain ⟨k, l'⟩ := p;simp only [namesIn, Bool.and_eq_true] at h
    by_cases e : k = g
    · subst e; exact ZaX.1 h.1
    · refine ih h.2 ?_
      simpa only [hfam, ZaV e] using ho
theorem part?_mem {hp : Hp} : ∀ {nm : List Nat} {hs : Hp}, part? hp nm = some hs → (∀ g x, hfam hs g = some x → g ∈ nm ∧ hfam hp g = some x) ∧ ∀ g, g ∈ nm → hfam hs g = hfam hp g
  | [], hs, h => by
    simp only [part?, Option.some.injEq] at h; subst h;exact ⟨(fun g x h => by cases h), (fun g h => by cases h)⟩
  | a :: r, hs, h => by
    simp only [part?] at h
    split at h
    · cases h
    · rename_i l hl
      obtain ⟨h1, h2⟩ := part?_mem hl
      split at h
      · rename_i hn
        injection h with h; subst h
        refine ⟨fun g x hg => ⟨List.mem_cons_of_mem _ (h1 g x hg).1, (h1 g x hg).2⟩, fun g hg => ?_⟩;rcases List.mem_cons.1 hg with rfl | hg
        · rw [hn]
          cases hh : hfam l g with
          | none => rfl
          | some x => rw [(h1 g x hh).2] at hn; cases hn
        · exact h2 g hg
      · rename_i x hx
        injection h with h; subst h
        refine ⟨fun g y hg => ?_, fun g hg => ?_⟩
        · simp only [hfam] at hg
          split at hg
          · rename_i hk
            rw [← Nat.eq_of_beq_eq_true hk];injection hg with hg; subst hg
            exact ⟨List.mem_cons_self, hx⟩
          · exact ⟨List.mem_cons_of_mem _ (h1 g y hg).1, (h1 g y hg).2⟩
        · simp only [hfam]
          split
          · rename_i hk; rw [← Nat.eq_of_beq_eq_true hk]; exact hx.symm
          · rename_i hk
            rcases List.mem_cons.1 hg with rfl | hg
            · exact absurd rfl (Nat.ne_of_beq_eq_false hk)
            · exact h2 g hg

def subB : List Nat → List Nat → Bool
  | [], _ => true
  | a :: r, nm => memB a nm && subB r nm
theorem subB_spec {l nm : List Nat} (h : subB l nm = true) {f : Nat} (hf : f ∈ l) : f ∈ nm := by
  induction l with
  | nil => cases hf
  | cons a r ih =>
    simp only [subB, Bool.and_eq_true] at h;rcases List.mem_cons.1 hf with rfl | hf
    · exact ZaX.1 h.1
    · exact ih h.2 hf
theorem SR.only {F : Fr} {s : AS} {ρ : Nat → Nat → Value} {act : Act} {w : World} (hs : SR F s ρ act w) (nm : List Nat) {l : List Nat} {hp' : Hp} (hF : F.pn = l) (hsub : subB l nm = true) (hp : part? s.hp nm = some hp') : SR F ⟨s.n, s.env, hp'⟩ ρ act w := by
  obtain ⟨p1, p2⟩ := part?_mem hp
  have hsub' : ∀ f i o, hget hp' f i = some o → hget s.hp f i = some o := fun f i o ho => by
    simp only [hget] at ho ⊢
    cases hf : hfam hp' f with
    | none => rw [hf] at ho; cases ho
    | some x => rw [(p1 f x hf).2]; rw [hf] at ho; exact ho
  have hown : ∀ b, OwnB ρ hp' b → OwnB ρ s.hp b := fun b ⟨f, i, o, a1, a2⟩ => ⟨f, i, o, hsub' f i o a1, a2⟩
  have hO : ∀ b, b < w.heap.size → F.O ρ hp' b → F.O ρ s.hp b := fun b _ hb => hb.imp id (hown b);refine ⟨hs.size, hs.defs.mono (Nat.le_refl _) (fun _ _ _ => rfl) hO, fun t a ha => (hs.env t a ha).mono (Nat.le_refl _) (fun _ _ _ => rfl) hO (fun _ _ _ => rfl), ?_⟩;refine ⟨fun f i o ho => (hs.heap.sim f i o (hsub' f i o ho)).mono (Nat.le_refl _) (fun _ _ _ => rfl) hO (fun _ _ => rfl) (fun _ _ _ => rfl), fun f i f' i' o o' b ho ho' => hs.heap.inj f i f' i' o o' b (hsub' f i o ho) (hsub' f' i' o' ho'), fun b hb => hs.heap.mine b (hown b hb), hs.heap.os, hs.heap.tape, hs.heap.output, hs.heap.size0, hs.heap.keep, fun f i b hb => ?_, hs.heap.drawn⟩;obtain ⟨a1, t, cs, a2⟩ := hs.heap.pins f i b hb;refine ⟨a1, t, cs, ?_⟩;have hfn : f ∈ nm := subB_spec hsub (by rw [← hF]; exact F.hpn f i b hb);simp only [hget] at a2 ⊢;rw [p2 f hfn]; exact a2
def Ret (P : Program) (rs : List ResultVar) (H : Hp) (R : AV → Hp → Prop) : Exit → AS → Prop
  | .normal, s => ∃ r nm H', Res P s rs r ∧ part? s.hp nm = some H' ∧ namesIn nm H = true ∧ R r H'
  | .ret, s => ∃ r nm H', Res P s rs r ∧ part? s.hp nm = some H' ∧ namesIn nm H = true ∧ R r H'
  | _, _ => False

def resRun (tmps : Array Value) : ResultVar → Sem Value
  | .tmp t => pure (tmps.getD t undef)
  | .cell a t => do loadVar t (← asAddr (tmps.getD a undef))
theorem results_eq (fn : Func) (tmps : Array Value) : results fn tmps = (do
    let vs ← fn.results.mapM (resRun tmps)
    pure (if h : vs.size = 1 then vs[0] else .tuple vs)) := rfl
theorem tupD {w : World} {O : Nat → Prop} {ρ : Nat → Nat → Value} {l : List D} {vs : List Value} (hl : vs.length = l.length) (h : ∀ (i : Nat) a v, (l.map AV.d)[i]? = some a → vs[i]? = some v → RepA w O ρ a v) : RepA w O ρ (.d (.tup l)) (.tuple vs.toArray) :=
  .d (.tup hl fun i c v hc hv => by
    have := h i (.d c) v (by rw [List.getElem?_map, hc]; rfl) hv
    cases this with | d h => exact h)
theorem RV.spec {P : Program} {F : Fr} {s : AS} {ρ : Nat → Nat → Value} {act : Act} {w : World} (hs : SR F s ρ act w) {r : ResultVar} {a : AV} (h : RV P s r a) :
    ∃ v, (resRun act.tmps r).run P w = .ok v w ∧ RepA w (F.O ρ s.hp) ρ a v := by
  cases h with
  | @tmp t _ h => exact ⟨_, rfl, hs.env t _ h⟩
  | @cell1 c f i off T t cs a hg ho hT ha =>
    have hr := hs.env c _ hg
    generalize hvx : act.tmps.getD c undef = vx at hr
    cases hr with
    | @ptr _ _ _ b hb =>
      obtain ⟨b', us, e1, h1, h2, h3, h4⟩ := hs.heap.sim f i _ ho;rw [hb] at e1;injection e1 with e1; injection e1 with e1; injection e1 with e1; subst e1
      have hlt : off < us.length := by rw [h2]; exact (List.getElem?_eq_some_iff.1 ha).1
      have hcell : w.cell? ⟨b, off, none⟩ = some us[off] := by
        rw [cell_of_row w b off us.toArray t (0, 0) h1]; simp [hlt]
      exact ⟨us[off], by simp only [resRun, hvx, asAddr, loadVar, Sem.run_bind, Sem.run_pure, Result.andThen_ok, oneTy_spec hT]; simp [hcell], h3 off a _ ha (List.getElem?_eq_getElem hlt)⟩
  | @cellS c f i off n T t cs l a hg ho hT hl ha =>
    have hr := hs.env c _ hg
    generalize hvx : act.tmps.getD c undef = vx at hr
    cases hr with
    | @ptr _ _ _ b hb =>
      obtain ⟨b', us, e1, h1, h2, h3, h4⟩ := hs.heap.sim f i _ ho;rw [hb] at e1;injection e1 with e1; injection e1 with e1; injection e1 with e1; subst e1
      obtain ⟨⟨ds, h5, h6⟩, h7⟩ := rowTy_spec hT;obtain ⟨h8, h9, h10⟩ := takeL?_spec _ _ _ _ hl;have hlen : ((us.drop off).take n).length = n := by rw [List.length_take, List.length_drop]; omega
      have hr := run_loadVar_mid (P := P) w b off T ((us.drop off).take n) ds (fun j v hv => by
        rw [cell_of_row w b (off + j) us.toArray t (0, 0) h1];rw [List.getElem?_take] at hv
        split at hv
        · rw [List.getElem?_drop] at hv; simpa using hv
        · cases hv) h5 h6 (by rw [hlen]; exact h7)
      refine ⟨.agg ((us.drop off).take n).toArray, by simp only [resRun, hvx, asAddr, Sem.run_bind, Sem.run_pure, Result.andThen_ok, hr], mkAgg?_spec ha (by rw [hlen, h9]) fun m c u hc hu => ?_⟩;have hm : m < n := by rw [← h9]; exact (List.getElem?_eq_some_iff.1 hc).1
      rw [h10 m hm] at hc;rw [List.getElem?_take, if_pos hm, List.getElem?_drop] at hu;exact ⟨h3 _ c u hc hu, h4 u (List.mem_of_getElem? hu)⟩
theorem RVs.spec {P : Program} {F : Fr} {s : AS} {ρ : Nat → Nat → Value} {act : Act} {w : World} (hs : SR F s ρ act w) {rs : List ResultVar} {l : List AV} (h : RVs P s rs l) :
    ∃ vs : List Value, (rs.mapM (resRun act.tmps)).run P w = .ok vs w ∧ vs.length = l.length ∧ ∀ (i : Nat) a v, l[i]? = some a → vs[i]? = some v → RepA w (F.O ρ s.hp) ρ a v := by
  induction h with
  | nil => exact ⟨[], rfl, rfl, by simp⟩
  | cons h _ ih =>
    obtain ⟨vs, e1, e2, e3⟩ := ih;obtain ⟨v, f1, f2⟩ := h.spec hs;refine ⟨v :: vs, ?_, by simp [e2], fun i a' v' hi hv => ?_⟩
    · rw [List.mapM_cons];simp only [Sem.run_bind, f1, Result.andThen_ok, e1, Sem.run_pure]
    · cases i with
      | zero => simp at hi hv; subst hi hv; exact f2
      | succ i => exact e3 i a' v' (by simpa using hi) (by simpa using hv)
theorem Res.spec {P : Program} {F : Fr} {s : AS} {ρ : Nat → Nat → Value} {act : Act} {w : World} (hs : SR F s ρ act w) {fn : Func} {rs : List ResultVar} (hrs : fn.results = rs.toArray) {a : AV} (h : Res P s rs a) :
    ∃ v, (results fn act.tmps).run P w = .ok v w ∧ RepA w (F.O ρ s.hp) ρ a v := by
  obtain ⟨l, hl, ht⟩ := h;obtain ⟨vs, e1, e2, e3⟩ := hl.spec hs
  have hrun : (results fn act.tmps).run P w = .ok (if hh : vs.toArray.size = 1 then vs.toArray[0] else .tuple vs.toArray) w := by
    rw [results_eq, hrs, List.mapM_toArray];simp only [Sem.run_bind, Sem.run_map, e1, Result.andThen_ok, Sem.run_pure]
  refine ⟨_, hrun, ?_⟩;unfold tupAV at ht
  split at ht
  · subst ht;obtain ⟨v, rfl⟩ := List.length_eq_one_iff.1 e2;exact e3 0 _ v rfl rfl
  · subst ht;rw [dif_neg (by simp [e2])];exact tupD (by simp [e2]) e3
  · subst ht;rw [dif_neg (by simp [e2])];exact tupD (by simp [e2]) e3
  · rename_i hn1 _ _
    subst ht;rw [dif_neg]
    · exact .tup e2 e3
    · intro h1;have : l.length = 1 := by rw [← e2]; simpa using h1
      obtain ⟨a', e⟩ := List.length_eq_one_iff.1 this;exact hn1 a' e

theorem cells_of_cell {w : World} {a : Addr} {v : Value} (h : w.cell? a = some v) : ∃ c t x, w.heap[a.block]? = some (Obj.cells c t x) := by
  unfold World.cell? at h
  split at h
  · rename_i c t x hc; exact ⟨c, t, x, hc⟩
  · cases h
theorem RepD.other {w w' : World} {O : Nat → Prop} (hs : w'.heap.size = w.heap.size) (hb : ∀ (b : Nat) c t x, w.heap[b]? = some (Obj.cells c t x) → w'.heap[b]? = w.heap[b]?) {x : D} {v : Value} (h : RepD w O x v) : RepD w' O x v := by
  induction h with
  | raw h => exact .raw h
  | agg hl h1 _ ih => exact .agg hl h1 ih
  | tup hl _ ih => exact .tup hl ih
  | ptr us h0 h1 h2 h3 _ ih =>
    refine .ptr us (by omega) h1 h2 (fun j c hj => ?_) ih;have h4 := h3 j c hj;obtain ⟨c, t, x, hc⟩ := cells_of_cell h4;rw [World.cell?_of_block (w := w) (hb _ c t x hc)]; exact h4
  | sl k hn hz hln hc hm hk ha _ ih => exact .sl k hn hz hln hc hm hk ha ih
  | fn hf hl _ _ ih1 ih => exact .fn hf hl ih1 ih
theorem RepA.other {w w' : World} {O : Nat → Prop} {ρ : Nat → Nat → Value} (hs : w'.heap.size = w.heap.size) (hb : ∀ (b : Nat) c t x, w.heap[b]? = some (Obj.cells c t x) → w'.heap[b]? = w.heap[b]?) {a : AV} {v : Value} (h : RepA w O ρ a v) : RepA w' O ρ a v := by
  induction h with
  | d h => exact .d (h.other hs hb)
  | top => exact .top
  | tup hl _ ih => exact .tup hl ih
  | agg hl h1 _ ih => exact .agg hl h1 ih
  | ptr h => exact .ptr h
  | own h hn => exact .own h hn
  | rptr h => exact .rptr h
  | map h => exact .map h
  | ifc h => exact .ifc h
  | fn hl _ ih => exact .fn hl ih
theorem ownsRow_other {w w' : World} (hb : ∀ (b : Nat) c t x, w.heap[b]? = some (Obj.cells c t x) → w'.heap[b]? = w.heap[b]?) {base : Nat} {e : TypeId} {size n : Nat} {v : Value} {xs : List Value} (h : w.ownsRow base e size v n xs) : w'.ownsRow base e size v n xs := by
  refine ⟨h.1, ?_⟩;rcases h.2 with h' | ⟨g, cap, cur, h1, h2, h3, h4⟩
  · exact .inl h'
  · exact .inr ⟨g, cap, cur, h1, h2, by rw [hb g _ _ _ h3]; exact h3, h4⟩
theorem SimObj.other {w w' : World} {O : Nat → Prop} {ρ : Nat → Nat → Value} (hs : w'.heap.size = w.heap.size) (hb : ∀ (b : Nat) c t x, w.heap[b]? = some (Obj.cells c t x) → w'.heap[b]? = w.heap[b]?) {o : AObj} {v : Value} (h : SimObj w O ρ o v) (hl : ∀ b, blkOf v = some b → w'.heap[b]? = w.heap[b]?) : SimObj w' O ρ o v := by
  cases o with
  | blk t cs =>
    obtain ⟨b, us, rfl, h1, h2, h3, h4⟩ := h;exact ⟨b, us, rfl, by rw [hb _ _ _ _ h1]; exact h1, h2, fun j c u hc hu => (h3 j c u hc hu).other hs hb, h4⟩
  | row t k xs =>
    obtain ⟨us, h1, h2⟩ := h;exact ⟨us, ownsRow_other hb h1, h2.mono fun x hx c hc u hu => hu.other hs hb⟩
  | rowD t k xs =>
    obtain ⟨us, h1, h2, h3⟩ := h;exact ⟨us, ownsRow_other hb h1, h2.mono fun x hx c hc u hu => hu.other hs hb, h3⟩
  | loop L =>
    obtain ⟨r, h1, h2, h3, h4, h5⟩ := h;exact ⟨r, h1, by rw [hl L.id (by rw [h1]; rfl)]; exact h2, h3, h4, fun t a ha => (h5 t a ha).other hs hb⟩
  | map bs es =>
    obtain ⟨m, arr, c, rfl, h1, h2, h3, h4, h5, h6⟩ := h;exact ⟨m, arr, c, rfl, by rw [hl _ rfl]; exact h1, h2, fun i e x he hx => ⟨(h3 i e x he hx).1.other hs hb, (h3 i e x he hx).2.other hs hb⟩, h4, h5, h6⟩
  | iter f i c seen =>
    obtain ⟨r, m, sn, rfl, h1, h2, h3⟩ := h;exact ⟨r, m, sn, rfl, h1, by rw [hl _ rfl]; exact h2, h3⟩
  | addr f i u => exact h
  | any => trivial
  | nb b t cs =>
    obtain ⟨rfl, us, h1, h2, h3, h4⟩ := h;exact ⟨rfl, us, by rw [hb _ _ _ _ h1]; exact h1, h2, fun j c u hc hu => (h3 j c u hc hu).other hs hb, h4⟩
  | nr b t k cap xs =>
    obtain ⟨rfl, us, h1, h2, h3⟩ := h;exact ⟨rfl, us, ownsRow_other hb h1, h2.mono fun x hx c hc u hu => hu.other hs hb, h3⟩
  | multi M => trivial
theorem SR.putObj {F : Fr} {s : AS} {ρ : Nat → Nat → Value} {act : Act} {w : World} (hs : SR F s ρ act w) {b : Nat} {o o' : Obj} {ds : List Deferred} (hlo : F.w0.heap.size ≤ b) (ho : w.heap[b]? = some o) (hc : ∀ c t x, o ≠ Obj.cells c t x) (hO : ¬ F.O ρ s.hp b) (hds : DefsOK F.lo (w.putObj b o') (F.O ρ s.hp) ds) : SR F s ρ { act with defers := ds } (w.putObj b o') := by
  have hsz : (w.putObj b o').heap.size = w.heap.size := World.putObj_size
  have hb : ∀ (b' : Nat) c t x, w.heap[b']? = some (Obj.cells c t x) → (w.putObj b o').heap[b']? = w.heap[b']? := fun b' c t x h => World.putObj_heap_other fun e => by
    subst e; rw [ho] at h; injection h with h; exact hc c t x h
  exact ⟨hs.size, hds, fun t a ha => (hs.env t a ha).other hsz hb, ⟨fun f i o ho => (hs.heap.sim f i o ho).other hsz hb fun b' hv => World.putObj_heap_other fun e' => hO (.inr ⟨f, i, _, ho, by rw [← e']; exact hv⟩), hs.heap.inj, fun b hb => by rw [hsz]; exact hs.heap.mine b hb, hs.heap.os, hs.heap.tape, hs.heap.output, by rw [hsz]; exact hs.heap.size0, fun b' hlt' hn => by
    rw [World.putObj_heap_other (by omega)]; exact hs.heap.keep b' hlt' hn, hs.heap.pins, hs.heap.drawn⟩⟩

theorem a_enterR {P : Program} {f : FuncId} {fn : Func} {c : Code} {n : Nat} {args : List AV} {env : List (Nat × AV)} {rs : List ResultVar} {H : Hp} {R : AV → Hp → Prop} (hf : P.funcs[f]? = some fn) (hname : (fn.name == "runtime.NumGoroutine") = false) (hb : fn.body = some c) (hn : fn.ntmps = n)
    (hrs : fn.results = rs.toArray) (henv : enumE? 0 args = some env) (hlen : Nat.ble args.length n = true) (h : ∀ F : Fr, F.pn = hpN H → F.flat → Awp P F c (Ret P rs H R) ⟨n, env, H⟩) : ACalls P f args H R := by
  refine ⟨⟨fn, hf, hname, by rw [hb]; rfl⟩, fun F ρ vs h1 h2 h2' h3 h4 h5 => callsIn_wide.1 (callsIn_of_wp_marks (n := 0) hf hb trivial ?_)⟩;have hfen : fen F.rnd = Fence.wide := by rw [h2'.2.1]; rfl
  have hle := Nat.le_of_ble_eq_true hlen
  have hsr : SR F ⟨n, env, H⟩ ρ { tmps := vs.toArray ++ Array.replicate (fn.ntmps - vs.toArray.size) undef, defers := [] } F.w0 := by
    refine ⟨?_, .nil, fun t a ha => ?_, h3⟩
    · simp only [Array.size_append, List.size_toArray, Array.size_replicate, hn, h4]; omega
    · obtain ⟨j, hj, ha'⟩ := enumE?_spec henv ha;rw [Nat.zero_add] at hj;subst hj;have hlt : t < vs.length := by rw [h4]; exact (List.getElem?_eq_some_iff.1 ha').1
      have : (vs.toArray ++ Array.replicate (fn.ntmps - vs.toArray.size) undef).getD t undef = vs[t] := by
        rw [Array.getD_eq_getD_getElem?, Array.getElem?_append_left (by simpa using hlt)]; simp [hlt]
      show RepA _ _ _ _ ((vs.toArray ++ Array.replicate (fn.ntmps - vs.toArray.size) undef).getD t undef);rw [this];exact h5 t a _ ha' (List.getElem?_eq_getElem hlt)
  refine Go.wpIn_mono (hfen ▸ h F h2'.1 ⟨h2'.2.1, Nat.le_of_eq h2'.2.2⟩ ρ _ _ hsr) fun e act w ⟨s, ρ', hq, hs⟩ => ?_
  have fin : ∀ {act : Act} {w : World}, SR F s ρ' act w → (∃ r nm H', Res P s rs r ∧ part? s.hp nm = some H' ∧ namesIn nm H = true ∧ R r H') → ∃ v, (results fn act.tmps).run P w = .ok v w ∧ (∃ v' r H' ρ', Ending.returned v = .returned v' ∧ R r H' ∧ RepA w (F.O ρ' H') ρ' r v' ∧ Heap F H' ρ' w) := fun {act w} hs ⟨r, nm, H', hr, hpt, hnm, hR⟩ => by
    obtain ⟨v, h6, h7⟩ := hr.spec hs hrs;obtain ⟨p1, p2⟩ := part?_mem hpt
    have hsub : ∀ f i o, hget H' f i = some o → hget s.hp f i = some o := fun f i o ho => by
      simp only [hget] at ho ⊢
      cases hf : hfam H' f with
      | none => rw [hf] at ho; cases ho
      | some x => rw [(p1 f x hf).2]; rw [hf] at ho; exact ho
    have hown : ∀ b, OwnB ρ' H' b → OwnB ρ' s.hp b := fun b ⟨f, i, o, a1, a2⟩ => ⟨f, i, o, hsub f i o a1, a2⟩
    have hO : ∀ b, b < w.heap.size → F.O ρ' H' b → F.O ρ' s.hp b := fun b _ hb => hb.imp id (hown b);refine ⟨v, h6, v, r, H', ρ', rfl, hR, h7.mono (Nat.le_refl _) (fun _ _ _ => rfl) hO (fun _ _ _ => rfl), ?_⟩;refine ⟨fun f i o ho => (hs.heap.sim f i o (hsub f i o ho)).mono (Nat.le_refl _) (fun _ _ _ => rfl) hO (fun _ _ => rfl) (fun _ _ _ => rfl), fun f i f' i' o o' b ho ho' => hs.heap.inj f i f' i' o o' b (hsub f i o ho) (hsub f' i' o' ho'), fun b hb => hs.heap.mine b (hown b hb), hs.heap.os, hs.heap.tape, hs.heap.output, hs.heap.size0, hs.heap.keep, fun f i b hb => ?_, hs.heap.drawn⟩;obtain ⟨a1, t, cs, a2⟩ := hs.heap.pins f i b hb;refine ⟨a1, t, cs, ?_⟩;rw [h2] at hb;obtain ⟨_, t', cs', a3⟩ := pinOf_spec hb
    have hfn : f ∈ nm := by
      simp only [hget] at a3
      cases hf : hfam H f with
      | none => rw [hf] at a3; cases a3
      | some x => exact namesIn_fam hnm hf
    simp only [hget] at a2 ⊢;rw [p2 f hfn]; exact a2
  have leave : ∀ {act : Act} {w : World}, SR F s ρ' act w → (∃ r nm H', Res P s rs r ∧ part? s.hp nm = some H' ∧ namesIn nm H = true ∧ R r H') → LeavesInM Fence.wide 0 P fn act.tmps (fun e w' => ∃ v r H' ρ', e = .returned v ∧ R r H' ∧ RepA w' (F.O ρ' H') ρ' r v ∧ Heap F H' ρ' w') act.defers .returning w := fun {act w} hs hq => by
    obtain ⟨bs, hd, hnd, hb⟩ := hs.defs;rw [hd]
    clear hd
    induction bs generalizing act w with
    | nil => exact fin hs hq
    | cons b bs ih =>
      obtain ⟨d1, d2, d3, d4⟩ := hb b List.mem_cons_self;obtain ⟨n1, n2⟩ := List.nodup_cons.1 hnd
      have hb' : ∀ b' ∈ bs, F.lo ≤ b' ∧ b' < (w.putObj b (.deferred none)).heap.size ∧ ¬ F.O ρ' s.hp b' ∧ (w.putObj b (.deferred none)).heap[b']? = some (.deferred (some [])) := fun b' hm => by
        obtain ⟨e1, e2, e3, e4⟩ := hb b' (List.mem_cons_of_mem _ hm)
        exact ⟨e1, by rw [World.putObj_size]; exact e2, e3, by
          have hne : b' ≠ b := fun e => by subst e; exact n1 hm
          rw [World.putObj_heap_other hne]; exact e4⟩
      have hs' := hs.putObj (o' := .deferred none) (ds := bs.map markOf) (by rw [← h2'.2.2]; exact d1) d4 (fun c t x e => by cases e) d3 ⟨bs, rfl, n2, hb'⟩;exact ⟨by simp, .inl ⟨b, _, rfl, run_takeDeferred d4, ih (act := { act with defers := bs.map markOf }) hs' n2 hb'⟩⟩
  cases e with
  | normal => exact leave hs hq
  | ret => exact leave hs hq
  | exit _ => exact hq.elim
  | goto _ => exact hq.elim
  | panic _ => exact hq.elim
  | outgrown => exact hq.elim

theorem Zbf {P : Program} {f : FuncId} {fn : Func} {c : Code} {n : Nat} {args : List AV} {env : List (Nat × AV)} {rs : List ResultVar} {H : Hp} {R : AV → Hp → Prop} (hf : P.funcs[f]? = some fn) (hname : (fn.name == "runtime.NumGoroutine") = false) (hb : fn.body = some c) (hn : fn.ntmps = n)
    (hrs : fn.results = rs.toArray) (henv : enumE? 0 args = some env) (hlen : Nat.ble args.length n = true) (h : ∀ F : Fr, F.pn = hpN H → Awp P F c (Ret P rs H R) ⟨n, env, H⟩) : ACalls P f args H R :=
  a_enterR hf hname hb hn hrs henv hlen fun F h1 _ => h F h1
end Go.Proofs.Ytgdppeobgefogaa
/- How a function is called in the abstract walk. No program in sight. -/
namespace Go.Proofs.Ytgdppeobgefogaa
open Go.RowKit

def evs? (s : AS) : List Operand → Option (List AV)
  | [] => some []
  | x :: r => match evs? s r with
    | none => none
    | some l => match s.ev x with
      | none => none
      | some a => some (a :: l)
theorem evs?_spec {F : Fr} {s : AS} {ρ : Nat → Nat → Value} {act : Act} {w : World} (hs : SR F s ρ act w) : ∀ {xs : List Operand} {as : List AV}, evs? s xs = some as → (xs.map act.eval).length = as.length ∧ ∀ (i : Nat) a v, as[i]? = some a → (xs.map act.eval)[i]? = some v → RepA w (F.O ρ s.hp) ρ a v
  | [], as, h => by simp only [evs?, Option.some.injEq] at h; subst h; simp
  | x :: r, as, h => by
    simp only [evs?] at h
    split at h
    · cases h
    · rename_i l hl
      split at h
      · cases h
      · rename_i a ha
        injection h with h; subst h
        obtain ⟨h1, h2⟩ := evs?_spec hs hl;refine ⟨by simpa using h1, fun i a' v hi hv => ?_⟩
        cases i with
        | zero => simp at hi hv; subst hi hv; exact hs.ev ha
        | succ i => exact h2 i a' v (by simpa using hi) (by simpa using hv)

def FamsEq (hp CH : Hp) : List Nat → Prop
  | [] => True
  | g :: r => hfam hp g = hfam CH g ∧ FamsEq hp CH r
theorem FamsEq.hget {hp CH : Hp} {nm : List Nat} (h : FamsEq hp CH nm) {g : Nat} (hg : g ∈ nm) (i : Nat) : hget hp g i = hget CH g i := by
  induction nm with
  | nil => cases hg
  | cons a r ih =>
    rcases List.mem_cons.1 hg with rfl | hg
    · simp only [Go.Proofs.Ytgdppeobgefogaa.hget, h.1]
    · exact ih h.2 hg
theorem namesIn_spec {nm : List Nat} {H : Hp} (h : namesIn nm H = true) {g i : Nat} {o : AObj} (ho : hget H g i = some o) : g ∈ nm := by
  induction H with
  | nil => simp [hget, hfam] at ho
  | cons p r ih =>
    obtain ⟨k, l⟩ := p;simp only [namesIn, Bool.and_eq_true] at h
    by_cases e : k = g
    · subst e; exact ZaX.1 h.1
    · refine ih h.2 ?_
      simpa only [hget, hfam, ZaV e] using ho
def isBlk : Option AObj → Bool
  | some (.blk _ _) => true
  | _ => false
def okRef (CH : Hp) (nm : List Nat) (f i : Nat) : Bool := !(memB f nm) || isBlk (hget CH f i)
def rest? (nm : List Nat) : Hp → Option Hp
  | [] => some []
  | (g, l) :: r => match rest? nm r with
    | none => none
    | some r' => match memB g nm with
      | true => some r'
      | false => some ((g, l) :: r')
theorem rest?_spec {nm : List Nat} {hp hp' : Hp} (h : rest? nm hp = some hp') : ∀ g i, hget hp' g i = if g ∈ nm then none else hget hp g i := by
  induction hp generalizing hp' with
  | nil => simp only [rest?, Option.some.injEq] at h; subst h; simp [hget, hfam]
  | cons p r ih =>
    obtain ⟨k, l⟩ := p;simp only [rest?] at h
    split at h
    · cases h
    · rename_i r' hr
      split at h
      · rename_i hk
        injection h with h; subst h
        intro g i;rw [ih hr g i]
        by_cases e : k = g
        · subst e; rw [if_pos (ZaX.1 hk), if_pos (ZaX.1 hk)]
        · simp only [hget, hfam, ZaV e]
      · rename_i hk
        injection h with h; subst h
        intro g i
        by_cases e : k = g
        · subst e;rw [if_neg (fun hm => by rw [ZaX.2 hm] at hk; cases hk)];simp only [hget, hfam, Nat.beq_refl]
        · have := ih hr g i;simp only [hget, hfam, ZaV e] at this ⊢;exact this
theorem hget_app {H rest : Hp} {nm : List Nat} (hH : namesIn nm H = true) (hr : ∀ g i, g ∈ nm → hget rest g i = none) (g i : Nat) : hget (H ++ rest) g i = if g ∈ nm then hget H g i else hget rest g i := by
  have key : ∀ H : Hp, hfam (H ++ rest) g = match hfam H g with | some l => some l | none => hfam rest g := by
    intro H
    induction H with
    | nil => rfl
    | cons p r ih =>
      obtain ⟨k, l⟩ := p
      by_cases e : k = g
      · subst e; simp [hfam]
      · simp only [List.cons_append, hfam, ZaV e, ih]
  by_cases hg : g ∈ nm
  · rw [if_pos hg];have h1 := hr g i hg;simp only [hget, key] at h1 ⊢
    cases hh : hfam H g with
    | none => simp [h1]
    | some l => simp
  · rw [if_neg hg];simp only [hget, key]
    cases hh : hfam H g with
    | none => rfl
    | some l => exact absurd (namesIn_fam hH hh) hg

def inNm (nm : List Nat) (f _i : Nat) : Bool := memB f nm
def objsIn (nm : List Nat) : List AObj → Bool
  | [] => true
  | .blk _ cs :: r => okC (inNm nm) cs && objsIn nm r
  | .row _ _ xs :: r => xs.all (fun x => okL (inNm nm) x.cells) && objsIn nm r
  | .rowD _ _ _ :: r => objsIn nm r
  | .loop L :: r => okEnv (inNm nm) L.env && objsIn nm r
  | .map _ _ :: r => objsIn nm r
  | .iter f _ _ _ :: r => memB f nm && objsIn nm r
  | .addr f _ _ :: r => memB f nm && objsIn nm r
  | .any :: r => objsIn nm r
  | .nb _ _ _ :: r => objsIn nm r
  | .nr _ _ _ _ _ :: r => objsIn nm r
  | .multi _ :: r => objsIn nm r
def hpIn (nm : List Nat) : Hp → Bool
  | [] => true
  | (_, l) :: r => objsIn nm l && hpIn nm r
theorem objsIn_spec {nm : List Nat} {l : List AObj} (h : objsIn nm l = true) {o : AObj} (ho : o ∈ l) {f i : Nat} (hr : o.Refs f i) : f ∈ nm := by
  induction l with
  | nil => cases ho
  | cons a r ih =>
    rcases List.mem_cons.1 ho with rfl | ho
    · cases o with
      | blk t cs =>
        simp only [objsIn, Bool.and_eq_true] at h;obtain ⟨c, hc, hr⟩ := hr;exact ZaX.1 (okC_spec h.1 hc hr)
      | row t k xs =>
        simp only [objsIn, Bool.and_eq_true] at h;obtain ⟨x, hx, c, hc, hr⟩ := hr;exact ZaX.1 (okL_spec (List.all_eq_true.1 h.1 x hx) hc hr)
      | rowD t k xs => exact hr.elim
      | loop L =>
        simp only [objsIn, Bool.and_eq_true] at h;obtain ⟨t, a, ha, hr⟩ := hr;exact ZaX.1 (okEnv_spec h.1 ha hr)
      | map bs es => exact hr.elim
      | iter f' i' c seen =>
        simp only [objsIn, Bool.and_eq_true] at h;obtain ⟨e1, e2⟩ := hr;subst e1;exact ZaX.1 h.1
      | addr f' i' u =>
        simp only [objsIn, Bool.and_eq_true] at h;obtain ⟨e1, e2⟩ := hr;subst e1;exact ZaX.1 h.1
      | any => exact hr.elim
      | nb b t cs => exact hr.elim
      | nr b t k cap xs => exact hr.elim
      | multi M => exact hr.elim
    · refine ih ?_ ho
      cases a <;> simp only [objsIn, Bool.and_eq_true] at h <;> first | exact h.2 | exact h
theorem hpIn_spec {nm : List Nat} {H : Hp} (h : hpIn nm H = true) {g j : Nat} {o : AObj} (ho : hget H g j = some o) {f i : Nat} (hr : o.Refs f i) : f ∈ nm := by
  induction H with
  | nil => simp [hget, hfam] at ho
  | cons p r ih =>
    obtain ⟨k, l⟩ := p;simp only [hpIn, Bool.and_eq_true] at h
    by_cases e : k = g
    · subst e;simp only [hget, hfam, Nat.beq_refl, Option.bind_some] at ho;rcases gl_mem ho with ho | ⟨_, m, _, _, rfl⟩
      · exact objsIn_spec h.1 ho hr
      · exact absurd hr MObj.norefs
    · refine ih h.2 ?_
      simpa only [hget, hfam, ZaV e] using ho

section
variable {P : Program} {F : Fr} {s : AS} {d : Nat} {ty : TypeId} {pos : String} {aft : Array Edge} {g : Option (Nat × Bool)} {at_ : Array TypeId}

def frameOf (F : Fr) (lo : Nat) (hp CH : Hp) (ρ : Nat → Nat → Value) (w : World) (hOf : ∀ b, (F.Of b ∨ (OwnB ρ hp b ∧ ¬ OwnB ρ CH b)) → b < w.heap.size ∧ ¬ OwnB ρ CH b) : Fr :=
  Fr.mk none lo w (fun b => F.Of b ∨ (OwnB ρ hp b ∧ ¬ OwnB ρ CH b)) (OwnB ρ CH) (pinOf ρ CH) hOf (hpN CH) (fun _ _ _ h => pinOf_mem h)

def Keeps (w w' : World) (O O' : Nat → Prop) : Prop := w.heap.size ≤ w'.heap.size ∧ (∀ b, b < w.heap.size → ¬ O b → w'.heap[b]? = w.heap[b]?) ∧ ∀ b, b < w.heap.size → O' b → O b

theorem heap_part (lo : Nat) {hp CH : Hp} {ρ : Nat → Nat → Value} {w : World} (hs : Heap F hp ρ w) (nm : List Nat) (hfe : FamsEq hp CH nm) (hcn : namesIn nm CH = true) :
    ∃ hOf, Heap (frameOf F lo hp CH ρ w hOf) CH ρ w ∧ (frameOf F lo hp CH ρ w hOf).O ρ CH = F.O ρ hp := by
  have hCH : ∀ g i o, hget CH g i = some o → hget hp g i = some o ∧ g ∈ nm := fun g i o ho => by
    have hg := namesIn_spec hcn ho;exact ⟨by rw [hfe.hget hg]; exact ho, hg⟩
  have hOC : ∀ b, OwnB ρ CH b → OwnB ρ hp b := fun b ⟨f, i, o, h1, h2⟩ => ⟨f, i, o, (hCH f i o h1).1, h2⟩
  have hOf : ∀ b, (F.Of b ∨ (OwnB ρ hp b ∧ ¬ OwnB ρ CH b)) → b < w.heap.size ∧ ¬ OwnB ρ CH b := fun b hb => by
    rcases hb with hb | hb
    · exact ⟨Nat.lt_of_lt_of_le (F.hOf b hb).1 hs.size0, fun hh => hs.notOf (hOC b hh) hb⟩
    · exact ⟨(hs.mine b hb.1).1, hb.2⟩
  have hO : (frameOf F lo hp CH ρ w hOf).O ρ CH = F.O ρ hp := funext fun b => propext ⟨fun h => by
    rcases h with (h | h) | h
    · exact .inl h
    · exact .inr h.1
    · exact .inr (hOC b h), fun h => by
    rcases h with h | h
    · exact .inl (.inl h)
    · by_cases hh : OwnB ρ CH b
      · exact .inr hh
      · exact .inl (.inr ⟨h, hh⟩)⟩
  refine ⟨hOf, ⟨fun f i o ho => ?_, fun f i f' i' o o' b ho ho' => ?_, fun b hb => ⟨(hs.mine b (hOC b hb)).1, .inl hb⟩, rfl, rfl, rfl, Nat.le_refl _, fun _ _ _ => rfl, fun f i b hb => pinOf_spec hb, Nat.le_refl _⟩, hO⟩
  · rw [hO]; exact hs.sim f i o (hCH f i o ho).1
  · exact hs.inj f i f' i' o o' b (hCH f i o ho).1 (hCH f' i' o' ho').1

theorem heap_join {lo : Nat} {ok : Nat → Nat → Bool} {hp CH H' : Hp} {ρ ρ' : Nat → Nat → Value} {w w' : World} (hs : Heap F hp ρ w) (nm : List Nat) (hfe : FamsEq hp CH nm) (hcn : namesIn nm CH = true) {rest0 rest : Hp} (hr0s : ∀ g i, hget rest0 g i = if g ∈ nm then none else hget hp g i)
    (k1 : ∀ g i o', hget rest g i = some o' → ∃ o, hget rest0 g i = some o ∧ o.Less ok o') (k2 : ∀ g i o, hget rest0 g i = some o → ∃ o', hget rest g i = some o' ∧ o.Less ok o')
    (hOf : ∀ b, (F.Of b ∨ (OwnB ρ hp b ∧ ¬ OwnB ρ CH b)) → b < w.heap.size ∧ ¬ OwnB ρ CH b) (_ : Heap (frameOf F lo hp CH ρ w hOf) CH ρ w) (hh' : Heap (frameOf F lo hp CH ρ w hOf) H' ρ' w') (n1 : namesIn nm H' = true) (n2 : hpIn nm H' = true) (hok : ∀ f i, f ∈ nm → ok f i = true → ρ' f i = ρ f i) :
    ∃ ρ'', Heap F (H' ++ rest) ρ'' w' ∧ (∀ A v, (∀ f i, A.Refs f i → f ∈ nm) → RepA w' ((frameOf F lo hp CH ρ w hOf).O ρ' H') ρ' A v → RepA w' (F.O ρ'' (H' ++ rest)) ρ'' A v) ∧
      (∀ A v, (∀ f i, A.Refs f i → ok f i = true) → RepA w (F.O ρ hp) ρ A v → RepA w' (F.O ρ'' (H' ++ rest)) ρ'' A v) ∧ (∀ f i, f ∈ nm → ρ'' f i = ρ' f i) ∧ (∀ f i, f ∉ nm → ρ'' f i = ρ f i) ∧ Keeps w w' (F.O ρ hp) (F.O ρ'' (H' ++ rest)) ∧ ∀ b, F.O ρ'' (H' ++ rest) b → (frameOf F lo hp CH ρ w hOf).O ρ' H' b := by
  have hCH : ∀ g i o, hget CH g i = some o → hget hp g i = some o ∧ g ∈ nm := fun g i o ho => by
    have hg := namesIn_spec hcn ho;exact ⟨by rw [hfe.hget hg]; exact ho, hg⟩
  have hrest : ∀ g i o, hget rest g i = some o → ∃ o1, hget hp g i = some o1 ∧ o1.Less (ok) o ∧ g ∉ nm := fun g i o ho => by
    obtain ⟨o1, h1, h2⟩ := k1 g i o ho;rw [hr0s] at h1
    split at h1
    · cases h1
    · rename_i hg; exact ⟨o1, h1, h2, hg⟩
  have hOC : ∀ b, OwnB ρ CH b → OwnB ρ hp b := fun b ⟨f, i, o, h1, h2⟩ => ⟨f, i, o, (hCH f i o h1).1, h2⟩
  have hOR : ∀ b, OwnB ρ rest b → OwnB ρ hp b ∧ ¬ OwnB ρ CH b := fun b ⟨f, i, o, h1, h2⟩ => by
    obtain ⟨o1, h3, _, h4⟩ := hrest f i o h1;refine ⟨⟨f, i, o1, h3, h2⟩, fun ⟨f', i', o', h5, h6⟩ => ?_⟩;obtain ⟨h7, h8⟩ := hCH f' i' o' h5;obtain ⟨rfl, rfl⟩ := hs.inj f i f' i' _ _ b h3 h7 h2 h6;exact h4 h8
  let ρ'' : Nat → Nat → Value := fun f i => if f ∈ nm then ρ' f i else ρ f i
  have hρin : ∀ f i, f ∈ nm → ρ'' f i = ρ' f i := fun f i hf => if_pos hf;have hρout : ∀ f i, f ∉ nm → ρ'' f i = ρ f i := fun f i hf => if_neg hf
  have hρok : ∀ f i, ok f i = true → ρ'' f i = ρ f i := fun f i hf0 => by
    by_cases hf : f ∈ nm
    · rw [hρin f i hf]; exact hok f i hf hf0
    · exact hρout f i hf
  have hnone : ∀ g i, g ∈ nm → hget rest g i = none := fun g i hg => by
    cases ho : hget rest g i with
    | none => rfl
    | some o => exact absurd hg (hrest g i o ho).choose_spec.2.2
  have happ := fun g i => hget_app (rest := rest) n1 hnone g i
  have hown : ∀ b, OwnB ρ'' (H' ++ rest) b → OwnB ρ' H' b ∨ OwnB ρ rest b := fun b ⟨f, i, o, h1, h2⟩ => by
    rw [happ] at h1
    split at h1
    · rename_i hf; rw [hρin f i hf] at h2; exact .inl ⟨f, i, o, h1, h2⟩
    · rename_i hf; rw [hρout f i hf] at h2; exact .inr ⟨f, i, o, h1, h2⟩
  have hOin : ∀ b, F.O ρ'' (H' ++ rest) b → (frameOf F lo hp CH ρ w hOf).O ρ' H' b := fun b hb => by
    rcases hb with hb | hb
    · exact .inl (.inl hb)
    · rcases hown b hb with hb | hb
      · exact .inr hb
      · exact .inl (.inr (hOR b hb))
  have hOout : ∀ b, b < w.heap.size → F.O ρ'' (H' ++ rest) b → F.O ρ hp b := fun b hlt hb => by
    rcases hb with hb | hb
    · exact .inl hb
    · rcases hown b hb with hb | hb
      · rcases (hh'.mine b hb).2 with h1 | h1
        · exact .inr (hOC b h1)
        · exact absurd hlt (Nat.not_lt.2 h1)
      · exact .inr (hOR b hb).1
  have hbb : ∀ b, b < w.heap.size → ¬ F.O ρ hp b → w'.heap[b]? = w.heap[b]? := fun b hlt hn => hh'.keep b hlt fun hh => hn (.inr (hOC b hh));have hsz : w.heap.size ≤ w'.heap.size := hh'.size0;refine ⟨ρ'', ?_, fun A v hA hr => hr.mono (Nat.le_refl _) (fun _ _ _ => rfl) (fun b _ => hOin b) fun f i hf => hρin f i (hA f i hf), fun A v hA hr => hr.mono hsz hbb hOout fun f i hf => hρok f i (hA f i hf), hρin, hρout, ⟨hsz, hbb, hOout⟩, hOin⟩;refine ⟨fun f i o ho => ?_, fun f i f' i' o o' b ho ho' hb hb' => ?_, fun b hb => ?_, hh'.os.trans hs.os, hh'.tape.trans hs.tape, hh'.output.trans hs.output, Nat.le_trans hs.size0 hsz, fun b hlt hn => ?_, fun f i b hp => ?_, Nat.le_trans hs.drawn hh'.drawn⟩
  · rw [happ] at ho
    split at ho
    · rename_i hf
      rw [hρin f i hf];refine (hh'.sim f i o ho).mono (Nat.le_refl _) (fun _ _ _ => rfl) (fun b _ => hOin b) (fun _ _ => rfl) fun f' i' hr => hρin f' i' (hpIn_spec n2 ho hr)
    · rename_i hf
      rw [hρout f i hf];obtain ⟨o1, h1, h2, _⟩ := hrest f i o ho;refine (h2.1 _ _ _ _ (hs.sim f i o1 h1)).mono hsz hbb hOout (fun b hv => hh'.keep b (hs.mine b ⟨f, i, o1, h1, hv⟩).1 (hOR b ⟨f, i, o, ho, hv⟩).2) fun f' i' hr => hρok f' i' (h2.2.1 f' i' hr)
  · rw [happ] at ho ho'
    have cross : ∀ {f i f' i' : Nat} {o o' : AObj} {b : Nat}, f ∈ nm → f' ∉ nm → hget H' f i = some o → hget rest f' i' = some o' → blkOf (ρ' f i) = some b → blkOf (ρ f' i') = some b → False := fun {f i f' i' o o' b} hf hf' ho ho' hb hb' => by
      have h1 := hOR b ⟨f', i', o', ho', hb'⟩;rcases (hh'.mine b ⟨f, i, o, ho, hb⟩).2 with h2 | h2
      · exact h1.2 h2
      · exact absurd (hs.mine b h1.1).1 (Nat.not_lt.2 h2)
    by_cases hf : f ∈ nm <;> by_cases hf' : f' ∈ nm
    · rw [if_pos hf] at ho; rw [if_pos hf'] at ho';rw [hρin _ _ hf] at hb; rw [hρin _ _ hf'] at hb';exact hh'.inj f i f' i' o o' b ho ho' hb hb'
    · rw [if_pos hf] at ho; rw [if_neg hf'] at ho';rw [hρin _ _ hf] at hb; rw [hρout _ _ hf'] at hb';exact (cross hf hf' ho ho' hb hb').elim
    · rw [if_neg hf] at ho; rw [if_pos hf'] at ho';rw [hρout _ _ hf] at hb; rw [hρin _ _ hf'] at hb';exact (cross hf' hf ho' ho hb' hb).elim
    · rw [if_neg hf] at ho; rw [if_neg hf'] at ho';rw [hρout _ _ hf] at hb; rw [hρout _ _ hf'] at hb';obtain ⟨o1, h1, _⟩ := hrest f i o ho;obtain ⟨o2, h2, _⟩ := hrest f' i' o' ho';exact hs.inj f i f' i' o1 o2 b h1 h2 hb hb'
  · rcases hown b hb with hb | hb
    · obtain ⟨h1, h2⟩ := hh'.mine b hb;refine ⟨h1, ?_⟩;rcases h2 with h2 | h2
      · exact (hs.mine b (hOC b h2)).2
      · exact .inr (Nat.le_trans hs.size0 h2)
    · obtain ⟨h1, h2⟩ := hs.mine b (hOR b hb).1;exact ⟨Nat.lt_of_lt_of_le h1 hsz, h2⟩
  · have h1 : b < w.heap.size := Nat.lt_of_lt_of_le hlt hs.size0;rw [hh'.keep b h1 (fun hh => ?_)]
    · exact hs.keep b hlt hn
    · rcases (hs.mine b (hOC b hh)).2 with h2 | h2
      · exact hn h2
      · omega
  · obtain ⟨a1, t, cs, a2⟩ := hs.pins f i b hp
    by_cases hf : f ∈ nm
    · have h3 : hget CH f i = some (.blk t cs) := by rw [← hfe.hget hf]; exact a2
      have hp' : pinOf ρ CH f i = some b := by simp only [pinOf, h3, a1]
      obtain ⟨b1, t', cs', b2⟩ := hh'.pins f i b hp';exact ⟨by rw [hρin f i hf]; exact b1, t', cs', by rw [happ, if_pos hf]; exact b2⟩
    · have h3 : hget rest0 f i = some (.blk t cs) := by rw [hr0s, if_neg hf]; exact a2
      obtain ⟨o', h4, _, _, h5, _⟩ := k2 f i _ h3;obtain ⟨cs', rfl⟩ := h5 t cs rfl;exact ⟨by rw [hρout f i hf]; exact a1, t, cs', by rw [happ, if_neg hf]; exact h4⟩

theorem heap_whole {lo : Nat} {hp CH H' : Hp} {ρ ρ' : Nat → Nat → Value} {w w' : World} (hs : Heap F hp ρ w) (nm : List Nat) (hfe : FamsEq hp CH nm) (hcn : namesIn nm CH = true) {rest0 rest : Hp} (hr0 : rest? nm hp = some rest0) (hH : keepH? (okRef CH nm) rest0 = some rest)
    (hOf : ∀ b, (F.Of b ∨ (OwnB ρ hp b ∧ ¬ OwnB ρ CH b)) → b < w.heap.size ∧ ¬ OwnB ρ CH b) (hheap : Heap (frameOf F lo hp CH ρ w hOf) CH ρ w) (hh' : Heap (frameOf F lo hp CH ρ w hOf) H' ρ' w') (n1 : namesIn nm H' = true) (n2 : hpIn nm H' = true) :
    ∃ ρ'', Heap F (H' ++ rest) ρ'' w' ∧ (∀ A v, (∀ f i, A.Refs f i → f ∈ nm) → RepA w' ((frameOf F lo hp CH ρ w hOf).O ρ' H') ρ' A v → RepA w' (F.O ρ'' (H' ++ rest)) ρ'' A v) ∧
      (∀ A v, (∀ f i, A.Refs f i → okRef CH nm f i = true) → RepA w (F.O ρ hp) ρ A v → RepA w' (F.O ρ'' (H' ++ rest)) ρ'' A v) ∧ (∀ f i, okRef CH nm f i = true → ρ'' f i = ρ f i) ∧ Keeps w w' (F.O ρ hp) (F.O ρ'' (H' ++ rest)) := by
  have hok : ∀ f i, f ∈ nm → okRef CH nm f i = true → ρ' f i = ρ f i := fun f i hf hok => by
    have hb : isBlk (hget CH f i) = true := by
      simp only [okRef, ZaX.2 hf, Bool.not_true, Bool.false_or] at hok; exact hok
    cases ho : hget CH f i with
    | none => rw [ho] at hb; cases hb
    | some o =>
      rw [ho] at hb
      cases o with
      | blk t cs =>
        obtain ⟨b, us, hv, _⟩ := hheap.sim f i _ ho;have hp : pinOf ρ CH f i = some b := by simp only [pinOf, ho, hv]
        rw [(hh'.pins f i b hp).1, hv]
      | row t k xs => cases hb
      | rowD t k xs => cases hb
      | loop L => cases hb
      | map _ _ => cases hb
      | iter _ _ _ _ => cases hb
      | addr _ _ _ => cases hb
      | any => cases hb
      | nb _ _ _ => cases hb
      | nr _ _ _ _ _ => cases hb
      | multi _ => cases hb
  obtain ⟨ρ'', a1, a2, a3, a4, a5, a6, _⟩ := heap_join hs nm hfe hcn (rest?_spec hr0) (keepH?_spec hH).1 (keepH?_spec hH).2 hOf hheap hh' n1 n2 hok;refine ⟨ρ'', a1, a2, a3, fun f i h => ?_, a6⟩
  by_cases hf : f ∈ nm
  · rw [a4 f i hf]; exact hok f i hf h
  · exact a5 f i hf

theorem call_core {ρ : Nat → Nat → Value} {act : Act} {w : World} (hs : SR F s ρ act w) {f : FuncId} {args : List AV} {CH : Hp} {R : AV → Hp → Prop} (hc : ACalls P f args CH R) {vs : List Value} (hlen : vs.length = args.length) (hvs : ∀ (i : Nat) a v, args[i]? = some a → vs[i]? = some v → RepA w (F.O ρ s.hp) ρ a v)
    (nm : List Nat) (hfe : FamsEq s.hp CH nm) (hcn : namesIn nm CH = true) {rest0 rest : Hp} {env' : List (Nat × AV)} (hr0 : rest? nm s.hp = some rest0) (hE : keepE? (okRef CH nm) s.env = some env') (hH : keepH? (okRef CH nm) rest0 = some rest)
    (hR : ∀ r H', R r H' → namesIn nm H' = true ∧ hpIn nm H' = true ∧ r.ok (inNm nm) = true) :
    Calls P f vs.toArray w fun e w' => ∃ v r H' ρ'', e = .returned v ∧ R r H' ∧ RepA w' (F.O ρ'' (H' ++ rest)) ρ'' r v ∧ SR F ⟨s.n, env', H' ++ rest⟩ ρ'' act w' ∧ ∀ f i, okRef CH nm f i = true → ρ'' f i = ρ f i := by
  obtain ⟨hOf, hheap, hO⟩ := heap_part w.heap.size hs.heap nm hfe hcn;refine (hc.2 (frameOf F w.heap.size s.hp CH ρ w hOf) ρ vs rfl rfl ⟨rfl, rfl, rfl⟩ hheap hlen (fun i a v ha hv => by rw [hO]; exact hvs i a v ha hv)).mono fun e w' ⟨v, r, H', ρ', e1, hRr, hrep, hh'⟩ => ?_;obtain ⟨n1, n2, n3⟩ := hR r H' hRr;obtain ⟨ρ'', g1, g2, g3, g4, g5, g6, g7⟩ := heap_whole hs.heap nm hfe hcn hr0 hH hOf hheap hh' n1 n2;refine ⟨v, r, H', ρ'', e1, hRr, g2 r v (fun f i hf => ZaX.1 (AV.ok_spec n3 hf)) hrep, ⟨hs.size, hs.defs.mono g5 g6 g7, fun t a ha => ?_, g1⟩, g4⟩;rcases keepE?_spec hE ha with rfl | ⟨h1, h2⟩
  · exact .top
  · exact g3 _ _ h2 (hs.env t a h1)

theorem run_call {f : FuncId} {fn : Func} (hf : P.funcs[f]? = some fn) (hname : (fn.name == "runtime.NumGoroutine") = false) (hb : fn.body.isSome = true) {act : Act} {w : World} {xs : List Operand} {dst : Option Nat} :
    (execOp act.eval ⟨dst, .call { callee := .value (.func f), args := xs.toArray, argTypes := at_ }, ty, pos, aft, g⟩).run P w = .ok (.enter f (xs.map act.eval).toArray) w := by
  have hb' : ¬ fn.body = none := by intro h; rw [h] at hb; cases hb
  have hn' : ¬ fn.name = "runtime.NumGoroutine" := by simpa using hname
  simp [execOp, resolve, Act.eval, Deferred.ofValue, invoke, callFunc, hf, hn', hb']

theorem st_callX {f : FuncId} {xs : List Operand} {args : List AV} {CH : Hp} {R : AV → Hp → Prop} (hc : ACalls P f args CH R) (hargs : evs? s xs = some args)
    (nm : List Nat) (hfe : FamsEq s.hp CH nm) (hcn : namesIn nm CH = true) {rest0 rest : Hp} {env' : List (Nat × AV)} (hr0 : rest? nm s.hp = some rest0) (hE : keepE? (okRef CH nm) s.env = some env') (hH : keepH? (okRef CH nm) rest0 = some rest)
    (hR : ∀ r H', R r H' → namesIn nm H' = true ∧ hpIn nm H' = true ∧ r.ok (inNm nm) = true) (hd : Nat.blt d s.n = true) :
    Ostep P F ⟨some d, .call { callee := .value (.func f), args := xs.toArray, argTypes := at_ }, ty, pos, aft, g⟩ s (fun s' => ∃ r H', R r H' ∧ s' = ⟨s.n, (d, r) :: env', H' ++ rest⟩) := fun ρ act w hs => by
  obtain ⟨fn, h1, h2, h3⟩ := hc.1;obtain ⟨h4, h5⟩ := evs?_spec hs hargs;unfold Oper.wp;rw [run_call h1 h2 h3, Oper.upon_enter];refine (call_core hs hc h4 h5 nm hfe hcn hr0 hE hH hR).mono fun e w' ⟨v, r, H', ρ'', e1, hRr, hrep, hsr, _⟩ => ?_;subst e1;exact ⟨_, ρ'', ⟨rfl, r, H', hRr, rfl⟩, hsr.put (Za3 hd) hrep⟩
theorem st_callD {f : FuncId} {xs : List Operand} {args : List AV} {CH H0 : Hp} {r0 : AV} (hc : ACalls P f args CH fun r H' => r = r0 ∧ H' = H0) (hargs : evs? s xs = some args)
    (nm : List Nat) (hfe : FamsEq s.hp CH nm) (hcn : namesIn nm CH = true) {rest0 rest : Hp} {env' : List (Nat × AV)} (hr0 : rest? nm s.hp = some rest0) (hE : keepE? (okRef CH nm) s.env = some env') (hH : keepH? (okRef CH nm) rest0 = some rest)
    (hR1 : namesIn nm H0 = true) (hR2 : hpIn nm H0 = true) (hR3 : r0.ok (inNm nm) = true) (hd : Nat.blt d s.n = true) {hp' : Hp} (hhp : some (H0 ++ rest) = some hp') :
    Zaw P F ⟨some d, .call { callee := .value (.func f), args := xs.toArray, argTypes := at_ }, ty, pos, aft, g⟩ s ⟨s.n, (d, r0) :: env', hp'⟩ (okRef CH nm) := by
  injection hhp with hhp
  subst hhp;intro ρ act w hs;obtain ⟨fn, h1, h2, h3⟩ := hc.1;obtain ⟨h4, h5⟩ := evs?_spec hs hargs;unfold Oper.wp;rw [run_call h1 h2 h3, Oper.upon_enter];refine (call_core hs hc h4 h5 nm hfe hcn hr0 hE hH (fun r H' ⟨e1, e2⟩ => by subst e1 e2; exact ⟨hR1, hR2, hR3⟩)).mono fun e w' ⟨v, r, H', ρ'', e1, ⟨e2, e3⟩, hrep, hsr, hk⟩ => ?_;subst e1 e2 e3;exact ⟨ρ'', hsr.put (Za3 hd) hrep, hk⟩
theorem Zba {f : FuncId} {xs : List Operand} {args : List AV} {x : D} (hc : PCalls P f args x) (hargs : evs? s xs = some args) (hd : Nat.blt d s.n = true) :
    Zab P F ⟨some d, .call { callee := .value (.func f), args := xs.toArray, argTypes := at_ }, ty, pos, aft, g⟩ s d (.d x) := by
  refine ⟨hd, rfl, fun ρ act w hs => ?_⟩;obtain ⟨fn, h1, h2, h3⟩ := hc.1;obtain ⟨h4, h5⟩ := evs?_spec hs hargs;unfold Oper.wp;rw [run_call h1 h2 h3, Oper.upon_enter];have hno : ∀ ρ b, ¬ OwnB ρ [] b := fun ρ b ⟨_, _, _, h, _⟩ => by cases h
  let F' : Fr := Fr.mk none w.heap.size w (F.O ρ s.hp) (OwnB ρ []) (pinOf ρ []) (fun b hb => ⟨by
    rcases hb with hb | hb
    · exact Nat.lt_of_lt_of_le (F.hOf b hb).1 hs.heap.size0
    · exact (hs.heap.mine b hb).1, hno ρ b⟩) [] (fun _ _ _ h => pinOf_mem h)
  have hO : ∀ ρ', F'.O ρ' [] = F.O ρ s.hp := fun ρ' => funext fun b => propext ⟨fun h => h.elim id fun h => (hno ρ' b h).elim, .inl⟩
  have hheap : Heap F' [] ρ w := ⟨(fun f i o ho => by cases ho), (fun f i f' i' o o' b ho => by cases ho), fun b hb => (hno ρ b hb).elim, rfl, rfl, rfl, Nat.le_refl _, fun _ _ _ => rfl, fun f i b hb => pinOf_spec hb, Nat.le_refl _⟩
  refine (hc.2 F' ρ _ rfl rfl ⟨rfl, rfl, rfl⟩ hheap h4 (fun i a v ha hv => by rw [hO]; exact h5 i a v ha hv)).mono fun e w' ⟨v, r, H', ρ', e1, ⟨e2, e3⟩, hrep, hh'⟩ => ?_;subst e1 e2 e3;have hbb : ∀ b, b < w.heap.size → w'.heap[b]? = w.heap[b]? := fun b hlt => hh'.keep b hlt (hno ρ b);have hsz : w.heap.size ≤ w'.heap.size := hh'.size0;refine ⟨v, rfl, ?_, ?_, hsz, hbb⟩
  rotate_left
  · refine ⟨fun f i o ho => ?_, hs.heap.inj, fun b hb => ⟨Nat.lt_of_lt_of_le (hs.heap.mine b hb).1 hsz, (hs.heap.mine b hb).2⟩, hh'.os.trans hs.heap.os, hh'.tape.trans hs.heap.tape, hh'.output.trans hs.heap.output, Nat.le_trans hs.heap.size0 hsz, fun b hlt hn => ?_, hs.heap.pins, Nat.le_trans hs.heap.drawn hh'.drawn⟩
    · exact (hs.heap.sim f i o ho).mono hsz (fun b hlt _ => hbb b hlt) (fun _ _ h => h) (fun b hv => hbb b (hs.heap.mine b ⟨f, i, o, ho, hv⟩).1) fun _ _ _ => rfl
    · rw [hbb b (Nat.lt_of_lt_of_le hlt hs.heap.size0)]; exact hs.heap.keep b hlt hn
  · cases hrep with
    | d hrep => rw [hO] at hrep; exact .d hrep
end

end Go.Proofs.Ytgdppeobgefogaa
