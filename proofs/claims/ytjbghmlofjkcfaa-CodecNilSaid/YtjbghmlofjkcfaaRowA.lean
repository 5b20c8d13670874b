/- append onto an owned row, of whatever is appended; slice literals; make; a nil slice taken over; a row that becomes frozen. No program in sight. -/
import Derived.Test.YtjbghmlofjkcfaaRowR
import Derived.Deep.AppendSrc
namespace Go.Proofs.Ytjbghmlofjkcfaa
open Go.RowKit

theorem run_append_src {P : Program} (w : World) (t tx ty e : TypeId) (size bytes : Nat) (T : SlTy P t e size bytes) (v : Value) (n : Nat) (xs : List Value) (hown : w.ownsRow 0 e size v n xs)
    (x : Value) (m : Nat) (news : List Value) (hs : Src P size tx x m news w) (hbytes : (n + m) * bytes ≤ 140737488355328) :
    ∃ v' w', (Builtin.append_ #[t, tx] ty #[v, x]).run P w = .ok v' w' ∧ w'.ownsRow 0 e size v' (n + m) (xs ++ news) ∧ w.grownBy w' v.ownBlock ∧ (v'.ownBlock = v.ownBlock ∨ v'.ownBlock = some w.heap.size) := by
  obtain ⟨i, z, hi, hz, hsize, hby, hzs⟩ := T.info
  have ht := T.ht
  have hsz := T.pos
  have hbp := T.pos'
  subst hsize hby
  have h63 : n + m ≤ maxLen := by
    have : (n + m) * 1 ≤ (n + m) * i.bytes := Nat.mul_le_mul_left _ hbp
    unfold maxLen; omega
  have hsmall : n + m ≤ 9223372036854775807 := by simp only [maxLen] at h63; omega
  have hl := hs.newsLen
  have hlen : (xs ++ news).length = (n + m) * i.size := by rw [List.length_append, hown.1, hl, Nat.add_mul]
  have grown : ∀ (old : Nat), old < n + m → ∀ (row : Option Nat),
      (w.drew.alloc (.cells ((xs ++ news).toArray ++ Builtin.zeroCells z.cells (grownCap w (n + m) old e - (n + m))) e)).ownsRow 0 e i.size
        (.slice (some ⟨w.heap.size, 0, none⟩) (n + m) (grownCap w (n + m) old e)) (n + m) (xs ++ news) ∧
      w.grownBy (w.drew.alloc (.cells ((xs ++ news).toArray ++ Builtin.zeroCells z.cells (grownCap w (n + m) old e - (n + m))) e)) row := by
    intro old ho row
    have hge := grownCap_ge w (n + m) old e
    have hcm : grownCap w (n + m) old e ≤ maxLen := grownCap_le_maxLen w (n + m) old e h63
    refine ⟨⟨hlen, .inr ⟨w.heap.size, _, _, rfl, Nat.zero_le _, heap_alloc_new w.drew _, hge, hcm, ?_, ?_⟩⟩, ⟨rfl, rfl, rfl, by simp, fun k hk _ => Below.heap_alloc w.drew _ k hk⟩⟩
    · simp only [Array.size_append, List.size_toArray, size_zeroCells, hzs, hlen, ← Nat.add_mul]
      congr 1
      omega
    · simp only [Array.toList_append]
      rw [← hlen]
      exact List.take_left
  rcases hown.2 with ⟨rfl, rfl⟩ | ⟨g, cap, cur, rfl, hbg, hg, hnc, hcm, hcs, htake⟩
  · have hx : xs = [] := List.eq_nil_of_length_eq_zero (by simpa using hown.1)
    subst hx
    by_cases hm : m = 0
    · subst hm
      have hn : news = [] := List.eq_nil_of_length_eq_zero (by simpa using hl)
      subst hn
      refine ⟨.slice none 0 0, w, ?_, World.ownsRow_nil w 0 e i.size, ⟨rfl, rfl, rfl, Nat.le_refl _, fun _ _ _ => rfl⟩, .inl rfl⟩
      have hc := hs.cells
      rcases hs.kind with ⟨e', hk⟩ | hk <;> simp [Builtin.append_, run_underlying ht, run_underlying hk, sizeOf, typeInfo, hi, hs.len, hc]
    · have hr := run_append_grow_src (P := P) w t tx ty e i z ht hi hz none 0 0 [] (run_firstCells_none w.drew i.size 0 0 0) x m news hs (by omega) (by omega) (growslice_fits (by omega) hbytes)
      have hgr := grown 0 (by omega) (Value.ownBlock (.slice none 0 0))
      simp only [Nat.zero_add, List.nil_append] at hr hgr ⊢
      exact ⟨_, _, hr, hgr.1, hgr.2, .inr rfl⟩
  · by_cases hroom : n + m ≤ cap
    · have hfit : n * i.size + news.length ≤ cur.size := by rw [hl, hcs, ← Nat.add_mul]; exact Nat.mul_le_mul_right _ hroom
      have hg' : w.heap[g]? = some (.cells cur.toList.toArray e (0, 0)) := by simpa using hg
      have hr := run_append_room_src (P := P) w t tx ty e i ht hi g 0 n cap x m news hs hroom (fun j hj => by
        rw [cell_of_row w g _ cur e (0, 0) hg]; simp; omega) (fun j hj => by simp [World.frozen?, hg])
      rw [Nat.zero_add] at hr
      obtain ⟨g1, g2, g3, g4⟩ := setCells_same (b := g) news (n * i.size) w
      refine ⟨_, _, hr, ⟨hlen, .inr ⟨g, cap, _, rfl, hbg, heap_setCells_block _ _ _ _ hg', hroom, hcm, by simp [setL_length, hcs], ?_⟩⟩, ⟨g1, g2, g3, Nat.le_of_eq g4.symm, fun k _ hk => heap_setCells_other _ _ _ _ fun e => hk (by simp [Value.ownBlock, e])⟩, .inl rfl⟩
      show (setL cur.toList (n * i.size) news).take ((n + m) * i.size) = xs ++ news
      rw [Nat.add_mul, ← hl, setL_take _ _ _ _ (Nat.le_refl _) (by simpa using hfit)]
      apply List.ext_getElem?
      intro j
      rw [setL_get news (cur.toList.take (n * i.size + news.length)) (n * i.size) (by have := Array.length_toList (xs := cur); rw [List.length_take]; omega) j, List.getElem?_append, List.getElem?_take, hown.1]
      by_cases h1 : j < n * i.size
      · rw [if_neg (by omega), if_pos (by omega), if_pos h1, ← htake, List.getElem?_take, if_pos h1]
      · by_cases h2 : j < n * i.size + news.length
        · rw [if_pos ⟨by omega, h2⟩, if_neg h1]
        · have h3 : news.length ≤ j - n * i.size := by omega
          rw [if_neg (fun hh => h2 hh.2), if_neg h2, if_neg h1, List.getElem?_eq_none h3]
    · have holds : ∀ j u, xs[j]? = some u → w.cell? ((⟨g, 0, none⟩ : Addr).add j) = some u := hown.cells (g := g) rfl
      have hr := run_append_grow_src (P := P) w t tx ty e i z ht hi hz (some ⟨g, 0, none⟩) n cap xs (run_firstCells_some w.drew i.size n ⟨g, 0, none⟩ n cap xs hown.1 (by simpa using holds)) x m news hs (by omega) (by omega) (growslice_fits (by omega) hbytes)
      have hgr := grown cap (by omega) (Value.ownBlock (.slice (some ⟨g, 0, none⟩) n cap))
      exact ⟨_, _, hr, hgr.1, hgr.2, .inr rfl⟩

theorem blkOf_slice {a : Option Addr} {n c : Nat} : blkOf (.slice a n c) = (Value.slice a n c).ownBlock := by cases a <;> rfl

section
variable {P : Program} {F : Fr} {s : AS} {d : Nat} {ty T T2 E : TypeId} {pos : String} {aft : Array Edge} {g : Option (Nat × Bool)} {x y : Operand} {k : IntKind} {i : Int}

theorem append_core {ρ : Nat → Nat → Value} {act : Act} {w : World} (hs : SR F s ρ act w) {f j n kk by_ : Nat} {xs ys zs : List D} {env' : List (Nat × AV)} {hp1 hp' : List (Nat × List AObj)} (hx : s.ev x = some (.own f j n)) (ho : hget s.hp f j = some (.rowD E kk xs)) (hn : n ≤ xs.length)
    (S : SlTy P T E kk by_) {news : List Value} (hsrc : Src P kk T2 (act.eval y) ys.length news w) (hlies : Lies D.cells kk (RepD w (F.O ρ s.hp)) ys news) (hone : ∀ z ∈ ys, ∀ c ∈ z.cells, c.one = true) (hb : (n + ys.length) * by_ ≤ 140737488355328)
    (hE : killE? f s.env = some env') (hH : killH? f s.hp = some hp1) (hz : xs.take n ++ ys = zs) (hh : hset? hp1 f j (.rowD E kk zs) = some hp') :
    ∃ v' w', (Builtin.append_ #[T, T2] ty #[act.eval x, act.eval y]).run P w = .ok v' w' ∧ SR F ⟨s.n, env', hp'⟩ (upd ρ f j v') act w' ∧ ∀ w O, RepA w O (upd ρ f j v') (.own f j (n + ys.length)) v' := by
  have h := hs.ev hx
  generalize hv : act.eval x = u at h
  obtain ⟨us, a, cap, e1, h1, h2, h3, h4, h5⟩ := hs.rowD ho
  cases h with
  | own hρ hn' =>
    rw [e1] at hρ
    injection hρ with e2 e3 e4
    subst e2 e3 e4
    obtain ⟨v', w', r1, r2, r3, r4⟩ := run_append_src (P := P) w T T2 ty E kk by_ S _ n _ (ownsRow_take h1 hn) (act.eval y) ys.length news hsrc hb
    obtain ⟨a', cap', e5, q1, q2, q3, q4⟩ := ownsRow_form r2
    subst e5
    have hzl : zs.length = n + ys.length := by rw [← hz, List.length_append, List.length_take]; omega
    refine ⟨_, w', r1, ?_, fun w O => .own upd_same (Nat.le_refl _)⟩
    refine hs.set f j (.rowD E kk zs) _ hE hH (hset?_spec hh) (fun t cs e => by rw [ho] at e; cases e) (fun b hb => ?_) r3.os r3.tape r3.output r3.size (fun b hlt hne => r3.block b hlt fun e => hne ⟨⟨_, ho⟩, ?_⟩) fun hrep => ?_
    · rw [blkOf_slice] at hb
      rcases r4 with r4 | r4
      · left
        refine ⟨⟨_, ho⟩, ?_⟩
        rw [e1, blkOf_slice, ← hb, r4]
        cases a <;> rfl
      · right
        rw [r4] at hb
        injection hb with hb
        subst hb
        have := (World.ownsRow.lt r2 w.heap.size r4).2
        omega
    · rw [e1, blkOf_slice]
      cases a with
      | none => simp [Value.ownBlock] at e
      | some a => exact e.symm
    · have hrepD : ∀ c u, RepD w (F.O ρ s.hp) c u → RepD w' (F.O (upd ρ f j (.slice a' (n + ys.length) cap')) hp') c u := fun c u hr => by
        have := hrep (.d c) u (fun i h => by cases h) (.d hr)
        cases this with | d h => exact h
      refine ⟨us.take (n * kk) ++ news, by rw [hzl]; exact r2, ?_, fun z hz' c hc => ?_⟩
      · rw [← hz]
        exact ((h2.take n hn).append hlies).mono fun x _ c _ u hu => hrepD c u hu
      · rw [← hz] at hz'
        rcases List.mem_append.1 hz' with hz' | hz'
        · exact h3 z (List.mem_of_mem_take hz') c hc
        · exact hone z hz' c hc

/-- append of frozen elements. -/
theorem st_appendD {f j n kk by_ m : Nat} {nil : Option Bool} {xs ys zs : List D} {env' : List (Nat × AV)} {hp1 hp' : List (Nat × List AObj)} (hx : s.ev x = some (.own f j n)) (hy : s.ev y = some (.d (.sl nil ys))) (ho : hget s.hp f j = some (.rowD E kk xs)) (hn : n ≤ xs.length)
    (S : SlTy P T E kk by_) (hk : ∀ z ∈ ys, z.cells.length = kk) (hm : ys.length = m) (hb : (n + m) * by_ ≤ 140737488355328) (hE : killE? f s.env = some env') (hH : killH? f s.hp = some hp1) (hz : xs.take n ++ ys = zs) (hh : hset? hp1 f j (.rowD E kk zs) = some hp') (hd : Nat.blt d s.n = true) :
    Estep P F ⟨some d, .call { callee := .builtin .append, args := #[x, y], argTypes := #[T, T] }, ty, pos, aft, g⟩ s ⟨s.n, (d, .own f j (n + m)) :: env', hp'⟩ (notFam f) := fun ρ act w hs => by
  subst hm
  have hr := hs.repD hy
  obtain ⟨a, cap, e, _⟩ := hr.sl_len
  rw [e] at hr
  obtain ⟨news, g1, g2, g3, _⟩ := hr.lies hk
  have hone : ∀ u ∈ news, u.oneCell' = true := fun u hu => by
    obtain ⟨q, hq, rfl⟩ := List.getElem_of_mem hu
    have hq' : q < ys.length * kk := by rw [← g2.1]; exact hq
    have hk0 : 0 < kk := S.pos
    have hi : q / kk < ys.length := (Nat.div_lt_iff_lt_mul hk0).2 hq'
    obtain ⟨x, hx⟩ := List.getElem?_some_of_lt hi
    obtain ⟨c, hc⟩ := List.getElem?_some_of_lt (l := x.cells) (i := q % kk) (by rw [hk x (List.mem_of_getElem? hx)]; exact Nat.mod_lt _ hk0)
    obtain ⟨u, h1, h2, _⟩ := g2.2.2 _ x hx _ c hc
    rw [show q / kk * kk + q % kk = q by rw [Nat.mul_comm]; exact Nat.div_add_mod q kk, List.getElem?_eq_getElem hq] at h1
    injection h1 with h1; rw [h1]; exact h2
  have hsrc : Src P kk T (act.eval y) ys.length news w := by
    rw [e]
    cases a with
    | none =>
      have h0 : ys.length = 0 := by
        rcases Nat.eq_zero_or_pos ys.length with h0 | h0
        · exact h0
        · obtain ⟨_, h1, _⟩ := g1.2 h0; cases h1
      have hn0 : news = [] := List.eq_nil_of_length_eq_zero (by rw [g1.1, h0, Nat.zero_mul])
      rw [h0, hn0]
      exact Src.ofNil w S.ht cap
    | some ad =>
      refine Src.ofSlice w S.ht ad ys.length cap news g1.1 (fun j u hu => ?_) hone
      have h0 : 0 < ys.length := by
        rcases Nat.eq_zero_or_pos ys.length with h0 | h0
        · have hn0 : news = [] := List.eq_nil_of_length_eq_zero (by rw [g1.1, h0, Nat.zero_mul])
          rw [hn0] at hu; simp at hu
        · exact h0
      obtain ⟨ad', h1, _, h2⟩ := g1.2 h0
      injection h1 with h1; subst h1
      exact h2 j u hu
  obtain ⟨v', w', r1, r2, r3⟩ := append_core (ty := ty) hs hx ho hn S hsrc g2 g3 hb hE hH hz hh
  have hex : (execOp act.eval ⟨some d, .call { callee := .builtin .append, args := #[x, y], argTypes := #[T, T] }, ty, pos, aft, g⟩).run P w = .ok (.value v') w' := by
    simp [execOp, resolve, invoke, builtin, r1]
  unfold Oper.wp
  rw [hex]
  exact ⟨_, r2.put (lt_of_blt hd) (r3 _ _), fun f i h => upd_other fun e => notFam_spec h e.1⟩

/-- append of (the first m of) another owned row. -/
theorem st_appendO {f j n kk by_ f2 j2 m : Nat} {xs ys0 ys zs : List D} {env' : List (Nat × AV)} {hp1 hp' : List (Nat × List AObj)} (hx : s.ev x = some (.own f j n)) (hy : s.ev y = some (.own f2 j2 m)) (ho : hget s.hp f j = some (.rowD E kk xs)) (hn : n ≤ xs.length)
    (ho2 : hget s.hp f2 j2 = some (.rowD E kk ys0)) (hys : ys0.take m = ys) (hm : m ≤ ys0.length)
    (S : SlTy P T E kk by_) (hb : (n + m) * by_ ≤ 140737488355328) (hE : killE? f s.env = some env') (hH : killH? f s.hp = some hp1) (hz : xs.take n ++ ys = zs) (hh : hset? hp1 f j (.rowD E kk zs) = some hp') (hd : Nat.blt d s.n = true) :
    Estep P F ⟨some d, .call { callee := .builtin .append, args := #[x, y], argTypes := #[T, T] }, ty, pos, aft, g⟩ s ⟨s.n, (d, .own f j (n + m)) :: env', hp'⟩ (notFam f) := fun ρ act w hs => by
  have h := hs.ev hy
  generalize hv : act.eval y = u at h
  obtain ⟨us, a, cap, e1, h1, h2, h3, h4, h5⟩ := hs.rowD ho2
  have hml : ys.length = m := by rw [← hys, List.length_take]; omega
  have g2 := h2.take m hm
  rw [hys] at g2
  have hone : ∀ u ∈ us.take (m * kk), u.oneCell' = true := fun u hu => by
    obtain ⟨q, hq, rfl⟩ := List.getElem_of_mem hu
    have hq' : q < ys.length * kk := by rw [← g2.1]; exact hq
    have hk0 : 0 < kk := S.pos
    have hi : q / kk < ys.length := (Nat.div_lt_iff_lt_mul hk0).2 hq'
    obtain ⟨x, hx⟩ := List.getElem?_some_of_lt hi
    obtain ⟨c, hc⟩ := List.getElem?_some_of_lt (l := x.cells) (i := q % kk) (by rw [g2.2.1 x (List.mem_of_getElem? hx)]; exact Nat.mod_lt _ hk0)
    obtain ⟨u, h1, h2, _⟩ := g2.2.2 _ x hx _ c hc
    rw [show q / kk * kk + q % kk = q by rw [Nat.mul_comm]; exact Nat.div_add_mod q kk, List.getElem?_eq_getElem hq] at h1
    injection h1 with h1; rw [h1]; exact h2
  have hsrc : Src P kk T (act.eval y) ys.length (us.take (m * kk)) w := by
    rw [hv, hml]
    cases h with
    | own hρ hn' =>
      rw [e1] at hρ
      injection hρ with e2 e3 e4
      subst e2 e3 e4
      have hl : (us.take (m * kk)).length = m * kk := by rw [g2.1, hml]
      rcases Nat.eq_zero_or_pos ys0.length with h0 | h0
      · have hm0 : m = 0 := by omega
        subst hm0
        have hn0 : us.take (0 * kk) = [] := by simp
        rw [hn0]
        cases a with
        | none => exact Src.ofNil w S.ht cap
        | some ad => exact Src.ofSlice w S.ht ad 0 cap [] (by simp) (fun j u hu => by simp at hu) (by simp)
      · obtain ⟨b, rfl, cur, h6, h7, h8⟩ := h5 h0
        refine Src.ofSlice w S.ht ⟨b, 0, none⟩ m cap _ hl (fun j u hu => ?_) hone
        rw [List.getElem?_take] at hu
        split at hu
        · rw [Addr.add_mid, Nat.zero_add]; exact row_cell h6 h8 hu
        · cases hu
  rw [← hml] at hb
  obtain ⟨v', w', r1, r2, r3⟩ := append_core (ty := ty) hs hx ho hn S hsrc g2 (fun z hz' c hc => h3 z (by rw [← hys] at hz'; exact List.mem_of_mem_take hz') c hc) hb hE hH hz hh
  have hex : (execOp act.eval ⟨some d, .call { callee := .builtin .append, args := #[x, y], argTypes := #[T, T] }, ty, pos, aft, g⟩).run P w = .ok (.value v') w' := by
    simp [execOp, resolve, invoke, builtin, r1]
  unfold Oper.wp
  rw [hex, ← hml]
  exact ⟨_, r2.put (lt_of_blt hd) (r3 _ _), fun f i h => upd_other fun e => notFam_spec h e.1⟩

def byteD (c : UInt8) : D := .raw (.int .u8 (c.toNat : Int))
/-- append of a string's bytes. -/
theorem st_appendS {f j n m : Nat} {xs zs : List D} {b : ByteArray} {env' : List (Nat × AV)} {hp1 hp' : List (Nat × List AObj)} (hx : s.ev x = some (.own f j n)) (hy : s.ev y = some (.d (.raw (.string b)))) (ho : hget s.hp f j = some (.rowD E 1 xs)) (hn : n ≤ xs.length)
    (S : SlTy P T E 1 1) (hT : P.underlying T2 = some .string) (hm : b.size = m) (hb : n + m ≤ 140737488355328) (hE : killE? f s.env = some env') (hH : killH? f s.hp = some hp1) (hz : xs.take n ++ b.data.toList.map byteD = zs) (hh : hset? hp1 f j (.rowD E 1 zs) = some hp') (hd : Nat.blt d s.n = true) :
    Estep P F ⟨some d, .call { callee := .builtin .append, args := #[x, y], argTypes := #[T, T2] }, ty, pos, aft, g⟩ s ⟨s.n, (d, .own f j (n + m)) :: env', hp'⟩ (notFam f) := fun ρ act w hs => by
  have hml : (b.data.toList.map byteD).length = m := by rw [List.length_map, Array.length_toList]; exact hm
  have hsrc : Src P 1 T2 (act.eval y) (b.data.toList.map byteD).length (byteCells b) w := by
    rw [hs.raw hy, hml, ← hm]; exact Src.ofString w hT b
  have g2 : Lies D.cells 1 (RepD w (F.O ρ s.hp)) (b.data.toList.map byteD) (byteCells b) := by
    refine ⟨by rw [byteCells_length, hml, hm, Nat.mul_one], fun z hz' => ?_, fun q z hz' j c hc => ?_⟩
    · obtain ⟨_, _, rfl⟩ := List.mem_map.1 hz'; rfl
    · rw [List.getElem?_map] at hz'
      cases hq : b.data.toList[q]? with
      | none => rw [hq] at hz'; cases hz'
      | some u =>
        rw [hq] at hz'; injection hz' with hz'; subst hz'
        cases j with
        | zero =>
          simp only [byteD, D.cells] at hc
          injection hc with hc; subst hc
          refine ⟨.int .u8 u.toNat, ?_, rfl, .raw rfl⟩
          rw [Nat.mul_one, Nat.add_zero]
          unfold byteCells
          rw [List.getElem?_map, hq]; rfl
        | succ j => simp [byteD, D.cells] at hc
  rw [← hml] at hb
  obtain ⟨v', w', r1, r2, r3⟩ := append_core (ty := ty) hs hx ho hn S hsrc g2 (fun z hz' c hc => by
    obtain ⟨_, _, rfl⟩ := List.mem_map.1 hz'
    simp only [byteD, D.cells, List.mem_singleton] at hc
    rw [hc]; rfl) (by omega) hE hH hz hh
  have hex : (execOp act.eval ⟨some d, .call { callee := .builtin .append, args := #[x, y], argTypes := #[T, T2] }, ty, pos, aft, g⟩).run P w = .ok (.value v') w' := by
    simp [execOp, resolve, invoke, builtin, r1]
  unfold Oper.wp
  rw [hex, ← hml]
  exact ⟨_, r2.put (lt_of_blt hd) (r3 _ _), fun f i h => upd_other fun e => notFam_spec h e.1⟩

/-- An owned row's head. -/
theorem st_sliceO {f j n kk : Nat} {t : TypeId} {xs : List D} {hi : Operand} {kh : IntKind} {ih : Int} (h : Nat) (hx : s.ev x = some (.own f j n)) (hhi : s.ev hi = some (.d (.raw (.int kh ih)))) (hh : ih = (h : Int)) (hle : h ≤ xs.length) (ho : hget s.hp f j = some (.rowD t kk xs))
    (hT : P.underlying T = some (.slice E)) (hE : sizeTy P E kk = true) (hd : Nat.blt d s.n = true) :
    Pstep P F ⟨some d, .slice T x none (some hi) none, ty, pos, aft, g⟩ s d (.own f j h) :=
  step_val _ hd fun ρ act w hs => by
    have hr := hs.ev hx
    generalize hv : act.eval x = u at hr
    obtain ⟨us, a, cap, e1, h1, h2, h3, h4, h5⟩ := hs.rowD ho
    cases hr with
    | own hρ hn' =>
      rw [e1] at hρ
      injection hρ with e2 e3 e4
      subst e2 e3 e4
      subst hh
      refine ⟨.slice (if cap = 0 then a else a.map (·.add (0 * kk))) (h - 0) (cap - 0), by simp only [execOp, hv, Option.map_some, Option.map_none, hs.raw hhi, Sem.run_bind, run_slice_hi hT (sizeTy_spec hE) (Nat.le_trans hle h4.1), Result.andThen_ok, Sem.run_pure], ?_⟩
      have : (if cap = 0 then a else a.map (·.add (0 * kk))) = a := by
        split
        · rfl
        · cases a <;> simp [Addr.add]
      rw [this]
      exact .own e1 hle
end

end Go.Proofs.Ytjbghmlofjkcfaa
