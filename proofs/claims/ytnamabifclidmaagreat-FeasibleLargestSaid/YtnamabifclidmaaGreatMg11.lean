/- The tail of an owned row is cleared: 'clear(s[k:])'. No program in sight. -/
import Derived.Test.YtnamabifclidmaaGreatMg10
import Derived.Lib.SliceRun
namespace Go.Proofs.YtnamabifclidmaaGreat
open Go.RowKit

theorem o_clearTail {P : Program} {F : Fr} {Q : Exit → AS → Prop} {n : Nat} {env : List (Nat × AV)} {hp hp' : List (Nat × List AObj)} {ops : Array Oper} {rest : List Oper} {d d' : Nat} {T E ty ty2 : TypeId} {pos pos2 : String} {aft aft2 : Array Edge} {x lo : Operand} {α : Type} {emb : α → D}
    (l : List α) (k : Nat) {z : Value} {zd : α} {f j m : Nat} {t : TypeId} {xs : List D} {kl : IntKind} {il : Int}
    (hx : AS.ev ⟨n, env, hp⟩ x = some (.own f j m)) (hlo : AS.ev ⟨n, env, hp⟩ lo = some (.d (.raw (.int kl il)))) (ho : hget hp f j = some (.rowD t 1 xs)) (hl : xs = l.map emb) (hm : m = l.length) (hk : il = (k : Int)) (hkl : k < l.length)
    (hT : P.underlying T = some (.slice E)) (hE : sizeTy P E 1 = true) (hz : ∀ w, (zeroValue E).run P w = .ok z w) (hz1 : z.oneCell' = true) (hzc : z.cells = #[z]) (hzd : emb zd = .raw z)
    (hh : hset? hp f j (.rowD t 1 ((l.take k ++ List.replicate (l.length - k) zd).map emb)) = some hp') (hd : Nat.blt d n = true) (hd' : d' = d)
    (hK : Aops P F ops rest Q ⟨n, (d, .top) :: env, hp'⟩) :
    Aops P F ops (⟨some d, .slice T x (some lo) none none, ty, pos, aft, none⟩ :: ⟨none, .call { callee := .builtin .clear, args := #[.tmp d'], argTypes := #[T] }, ty2, pos2, aft2, none⟩ :: rest) Q ⟨n, env, hp⟩ := fun ρ act w hs => by
  subst hl hm hk hd';have hr := hs.ev hx
  generalize hv : act.eval x = u at hr
  obtain ⟨us, a, cap, e1, h1, h2, h3, h4, h5⟩ := hs.rowD ho
  cases hr with
  | own hρ hn' =>
    rw [e1] at hρ;injection hρ with e2 e3 e4
    subst e2 e3 e4;have hlen : (l.map emb).length = l.length := List.length_map _;obtain ⟨b, e5, cur, h6, h7, h8⟩ := h5 (by omega);have e5 : a = some ⟨b, 0, none⟩ := e5;subst e5;have hcap := h4.1;have hne : ¬ cap = k := by omega
    have hus : us.length = l.length * 1 := by rw [← hlen]; exact h2.1
    have hcl : us.length ≤ cur.toList.length := by rw [← h8, List.length_take]; omega
    have h6' : w.heap[b]? = some (.cells cur.toList.toArray t (0, 0)) := by simpa using h6
    refine wpListIn_plain rfl fun K1 hk1 => wpIn_of_wp rfl ?_;unfold Oper.wp
    have hex : (execOp act.eval ⟨some d', .slice T x (some lo) none none, ty, pos, aft, none⟩).run P w = .ok (.value (.slice (some ⟨b, k * 1, none⟩) (l.length - k) (cap - k))) w := by
      simp only [execOp, hv, Option.map_some, Option.map_none, hs.raw hlo, Sem.run_bind, run_slice_lo hT (ZbQ hE) (Nat.le_of_lt hkl), Result.andThen_ok, Sem.run_pure, if_neg hne, Addr.add, Nat.zero_add]
      by_cases h0 : k * 1 = 0
      · rw [if_pos h0, h0]
      · rw [if_neg h0]
    rw [hex];refine hk1 _ _ ?_;have hs1 : SR F ⟨n, (d', .top) :: env, hp⟩ ρ (act.put (some d') (.slice (some ⟨b, k * 1, none⟩) (l.length - k) (cap - k))) w := hs.put (Za9 hd) .top;have hev : (act.put (some d') (.slice (some ⟨b, k * 1, none⟩) (l.length - k) (cap - k))).eval (.tmp d') = .slice (some ⟨b, k * 1, none⟩) (l.length - k) (cap - k) := getD_put_same (by rw [hs.size]; exact Za9 hd);refine wpListIn_plain rfl fun K2 hk2 => wpIn_of_wp rfl ?_;unfold Oper.wp
    have hcell : ∀ j, j < l.length - k → (w.cell? ⟨b, k * 1 + j, none⟩).isSome = true := fun j hj => by
      have hjl : k * 1 + j < us.length := by omega
      rw [row_cell h6 h8 (List.getElem?_eq_getElem hjl)]; rfl
    have hfr : ∀ j, j < l.length - k → w.frozen? ⟨b, k * 1 + j, none⟩ = false := fun j hj => by
      simp only [World.frozen?, h6]; simp
    have hrun := Lib.run_clear_slice (P := P) w T E ty2 z hT hz hzc hz1 b (k * 1) (l.length - k) (cap - k) (by omega) hcell hfr
    have hex2 : (execOp (act.put (some d') (.slice (some ⟨b, k * 1, none⟩) (l.length - k) (cap - k))).eval ⟨none, .call { callee := .builtin .clear, args := #[.tmp d'], argTypes := #[T] }, ty2, pos2, aft2, none⟩).run P w = .ok (.value (.tuple #[])) (w.setCells b (k * 1) (List.replicate (l.length - k) z)) := by
      have hev' := hev
      generalize hV : (Value.slice (some ⟨b, k * 1, none⟩) (l.length - k) (cap - k)) = V at hev' hrun
      simp [execOp, resolve, invoke, builtin, hV, hev', hrun]
    rw [hex2];refine hk2 _ _ ?_;obtain ⟨g1, g2, g3, g4⟩ := Zck (b := b) (List.replicate (l.length - k) z) (k * 1) w;refine hK ρ _ _ ?_;have hlz : (List.replicate (l.length - k) z).length = l.length - k := List.length_replicate;refine hs1.write f j _ _ ho (hset?_spec hh) g1 g2 g3 g4 (fun b' hb' => ZbW _ _ _ _ (fun e => hb' (by rw [e1, e]; rfl))) (fun _ _ e => by cases e) (fun hrep => ?_) (Nat.le_of_eq (setCells_drawn _ _ _ _).symm)
    have hrepD : ∀ c u, RepD w (F.O ρ hp) c u → RepD (w.setCells b (k * 1) (List.replicate (l.length - k) z)) (F.O ρ hp') c u := fun c u hr => by
      have := hrep (.d c) u (.d hr)
      cases this with | d h => exact h
    have hnl : ((l.take k ++ List.replicate (l.length - k) zd).map emb).length = l.length := by simp; omega
    have hset : setL us (k * 1) (List.replicate (l.length - k) z) = us.take k ++ List.replicate (l.length - k) z := by
      apply List.ext_getElem?
      intro i;rw [setL_get _ _ _ (by omega), hlz, List.getElem?_append, List.length_take]
      by_cases hi : i < k
      · rw [if_neg (by omega), if_pos (by omega), List.getElem?_take_of_lt hi]
      · rw [if_neg (c := i < min k us.length) (by omega)]
        by_cases hi2 : i < l.length
        · rw [if_pos (by omega)]; congr 1; omega
        · rw [if_neg (by omega), List.getElem?_eq_none (by omega), List.getElem?_eq_none (by rw [hlz]; omega)]
    rw [e1];refine ⟨setL us (k * 1) (List.replicate (l.length - k) z), ?_, ⟨?_, fun x' hx' => ?_, fun i' x' hx' q c hc => ?_⟩, fun x' hx' c hc => ?_⟩
    · refine ⟨by rw [ZbM, hnl, hus], .inr ⟨b, cap, (setL cur.toList (k * 1) (List.replicate (l.length - k) z)).toArray, by rw [hnl, hlen], by omega, ?_, by rw [hnl]; omega, h4.2.1, by simp [ZbM, h7], ?_⟩⟩
      · simpa using ZbX (fr := (0, 0)) (List.replicate (l.length - k) z) cur.toList (k * 1) w h6'
      · rw [hnl];show (setL cur.toList (k * 1) (List.replicate (l.length - k) z)).take (l.length * 1) = _;rw [← hus, setL_take _ _ _ _ (by omega) hcl];have : cur.toList.take us.length = us := by rw [hus, ← hlen]; exact h8
        rw [this]
    · rw [ZbM, hnl, hus]
    · obtain ⟨y, hy, rfl⟩ := List.mem_map.1 hx';rcases List.mem_append.1 hy with hy | hy
      · exact h2.2.1 _ (List.mem_map.2 ⟨y, List.mem_of_mem_take hy, rfl⟩)
      · rw [List.eq_of_mem_replicate hy, hzd]; rfl
    · have hc1 : x'.cells.length = 1 := by
        obtain ⟨y, hy, rfl⟩ := List.mem_map.1 (List.mem_of_getElem? hx');rcases List.mem_append.1 hy with hy | hy
        · exact h2.2.1 _ (List.mem_map.2 ⟨y, List.mem_of_mem_take hy, rfl⟩)
        · rw [List.eq_of_mem_replicate hy, hzd]; rfl
      have hq0 : q = 0 := by have := (List.getElem?_eq_some_iff.1 hc).1; omega
      subst hq0;rw [hset];rw [List.getElem?_map] at hx'
      by_cases hi : i' < k
      · rw [List.getElem?_append_left (by rw [List.length_take]; omega), List.getElem?_take_of_lt hi] at hx';have hx2 : (l.map emb)[i']? = some x' := by rw [List.getElem?_map]; exact hx'
        obtain ⟨u, a1, a2, a3⟩ := h2.2.2 i' x' hx2 0 c hc;refine ⟨u, ?_, a2, hrepD _ _ a3⟩;rw [List.getElem?_append_left (by rw [List.length_take]; omega), List.getElem?_take_of_lt (by omega)];exact a1
      · rw [List.getElem?_append_right (by rw [List.length_take]; omega), List.length_take, Nat.min_eq_left (by omega)] at hx'
        have hir : i' - k < l.length - k := by
          have : ((List.replicate (l.length - k) zd)[i' - k]?).isSome := by
            cases hq : (List.replicate (l.length - k) zd)[i' - k]? with
            | none => rw [hq] at hx'; cases hx'
            | some _ => rfl
          simpa using this
        rw [List.getElem?_replicate, if_pos hir] at hx';injection hx' with hx'
        rw [hzd] at hx';subst hx';simp only [D.cells, List.getElem?_cons_zero, Option.some.injEq] at hc;subst hc;refine ⟨z, ?_, hz1, .raw hz1⟩;rw [List.getElem?_append_right (by rw [List.length_take]; omega), List.length_take, List.getElem?_replicate, if_pos (by omega)]
    · obtain ⟨y, hy, rfl⟩ := List.mem_map.1 hx';rcases List.mem_append.1 hy with hy | hy
      · exact h3 _ (List.mem_map.2 ⟨y, List.mem_of_mem_take hy, rfl⟩) c hc
      · rw [List.eq_of_mem_replicate hy, hzd] at hc;simp only [D.cells, List.mem_singleton] at hc;subst hc; rfl
end Go.Proofs.YtnamabifclidmaaGreat
/- Bits of 32-bit numbers. No program in sight. -/
namespace Go.Proofs.YtnamabifclidmaaGreat

theorem u32_bits : IntKind.u32.bits = 32 := rfl
theorem ofInt_nat (n : Nat) : BitVec.ofInt 32 (n : Int) = BitVec.ofNat 32 n := by simp
theorem u32_wrap {n : Nat} (h : n < 4294967296) : IntKind.u32.wrap (n : Int) = (n : Int) := IntWalk.u32_in _ (by omega)
theorem bv_lt (x : BitVec 32) : x.toNat < 4294967296 := x.isLt
theorem orU {a b : Nat} (ha : a < 4294967296) (hb : b < 4294967296) : bitsOf .or .u32 (a : Int) (b : Int) = ((a ||| b : Nat) : Int) := by
  show IntKind.u32.wrap ((BitVec.ofInt 32 (a : Int) ||| BitVec.ofInt 32 (b : Int)).toNat : Int) = _;rw [ofInt_nat, ofInt_nat, u32_wrap (bv_lt _), BitVec.toNat_or, BitVec.toNat_ofNat, BitVec.toNat_ofNat, Nat.mod_eq_of_lt ha, Nat.mod_eq_of_lt hb]
def anU (a b : Nat) : Nat := (BitVec.ofNat 32 a &&& ~~~(BitVec.ofNat 32 b)).toNat
theorem andNotU (a b : Nat) : bitsOf .andNot .u32 (a : Int) (b : Int) = ((anU a b : Nat) : Int) := by
  show IntKind.u32.wrap ((BitVec.ofInt 32 (a : Int) &&& ~~~(BitVec.ofInt 32 (b : Int))).toNat : Int) = _;rw [ofInt_nat, ofInt_nat, u32_wrap (bv_lt _)]; rfl
theorem anU_bit (a b j : Nat) (ha : a < 4294967296) : (anU a b).testBit j = (a.testBit j && !(b.testBit j)) := by
  unfold anU;rw [BitVec.testBit_toNat];rw [BitVec.getLsbD_and, BitVec.getLsbD_not, BitVec.getLsbD_ofNat, BitVec.getLsbD_ofNat]
  by_cases hj : j < 32
  · simp [hj]
  · have : a.testBit j = false := Nat.testBit_lt_two_pow (Nat.lt_of_lt_of_le ha (by
      have : (2 : Nat) ^ 32 ≤ 2 ^ j := Nat.pow_le_pow_right (by omega) (by omega)
      exact this))
    simp [hj, this]
theorem anU_zero {a b : Nat} (ha : a < 4294967296) : anU a b = 0 ↔ ∀ j, a.testBit j = true → b.testBit j = true := by
  constructor
  · intro h j hj;have := anU_bit a b j ha;rw [h, Nat.zero_testBit, hj] at this
    simpa using this
  · intro h
    apply Nat.eq_of_testBit_eq
    intro j;rw [anU_bit a b j ha, Nat.zero_testBit]
    cases ha : a.testBit j with
    | false => rfl
    | true => rw [h j ha]; rfl
theorem shrU (a i : Nat) (hi : i ≤ 32) : ((a : Int)).fdiv (2 ^ (min ((i : Int)).toNat IntKind.u32.bits)) = ((a >>> i : Nat) : Int) := by
  rw [u32_bits, Int.toNat_natCast, Nat.min_eq_left hi, Int.fdiv_eq_ediv_of_nonneg _ (by exact_mod_cast Nat.zero_le _), Nat.shiftRight_eq_div_pow]
  norm_cast
theorem and1U {a : Nat} (ha : a < 4294967296) : bitsOf .and .u32 (a : Int) 1 = ((a % 2 : Nat) : Int) := by
  show IntKind.u32.wrap ((BitVec.ofInt 32 (a : Int) &&& BitVec.ofInt 32 1).toNat : Int) = _;rw [ofInt_nat, u32_wrap (bv_lt _), BitVec.toNat_and, BitVec.toNat_ofNat, Nat.mod_eq_of_lt ha];have : (BitVec.ofInt 32 1).toNat = 1 := by decide
  rw [this, Nat.and_one_is_mod]
theorem shr_lt {a : Nat} (ha : a < 4294967296) (i : Nat) : a >>> i < 4294967296 := Nat.lt_of_le_of_lt (Nat.shiftRight_le _ _) ha
theorem bit_iff (a i : Nat) : ((((a >>> i) % 2 : Nat) : Int) = 1) ↔ a.testBit i = true := by
  rw [Nat.testBit_eq_decide_div_mod_eq, decide_eq_true_eq, Nat.shiftRight_eq_div_pow]; omega
theorem shl1U {i : Nat} (hi : i < 32) : IntKind.u32.wrap (1 * 2 ^ (min ((i : Int)).toNat IntKind.u32.bits)) = ((1 <<< i : Nat) : Int) := by
  rw [u32_bits, Int.toNat_natCast, Nat.min_eq_left (by omega), Int.one_mul, Nat.shiftLeft_eq, Nat.one_mul];have h1 : (2 : Nat) ^ i < 4294967296 := Nat.lt_of_lt_of_le (Nat.pow_lt_pow_right (by omega) hi) (Nat.le_refl _);have h2 := u32_wrap h1;rw [← h2]; norm_cast
theorem shl_lt {i : Nat} (hi : i < 32) : 1 <<< i < 4294967296 := by
  rw [Nat.shiftLeft_eq, Nat.one_mul]; exact Nat.lt_of_lt_of_le (Nat.pow_lt_pow_right (by omega) hi) (Nat.le_refl _)
theorem or_lt {a b : Nat} (ha : a < 4294967296) (hb : b < 4294967296) : a ||| b < 4294967296 := Nat.or_lt_two_pow (n := 32) ha hb
end Go.Proofs.YtnamabifclidmaaGreat
/- Names of owned objects: an object's own value, known by name, so that references survive calls as plain values. No program in sight. -/
namespace Go.Proofs.YtnamabifclidmaaGreat
open Go.RowKit

theorem SR.ghost {F : Fr} {s : AS} {ρ : Nat → Nat → Value} {act : Act} {w : World} (h : SR F s ρ act w) (g f i : Nat) (hne : Nat.beq f g = false) {env' : List (Nat × AV)} {hp1 hp' : Hp} (hE : killE? g s.env = some env') (hH : killH? g s.hp = some hp1) (hn : hnew? hp1 g (.addr f i (ρ f i)) = some hp') :
    SR F ⟨s.n, env', hp'⟩ (upd ρ g 0 .nilFunc) act w := by
  obtain ⟨h1, h2⟩ := hnew?_spec hn
  refine h.set g 0 (.addr f i (ρ f i)) .nilFunc hE hH h1 (fun t cs hh => ?_) (fun b hb => by cases hb) rfl rfl rfl (Nat.le_refl _) (fun _ _ _ => rfl) fun _ => ⟨rfl, ZbU fun e => (Nat.ne_of_beq_eq_false hne) e.1⟩
  obtain ⟨_, k2⟩ := killH?_spec hH;obtain ⟨o, ho, _⟩ := k2 _ _ _ hh;rw [h2] at ho; cases ho
section
variable {P : Program} {F : Fr} {Q : Exit → AS → Prop} {c : Code} {ops : Array Oper} {l : List Oper} {n : Nat} {env env' : List (Nat × AV)} {hp hp1 : Hp}
theorem a_ghostM (g f i : Nat) {bs : Option (List Nat × Nat)} {es : List (D × D)} (ho : hget hp f i = some (.map bs es)) (hne : Nat.beq f g = false) (hE : killE? g env = some env') (hH : killH? g hp = some hp1) (hz : hfam hp1 g = none)
    (h : ∀ m : Nat, Awp P F c Q ⟨n, env', (g, [.addr f i (.map (some m))]) :: hp1⟩) : Awp P F c Q ⟨n, env, hp⟩ := fun ρ act w hs => by
  obtain ⟨m, _, _, e, _⟩ := hs.heap.sim f i _ ho;exact h m _ act w (hs.ghost g f i hne hE hH (by rw [e]; unfold hnew?; rw [hz]))
theorem o_ghostM (g f i : Nat) {bs : Option (List Nat × Nat)} {es : List (D × D)} (ho : hget hp f i = some (.map bs es)) (hne : Nat.beq f g = false) (hE : killE? g env = some env') (hH : killH? g hp = some hp1) (hz : hfam hp1 g = none)
    (h : ∀ m : Nat, Aops P F ops l Q ⟨n, env', (g, [.addr f i (.map (some m))]) :: hp1⟩) : Aops P F ops l Q ⟨n, env, hp⟩ := fun ρ act w hs => by
  obtain ⟨m, _, _, e, _⟩ := hs.heap.sim f i _ ho;exact h m _ act w (hs.ghost g f i hne hE hH (by rw [e]; unfold hnew?; rw [hz]))
theorem SR.toRaw {s : AS} {ρ : Nat → Nat → Value} {act : Act} {w : World} (hs : SR F s ρ act w) (t g j : Nat) {f i : Nat} {v : Value} (ht : get s.env t = some (.map f i) ∨ get s.env t = some (.ptr f i 0)) (hg : hget s.hp g j = some (.addr f i v)) : SR F ⟨s.n, (t, .d (.raw v)) :: s.env, s.hp⟩ ρ act w := by
  obtain ⟨_, hv⟩ := hs.heap.sim g j _ hg;refine ⟨hs.size, hs.defs, fun t' a ha => ?_, hs.heap⟩;rcases Zbo ha with ⟨rfl, rfl⟩ | ⟨_, ha⟩
  · rcases ht with ht | ht
    · have hr := hs.env t _ ht
      generalize act.tmps.getD t undef = x at hr
      cases hr with
      | map h => rw [h] at hv; subst hv; exact .d (.raw rfl)
    · have hr := hs.env t _ ht
      generalize act.tmps.getD t undef = x at hr
      cases hr with
      | ptr h => rw [h] at hv; subst hv; exact .d (.raw rfl)
  · exact hs.env t' a ha
theorem SR.rawMap {s : AS} {ρ : Nat → Nat → Value} {act : Act} {w : World} (hs : SR F s ρ act w) (t g j : Nat) {f i m : Nat} (ht : get s.env t = some (.d (.raw (.map (some m))))) (hg : hget s.hp g j = some (.addr f i (.map (some m)))) : SR F ⟨s.n, (t, .map f i) :: s.env, s.hp⟩ ρ act w := by
  obtain ⟨_, hv⟩ := hs.heap.sim g j _ hg;refine ⟨hs.size, hs.defs, fun t' a ha => ?_, hs.heap⟩;rcases Zbo ha with ⟨rfl, rfl⟩ | ⟨_, ha⟩
  · have hr := hs.env t _ ht
    generalize act.tmps.getD t undef = x at hr
    cases hr with
    | d h => cases h with | raw _ => exact .map hv
  · exact hs.env t' a ha
theorem a_toRaw (t g j : Nat) {f i : Nat} {v : Value} (ht : get env t = some (.map f i) ∨ get env t = some (.ptr f i 0)) (hg : hget hp g j = some (.addr f i v)) (h : Awp P F c Q ⟨n, (t, .d (.raw v)) :: env, hp⟩) : Awp P F c Q ⟨n, env, hp⟩ := fun _ _ _ hs => h _ _ _ (hs.toRaw t g j ht hg)
theorem o_toRaw (t g j : Nat) {f i : Nat} {v : Value} (ht : get env t = some (.map f i) ∨ get env t = some (.ptr f i 0)) (hg : hget hp g j = some (.addr f i v)) (h : Aops P F ops l Q ⟨n, (t, .d (.raw v)) :: env, hp⟩) : Aops P F ops l Q ⟨n, env, hp⟩ := fun _ _ _ hs => h _ _ _ (hs.toRaw t g j ht hg)
theorem o_rawMap (t g j : Nat) {f i m : Nat} (ht : get env t = some (.d (.raw (.map (some m))))) (hg : hget hp g j = some (.addr f i (.map (some m)))) (h : Aops P F ops l Q ⟨n, (t, .map f i) :: env, hp⟩) : Aops P F ops l Q ⟨n, env, hp⟩ := fun _ _ _ hs => h _ _ _ (hs.rawMap t g j ht hg)
end
end Go.Proofs.YtnamabifclidmaaGreat
/- Names of rows whose headers lie in blocks: the header is told as a plain value while the row grows. No program in sight. -/
namespace Go.Proofs.YtnamabifclidmaaGreat
open Go.RowKit

theorem SR.rawC {F : Fr} {s : AS} {ρ : Nat → Nat → Value} {act : Act} {w : World} (h : SR F s ρ act w) (g i off : Nat) {f j n N cap : Nat} {a : Option Addr} {t : TypeId} {cs cs' : List AV} {hp' : Hp} (ho : hget s.hp g i = some (.blk t cs)) (hc : cs[off]? = some (.own f j n)) (hv : ρ f j = .slice a N cap)
    (hs' : setL? cs off [.d (.raw (.slice a n cap))] = some cs') (hset : hset? s.hp g i (.blk t cs') = some hp') : SR F ⟨s.n, s.env, hp'⟩ ρ act w := by
  refine h.write g i (.blk t cs) (.blk t cs') ho (hset?_spec hset) rfl rfl rfl rfl (fun _ _ => rfl) (fun _ _ _ => ⟨_, _, rfl⟩) fun hrep => ?_;obtain ⟨b, us, e1, e2, e3, e4, e5⟩ := h.heap.sim g i _ ho;obtain ⟨s1, s2, s3⟩ := setL?_spec _ _ _ _ hs';refine ⟨b, us, e1, e2, by rw [e3, s2], fun j' c u hcj hu => ?_, e5⟩;rw [s3] at hcj
  split at hcj
  · rename_i hj
    have hjo : j' = off := by simp at hj; omega
    subst hjo
    simp at hcj; subst hcj
    have hr := e4 j' _ u hc hu
    cases hr with
    | own h _ =>
      rw [hv] at h; injection h with h1 h2 h3; subst h1 h3
      exact hrep _ _ (.d (.raw rfl))
  · exact hrep _ _ (e4 j' c u hcj hu)
theorem row_val {w : World} {O : Nat → Prop} {ρ : Nat → Nat → Value} {t : TypeId} {k : Nat} {xs : List D} {v : Value} (h : SimObj w O ρ (.rowD t k xs) v) : ∃ a cap, v = .slice a xs.length cap := by
  obtain ⟨us, h1, _⟩ := h;rcases h1.2 with ⟨e1, e2⟩ | ⟨g, cap, cur, e1, _⟩
  · exact ⟨none, 0, by rw [e1, e2]⟩
  · exact ⟨_, cap, e1⟩
section
variable {P : Program} {F : Fr} {Q : Exit → AS → Prop} {c : Code} {ops : Array Oper} {l : List Oper} {n : Nat} {env env' : List (Nat × AV)} {hp hp1 : Hp}
theorem a_ghostR (g f i : Nat) {t : TypeId} {k : Nat} {xs : List D} (ho : hget hp f i = some (.rowD t k xs)) (hne : Nat.beq f g = false) (hE : killE? g env = some env') (hH : killH? g hp = some hp1) (hz : hfam hp1 g = none)
    (h : ∀ (a : Option Addr) (cap : Nat), Awp P F c Q ⟨n, env', (g, [.addr f i (.slice a xs.length cap)]) :: hp1⟩) : Awp P F c Q ⟨n, env, hp⟩ := fun ρ act w hs => by
  obtain ⟨a, cap, e⟩ := row_val (hs.heap.sim f i _ ho);exact h a cap _ act w (hs.ghost g f i hne hE hH (by rw [e]; unfold hnew?; rw [hz]))
theorem a_rawC (gg jg g i off : Nat) {f j m N cap : Nat} {a : Option Addr} {t : TypeId} {cs cs' : List AV} {hp' : Hp} (hg : hget hp gg jg = some (.addr f j (.slice a N cap))) (ho : hget hp g i = some (.blk t cs)) (hc : cs[off]? = some (.own f j m))
    (hs' : setL? cs off [.d (.raw (.slice a m cap))] = some cs') (hset : hset? hp g i (.blk t cs') = some hp') (h : Awp P F c Q ⟨n, env, hp'⟩) : Awp P F c Q ⟨n, env, hp⟩ := fun ρ act w hs => by
  obtain ⟨_, hv⟩ := hs.heap.sim gg jg _ hg;exact h _ _ _ (hs.rawC g i off ho hc hv hs' hset)
end
section
variable {P : Program} {F : Fr} {s : AS} {d : Nat} {ty T : TypeId} {pos : String} {aft : Array Edge} {g : Option (Nat × Bool)} {x : Operand}
theorem st_loadO (gg jg : Nat) {f j off f2 j2 m N cap : Nat} {a : Option Addr} {t : TypeId} {cs : List AV} (hx : s.ev x = some (.ptr f j off)) (ho : hget s.hp f j = some (.blk t cs)) (hc : cs[off]? = some (.d (.raw (.slice a m cap)))) (hg : hget s.hp gg jg = some (.addr f2 j2 (.slice a N cap))) (hm : m ≤ N) (hT : oneTy P T = true) (hd : Nat.blt d s.n = true) :
    Zaa P F ⟨some d, .load T x, ty, pos, aft, g⟩ s d (.own f2 j2 m) := by
  have h := Zai (F := F) (ty := ty) (pos := pos) (aft := aft) (g := g) hx ho hc hT hd;refine ⟨h.1, h.2.1, fun ρ act w hs => ?_⟩;refine wp_weaken ?_ (h.2.2 ρ act w hs);rintro act' w' ⟨v, h1, h2, h3, h4, h5⟩;obtain ⟨_, hv⟩ := h3.sim gg jg _ hg
  cases h2 with
  | d h2 =>
    cases h2 with
    | raw _ => exact ⟨_, h1, .own hv hm, h3, h4, h5⟩
end
end Go.Proofs.YtnamabifclidmaaGreat
/- Deletion from a map. No program in sight. -/
namespace Go.Proofs.YtnamabifclidmaaGreat
open Go.RowKit Go.ChangeMaps

section
variable {α β : Type} [DecidableEq α]
variable {P : Program} {F : Fr} {s : AS} {K : TypeId} {eK : α → D} {kv : α → Value} {eV : β → D}
variable {ty T T2 E : TypeId} {pos : String} {aft : Array Edge} {g : Option (Nat × Bool)} {x y : Operand} {bs : Option (List Nat × Nat)}
omit [DecidableEq α] in
end
end Go.Proofs.YtnamabifclidmaaGreat
