/- The tail of an owned row is cleared: 'clear(s[k:])'. No program in sight. -/
import Derived.Test.YtnamabifclidmaaGreatMg10
import Derived.Lib.SliceRun
namespace Go.Proofs.YtnamabifclidmaaGreat
open Go.RowKit

end Go.Proofs.YtnamabifclidmaaGreat
/- Bits of 32-bit numbers. No program in sight. -/
namespace Go.Proofs.YtnamabifclidmaaGreat

theorem u32_bits : IntKind.u32.bits = 32 := rfl
theorem ofInt_nat (n : Nat) : BitVec.ofInt 32 (n : Int) = BitVec.ofNat 32 n := by simp
theorem u32_wrap {n : Nat} (h : n < 4294967296) : IntKind.u32.wrap (n : Int) = (n : Int) := IntWalk.u32_in _ (by omega)
theorem bv_lt (x : BitVec 32) : x.toNat < 4294967296 := x.isLt
theorem orU {a b : Nat} (ha : a < 4294967296) (hb : b < 4294967296) : bitsOf .or .u32 (a : Int) (b : Int) = ((a ||| b : Nat) : Int) := by
  show IntKind.u32.wrap ((BitVec.ofInt 32 (a : Int) ||| BitVec.ofInt 32 (b : Int)).toNat : Int) = _
  rw [ofInt_nat, ofInt_nat, u32_wrap (bv_lt _), BitVec.toNat_or, BitVec.toNat_ofNat, BitVec.toNat_ofNat, Nat.mod_eq_of_lt ha, Nat.mod_eq_of_lt hb]
/-- The bits of a that b lacks. -/
def anU (a b : Nat) : Nat := (BitVec.ofNat 32 a &&& ~~~(BitVec.ofNat 32 b)).toNat
theorem andNotU (a b : Nat) : bitsOf .andNot .u32 (a : Int) (b : Int) = ((anU a b : Nat) : Int) := by
  show IntKind.u32.wrap ((BitVec.ofInt 32 (a : Int) &&& ~~~(BitVec.ofInt 32 (b : Int))).toNat : Int) = _
  rw [ofInt_nat, ofInt_nat, u32_wrap (bv_lt _)]; rfl
theorem shrU (a i : Nat) (hi : i ≤ 32) : ((a : Int)).fdiv (2 ^ (min ((i : Int)).toNat IntKind.u32.bits)) = ((a >>> i : Nat) : Int) := by
  rw [u32_bits, Int.toNat_natCast, Nat.min_eq_left hi, Int.fdiv_eq_ediv_of_nonneg _ (by exact_mod_cast Nat.zero_le _), Nat.shiftRight_eq_div_pow]
  norm_cast
theorem and1U {a : Nat} (ha : a < 4294967296) : bitsOf .and .u32 (a : Int) 1 = ((a % 2 : Nat) : Int) := by
  show IntKind.u32.wrap ((BitVec.ofInt 32 (a : Int) &&& BitVec.ofInt 32 1).toNat : Int) = _
  rw [ofInt_nat, u32_wrap (bv_lt _), BitVec.toNat_and, BitVec.toNat_ofNat, Nat.mod_eq_of_lt ha]
  have : (BitVec.ofInt 32 1).toNat = 1 := by decide
  rw [this, Nat.and_one_is_mod]
theorem shr_lt {a : Nat} (ha : a < 4294967296) (i : Nat) : a >>> i < 4294967296 := Nat.lt_of_le_of_lt (Nat.shiftRight_le _ _) ha
theorem bit_iff (a i : Nat) : ((((a >>> i) % 2 : Nat) : Int) = 1) ↔ a.testBit i = true := by
  rw [Nat.testBit_eq_decide_div_mod_eq, decide_eq_true_eq, Nat.shiftRight_eq_div_pow]; omega
theorem shl1U {i : Nat} (hi : i < 32) : IntKind.u32.wrap (1 * 2 ^ (min ((i : Int)).toNat IntKind.u32.bits)) = ((1 <<< i : Nat) : Int) := by
  rw [u32_bits, Int.toNat_natCast, Nat.min_eq_left (by omega), Int.one_mul, Nat.shiftLeft_eq, Nat.one_mul]
  have h1 : (2 : Nat) ^ i < 4294967296 := Nat.lt_of_lt_of_le (Nat.pow_lt_pow_right (by omega) hi) (Nat.le_refl _)
  have h2 := u32_wrap h1
  rw [← h2]; norm_cast
theorem shl_lt {i : Nat} (hi : i < 32) : 1 <<< i < 4294967296 := by
  rw [Nat.shiftLeft_eq, Nat.one_mul]; exact Nat.lt_of_lt_of_le (Nat.pow_lt_pow_right (by omega) hi) (Nat.le_refl _)
theorem or_lt {a b : Nat} (ha : a < 4294967296) (hb : b < 4294967296) : a ||| b < 4294967296 := Nat.or_lt_two_pow (n := 32) ha hb
end Go.Proofs.YtnamabifclidmaaGreat
/- Names of owned objects: an object's own value, known by name, so that references survive calls as plain values. No program in sight. -/
namespace Go.Proofs.YtnamabifclidmaaGreat
open Go.RowKit

/-- The value of an owned object gets a name. -/
theorem SR.ghost {F : Fr} {s : AS} {ρ : Nat → Nat → Value} {act : Act} {w : World} (h : SR F s ρ act w) (g f i : Nat) (hne : Nat.beq f g = false) {env' : List (Nat × AV)} {hp1 hp' : Hp} (hE : killE? g s.env = some env') (hH : killH? g s.hp = some hp1) (hn : hnew? hp1 g (.addr f i (ρ f i)) = some hp') :
    SR F ⟨s.n, env', hp'⟩ (upd ρ g 0 .nilFunc) act w := by
  obtain ⟨h1, h2⟩ := hnew?_spec hn
  refine h.set g 0 (.addr f i (ρ f i)) .nilFunc hE hH h1 (fun t cs hh => ?_) (fun b hb => by cases hb) rfl rfl rfl (Nat.le_refl _) (fun _ _ _ => rfl) fun _ => ⟨rfl, upd_other fun e => (Nat.ne_of_beq_eq_false hne) e.1⟩
  obtain ⟨_, k2⟩ := killH?_spec hH
  obtain ⟨o, ho, _⟩ := k2 _ _ _ hh
  rw [h2] at ho; cases ho
section
variable {P : Program} {F : Fr} {Q : Exit → AS → Prop} {c : Code} {ops : Array Oper} {l : List Oper} {n : Nat} {env env' : List (Nat × AV)} {hp hp1 : Hp}
theorem a_ghostM (g f i : Nat) {bs : Option (List Nat × Nat)} {es : List (D × D)} (ho : hget hp f i = some (.map bs es)) (hne : Nat.beq f g = false) (hE : killE? g env = some env') (hH : killH? g hp = some hp1) (hz : hfam hp1 g = none)
    (h : ∀ m : Nat, Awp P F c Q ⟨n, env', (g, [.addr f i (.map (some m))]) :: hp1⟩) : Awp P F c Q ⟨n, env, hp⟩ := fun ρ act w hs => by
  obtain ⟨m, _, _, e, _⟩ := hs.heap.sim f i _ ho
  exact h m _ act w (hs.ghost g f i hne hE hH (by rw [e]; unfold hnew?; rw [hz]))
theorem o_ghostM (g f i : Nat) {bs : Option (List Nat × Nat)} {es : List (D × D)} (ho : hget hp f i = some (.map bs es)) (hne : Nat.beq f g = false) (hE : killE? g env = some env') (hH : killH? g hp = some hp1) (hz : hfam hp1 g = none)
    (h : ∀ m : Nat, Aops P F ops l Q ⟨n, env', (g, [.addr f i (.map (some m))]) :: hp1⟩) : Aops P F ops l Q ⟨n, env, hp⟩ := fun ρ act w hs => by
  obtain ⟨m, _, _, e, _⟩ := hs.heap.sim f i _ ho
  exact h m _ act w (hs.ghost g f i hne hE hH (by rw [e]; unfold hnew?; rw [hz]))
/-- A reference to the object, as a plain value, and back. -/
theorem SR.toRaw {s : AS} {ρ : Nat → Nat → Value} {act : Act} {w : World} (hs : SR F s ρ act w) (t g j : Nat) {f i : Nat} {v : Value} (ht : get s.env t = some (.map f i) ∨ get s.env t = some (.ptr f i 0)) (hg : hget s.hp g j = some (.addr f i v)) : SR F ⟨s.n, (t, .d (.raw v)) :: s.env, s.hp⟩ ρ act w := by
  obtain ⟨_, hv⟩ := hs.heap.sim g j _ hg
  refine ⟨hs.size, hs.defs, fun t' a ha => ?_, hs.heap⟩
  rcases get_cons ha with ⟨rfl, rfl⟩ | ⟨_, ha⟩
  · rcases ht with ht | ht
    · have hr := hs.env t _ ht
      generalize act.tmps.getD t undef = x at hr
      cases hr with
      | map h => rw [h] at hv; subst hv; exact .d (.raw rfl)
    · have hr := hs.env t _ ht
      generalize act.tmps.getD t undef = x at hr
      cases hr with
      | ptr h => rw [h] at hv; subst hv; exact .d (.raw rfl)
  · exact hs.env t' a ha
theorem SR.rawMap {s : AS} {ρ : Nat → Nat → Value} {act : Act} {w : World} (hs : SR F s ρ act w) (t g j : Nat) {f i m : Nat} (ht : get s.env t = some (.d (.raw (.map (some m))))) (hg : hget s.hp g j = some (.addr f i (.map (some m)))) : SR F ⟨s.n, (t, .map f i) :: s.env, s.hp⟩ ρ act w := by
  obtain ⟨_, hv⟩ := hs.heap.sim g j _ hg
  refine ⟨hs.size, hs.defs, fun t' a ha => ?_, hs.heap⟩
  rcases get_cons ha with ⟨rfl, rfl⟩ | ⟨_, ha⟩
  · have hr := hs.env t _ ht
    generalize act.tmps.getD t undef = x at hr
    cases hr with
    | d h => cases h with | raw _ => exact .map hv
  · exact hs.env t' a ha
theorem a_toRaw (t g j : Nat) {f i : Nat} {v : Value} (ht : get env t = some (.map f i) ∨ get env t = some (.ptr f i 0)) (hg : hget hp g j = some (.addr f i v)) (h : Awp P F c Q ⟨n, (t, .d (.raw v)) :: env, hp⟩) : Awp P F c Q ⟨n, env, hp⟩ := fun _ _ _ hs => h _ _ _ (hs.toRaw t g j ht hg)
theorem o_toRaw (t g j : Nat) {f i : Nat} {v : Value} (ht : get env t = some (.map f i) ∨ get env t = some (.ptr f i 0)) (hg : hget hp g j = some (.addr f i v)) (h : Aops P F ops l Q ⟨n, (t, .d (.raw v)) :: env, hp⟩) : Aops P F ops l Q ⟨n, env, hp⟩ := fun _ _ _ hs => h _ _ _ (hs.toRaw t g j ht hg)
theorem o_rawMap (t g j : Nat) {f i m : Nat} (ht : get env t = some (.d (.raw (.map (some m))))) (hg : hget hp g j = some (.addr f i (.map (some m)))) (h : Aops P F ops l Q ⟨n, (t, .map f i) :: env, hp⟩) : Aops P F ops l Q ⟨n, env, hp⟩ := fun _ _ _ hs => h _ _ _ (hs.rawMap t g j ht hg)
end
end Go.Proofs.YtnamabifclidmaaGreat
/- Names of rows whose headers lie in blocks: the header is told as a plain value while the row grows. No program in sight. -/
namespace Go.Proofs.YtnamabifclidmaaGreat
open Go.RowKit

theorem SR.rawC {F : Fr} {s : AS} {ρ : Nat → Nat → Value} {act : Act} {w : World} (h : SR F s ρ act w) (g i off : Nat) {f j n N cap : Nat} {a : Option Addr} {t : TypeId} {cs cs' : List AV} {hp' : Hp} (ho : hget s.hp g i = some (.blk t cs)) (hc : cs[off]? = some (.own f j n)) (hv : ρ f j = .slice a N cap)
    (hs' : setL? cs off [.d (.raw (.slice a n cap))] = some cs') (hset : hset? s.hp g i (.blk t cs') = some hp') : SR F ⟨s.n, s.env, hp'⟩ ρ act w := by
  refine h.write g i (.blk t cs) (.blk t cs') ho (hset?_spec hset) rfl rfl rfl rfl (fun _ _ => rfl) (fun _ _ _ => ⟨_, _, rfl⟩) fun hrep => ?_
  obtain ⟨b, us, e1, e2, e3, e4, e5⟩ := h.heap.sim g i _ ho
  obtain ⟨s1, s2, s3⟩ := setL?_spec _ _ _ _ hs'
  refine ⟨b, us, e1, e2, by rw [e3, s2], fun j' c u hcj hu => ?_, e5⟩
  rw [s3] at hcj
  split at hcj
  · rename_i hj
    have hjo : j' = off := by simp at hj; omega
    subst hjo
    simp at hcj; subst hcj
    have hr := e4 j' _ u hc hu
    cases hr with
    | own h _ =>
      rw [hv] at h; injection h with h1 h2 h3; subst h1 h3
      exact hrep _ _ (.d (.raw rfl))
  · exact hrep _ _ (e4 j' c u hcj hu)
theorem row_val {w : World} {O : Nat → Prop} {ρ : Nat → Nat → Value} {t : TypeId} {k : Nat} {xs : List D} {v : Value} (h : SimObj w O ρ (.rowD t k xs) v) : ∃ a cap, v = .slice a xs.length cap := by
  obtain ⟨us, h1, _⟩ := h
  rcases h1.2 with ⟨e1, e2⟩ | ⟨g, cap, cur, e1, _⟩
  · exact ⟨none, 0, by rw [e1, e2]⟩
  · exact ⟨_, cap, e1⟩
section
variable {P : Program} {F : Fr} {Q : Exit → AS → Prop} {c : Code} {ops : Array Oper} {l : List Oper} {n : Nat} {env env' : List (Nat × AV)} {hp hp1 : Hp}
theorem a_ghostR (g f i : Nat) {t : TypeId} {k : Nat} {xs : List D} (ho : hget hp f i = some (.rowD t k xs)) (hne : Nat.beq f g = false) (hE : killE? g env = some env') (hH : killH? g hp = some hp1) (hz : hfam hp1 g = none)
    (h : ∀ (a : Option Addr) (cap : Nat), Awp P F c Q ⟨n, env', (g, [.addr f i (.slice a xs.length cap)]) :: hp1⟩) : Awp P F c Q ⟨n, env, hp⟩ := fun ρ act w hs => by
  obtain ⟨a, cap, e⟩ := row_val (hs.heap.sim f i _ ho)
  exact h a cap _ act w (hs.ghost g f i hne hE hH (by rw [e]; unfold hnew?; rw [hz]))
theorem a_rawC (gg jg g i off : Nat) {f j m N cap : Nat} {a : Option Addr} {t : TypeId} {cs cs' : List AV} {hp' : Hp} (hg : hget hp gg jg = some (.addr f j (.slice a N cap))) (ho : hget hp g i = some (.blk t cs)) (hc : cs[off]? = some (.own f j m))
    (hs' : setL? cs off [.d (.raw (.slice a m cap))] = some cs') (hset : hset? hp g i (.blk t cs') = some hp') (h : Awp P F c Q ⟨n, env, hp'⟩) : Awp P F c Q ⟨n, env, hp⟩ := fun ρ act w hs => by
  obtain ⟨_, hv⟩ := hs.heap.sim gg jg _ hg
  exact h _ _ _ (hs.rawC g i off ho hc hv hs' hset)
end
section
variable {P : Program} {F : Fr} {s : AS} {d : Nat} {ty T : TypeId} {pos : String} {aft : Array Edge} {g : Option (Nat × Bool)} {x : Operand}
/-- A header that was told as a plain value is loaded as the row's. -/
theorem st_loadO (gg jg : Nat) {f j off f2 j2 m N cap : Nat} {a : Option Addr} {t : TypeId} {cs : List AV} (hx : s.ev x = some (.ptr f j off)) (ho : hget s.hp f j = some (.blk t cs)) (hc : cs[off]? = some (.d (.raw (.slice a m cap)))) (hg : hget s.hp gg jg = some (.addr f2 j2 (.slice a N cap))) (hm : m ≤ N) (hT : oneTy P T = true) (hd : Nat.blt d s.n = true) :
    Pstep P F ⟨some d, .load T x, ty, pos, aft, g⟩ s d (.own f2 j2 m) := by
  have h := st_loadP (F := F) (ty := ty) (pos := pos) (aft := aft) (g := g) hx ho hc hT hd
  refine ⟨h.1, h.2.1, fun ρ act w hs => ?_⟩
  refine wp_weaken ?_ (h.2.2 ρ act w hs)
  rintro act' w' ⟨v, h1, h2, h3, h4, h5⟩
  obtain ⟨_, hv⟩ := h3.sim gg jg _ hg
  cases h2 with
  | d h2 =>
    cases h2 with
    | raw _ => exact ⟨_, h1, .own hv hm, h3, h4, h5⟩
end
end Go.Proofs.YtnamabifclidmaaGreat
/- Deletion from a map. No program in sight. -/
namespace Go.Proofs.YtnamabifclidmaaGreat
open Go.RowKit Go.ChangeMaps

def mdel {α β : Type} [DecidableEq α] (m : List (α × β)) (a : α) : List (α × β) := m.eraseIdx (mix m a)
theorem map_del {α β : Type} (f : α → β) : ∀ (l : List α) (i : Nat), (l.eraseIdx i).map f = (l.map f).eraseIdx i
  | [], i => by simp
  | a :: l, 0 => rfl
  | a :: l, i + 1 => by simp [map_del f l i]
section
variable {α β : Type} [DecidableEq α]
variable {P : Program} {F : Fr} {s : AS} {K : TypeId} {eK : α → D} {kv : α → Value} {eV : β → D}
variable {ty T T2 E : TypeId} {pos : String} {aft : Array Edge} {g : Option (Nat × Bool)} {x y : Operand} {bs : Option (List Nat × Nat)}
omit [DecidableEq α] in
theorem ents_del (m : List (α × β)) (i : Nat) : ents eK eV (m.eraseIdx i) = (ents eK eV m).eraseIdx i := by
  unfold ents; exact map_del _ m i
theorem st_del (m : List (α × β)) (a : α) (b0 : β) {f i : Nat} {hp' : List (Nat × List AObj)} (hx : s.ev x = some (.map f i)) (ho : hget s.hp f i = some (.map bs (ents eK eV m))) (hy : s.ev y = some (.d (eK a))) (hT : mapTyB P T K E = true) (KT : KeyTy P K eK kv)
    (hh : hset? s.hp f i (.map none (ents eK eV (mdel m a))) = some hp') : Estep P F ⟨none, .call { callee := .builtin .delete, args := #[x, y], argTypes := #[T, T2] }, ty, pos, aft, g⟩ s ⟨s.n, s.env, hp'⟩ (fun _ _ => true) := fun ρ act w hs => by
  obtain ⟨mb, arr, c, e1, e2, h1, h2, h3, h4, h5, _⟩ := hs.mapAt hx ho
  have hk : act.eval y = kv a := (hs.repD hy).val (KT.val a)
  have fin : ∀ arr', (execOp act.eval ⟨none, .call { callee := .builtin .delete, args := #[x, y], argTypes := #[T, T2] }, ty, pos, aft, g⟩).run P w = .ok (.value (.tuple #[])) (setBlock w mb (.map arr' c)) → arr'.toList = arr.toList.eraseIdx (mix m a) →
      (⟨none, .call { callee := .builtin .delete, args := #[x, y], argTypes := #[T, T2] }, ty, pos, aft, g⟩ : Oper).wp P act w (fun act' w' => ∃ ρ', SR F ⟨s.n, s.env, hp'⟩ ρ' act' w' ∧ ∀ f i, (fun _ _ => true) f i = true → ρ' f i = ρ f i) (fun _ _ _ => False) := fun arr' hrun hcase => by
    unfold Oper.wp
    rw [hrun]
    refine ⟨ρ, hs.write f i _ (.map none (ents eK eV (mdel m a))) ho (hset?_spec hh) rfl rfl rfl setBlock_size (fun b' hb' => setBlock_other fun e => hb' (by rw [e2, e]; rfl)) (fun _ _ e => by cases e) fun hrep => ?_, fun _ _ _ => rfl⟩
    rw [e2]
    have hsz : arr.toList.length = (ents eK eV m).length := by rw [Array.length_toList]; exact h2
    refine ⟨mb, arr', c, rfl, setBlock_same h1, ?_, fun j e z he hz => ?_, ?_, ?_, fun B c' e => by cases e⟩
    · rw [← Array.length_toList, hcase]
      unfold mdel
      rw [ents_del, List.length_eraseIdx, List.length_eraseIdx, hsz]
    · rw [← Array.getElem?_toList, hcase, List.getElem?_eraseIdx] at he
      unfold mdel at hz
      rw [ents_del, List.getElem?_eraseIdx] at hz
      have hq : ∃ q : Nat, arr[q]? = some e ∧ (ents eK eV m)[q]? = some z := by
        by_cases hj : j < mix m a
        · rw [if_pos hj] at he hz; exact ⟨j, by rw [← Array.getElem?_toList]; exact he, hz⟩
        · rw [if_neg hj] at he hz; exact ⟨j + 1, by rw [← Array.getElem?_toList]; exact he, hz⟩
      obtain ⟨q, q1, q2⟩ := hq
      obtain ⟨g1, g2⟩ := h3 q e z q1 q2
      have r1 := hrep (.d z.1) _ (.d g1)
      have r2 := hrep (.d z.2) _ (.d g2)
      exact ⟨by cases r1 with | d h => exact h, by cases r2 with | d h => exact h⟩
    · rw [hcase]
      exact List.Nodup.sublist ((List.eraseIdx_sublist _ _).map _) h4
    · intro e he
      rw [hcase] at he
      exact h5 e ((List.eraseIdx_sublist _ _).mem he)
  rcases hit_get KT h2 h3 a b0 with ⟨g1, _, _, g4⟩ | ⟨j, e, g1, g2, g3, _, g5, g6, _⟩
  · refine fin arr ?_ ?_
    · simp [execOp, resolve, invoke, builtin, Builtin.delete_, run_underlying (mapTy_spec hT), e1, hk, MapKept.run_getObj_map h1, KT.check, KT.find w a _ _ (ents_keys KT h2 h3), g1, Result.andThen, MapKept.run_setObj_map _ h1, setBlock]
    · rw [List.eraseIdx_of_length_le (by rw [g4, Array.length_toList, h2]; simp [ents])]
  · refine fin (arr.eraseIdxIfInBounds j) ?_ ?_
    · simp [execOp, resolve, invoke, builtin, Builtin.delete_, run_underlying (mapTy_spec hT), e1, hk, MapKept.run_getObj_map h1, KT.check, KT.find w a _ _ (ents_keys KT h2 h3), g1, Result.andThen, MapKept.run_setObj_map _ h1, setBlock]
    · rw [Array.toList_eraseIdxIfInBounds, g5]
/-- The births are forgotten. -/
theorem SR.hide {ρ : Nat → Nat → Value} {act : Act} {w : World} (hs : SR F s ρ act w) {f i : Nat} {es : List (D × D)} {hp' : Hp} (ho : hget s.hp f i = some (.map bs es)) (hh : hset? s.hp f i (.map none es) = some hp') : SR F ⟨s.n, s.env, hp'⟩ ρ act w := by
  obtain ⟨mb, arr, c, h1, h2, h3, h4, h5, h6, _⟩ := hs.heap.sim f i _ ho
  refine hs.write f i _ (.map none es) ho (hset?_spec hh) rfl rfl rfl rfl (fun _ _ => rfl) (fun _ _ e => by cases e) fun hrep => ?_
  refine ⟨mb, arr, c, h1, h2, h3, fun i e x he hx => ?_, h5, h6, fun B c' e => by cases e⟩
  obtain ⟨g1, g2⟩ := h4 i e x he hx
  have q1 := hrep (.d x.1) _ (.d g1)
  have q2 := hrep (.d x.2) _ (.d g2)
  exact ⟨by cases q1 with | d h => exact h, by cases q2 with | d h => exact h⟩
theorem a_hide {Q : Exit → AS → Prop} {code : Code} {n : Nat} {env : List (Nat × AV)} {hp hp' : Hp} (f : Nat) {es : List (D × D)} (ho : hget hp f 0 = some (.map bs es)) (hh : hset? hp f 0 (.map none es) = some hp') (h : Awp P F code Q ⟨n, env, hp'⟩) : Awp P F code Q ⟨n, env, hp⟩ := fun ρ act w hs => h ρ act w (hs.hide ho hh)
end
end Go.Proofs.YtnamabifclidmaaGreat
