/- Struct literals. No program in sight. -/
import Derived.Test.YtneihdahboilnaaGreatMg6
import Derived.Laws.Tables
import Derived.Great.FillDense
namespace Go.Proofs.YtneihdahboilnaaGreat
open Go.RowKit
def placesOf (P : Program) (T : TypeId) : Option (List (Nat × Nat)) := match P.underlying T with
  | some (.struct fs) => fs.toList.mapM fun f => (P.info? f.type).map fun i => (f.offset,i.size)
  | _ => none
def fillA (s : AS) (pl : List (Nat × Nat)) : List AV → List (Nat × Operand) → Option (List AV)
  | cs,[] => some cs
  | cs,(i,x) :: r => match pl[i]? with
    | none => none
    | some (off,k) => match s.ev x with
      | none => none
      | some a => match a.cells? with
        | none => none
        | some l => match Nat.beq l.length k with
          | false => none
          | true => match setL? cs off l with
            | none => none
            | some cs1 => fillA s pl cs1 r
theorem fillA_spec {F : Fr} {s : AS} {ρ : Nat → Nat → Value} {act : Act} {w : World} (hs : SR F s ρ act w) {pl : List (Nat × Nat)} : ∀ (parts : List (Nat × Operand)) (cs cs' : List AV) (us : Array Value),fillA s pl cs parts = some cs' → us.size = cs.length →
    (∀ (j : Nat) c u,cs[j]? = some c → us[j]? = some u → RepA w (F.O ρ s.hp) ρ c u ∧ u.oneCell' = true) →
    ∃ us',Instr.fill (pl.toArray[·]?) us (parts.map fun p => (p.1,act.eval p.2)) = some us' ∧ us'.size = cs'.length ∧ ∀ (j : Nat) c u,cs'[j]? = some c → us'[j]? = some u → RepA w (F.O ρ s.hp) ρ c u ∧ u.oneCell' = true
  | [],cs,cs',us,h,hl,hr => by
    simp only [fillA,Option.some.injEq] at h; subst h;exact ⟨us,rfl,hl,hr⟩
  | (i,x) :: r,cs,cs',us,h,hl,hr => by
    simp only [fillA] at h
    split at h
    · cases h
    · rename_i off k hpl
      split at h
      · cases h
      · rename_i a ha
        split at h
        · cases h
        · rename_i l hlc
          split at h
          · cases h
          · rename_i hk
            have hk := Nat.eq_of_beq_eq_true hk
            split at h
            · cases h
            · rename_i cs1 hset
              obtain ⟨q1,q2⟩ := (hs.ev ha).cells hlc;obtain ⟨s1,s2,s3⟩ := setL?_spec _ _ _ _ hset;obtain ⟨g1,g2⟩ := Great.foldl_set off (act.eval x).cells.toList 0 us;have hsz : (act.eval x).cells.size = k := by rw [← hk, ← q1]; simp
              obtain ⟨us',r1,r2,r3⟩ := fillA_spec hs r cs1 cs' ((act.eval x).cells.toList.zipIdx.foldl (fun cs (x : Value × Nat) => cs.setIfInBounds (off + x.2) x.1) us) h (by rw [g1,s2]; exact hl) (fun j c u hc hu => by
                rw [g2 j] at hu;rw [s3] at hc;simp only [Nat.add_zero,Array.length_toList,hsz] at hu
                by_cases hj : off ≤ j ∧ j < off + l.length
                · rw [if_pos hj] at hc;rw [if_pos ⟨hj.1,by omega,by omega⟩] at hu;exact q2 _ c u hc hu
                · rw [if_neg hj] at hc;rw [if_neg (by omega)] at hu
                  exact hr j c u hc hu)
              refine ⟨us', ?_,r2,r3⟩;rw [List.map_cons];unfold Instr.fill;have : (pl.toArray)[i]? = some (off,k) := by simpa using hpl
              simp only [this,hsz];rw [if_neg (by simp; omega)];rw [← r1]
              congr 1
              rw [← Array.foldl_toList,Array.toList_zipIdx]
section
variable {P : Program} {F : Fr} {s : AS} {d : Nat} {ty T : TypeId} {pos : String} {aft : Array Edge} {g : Option (Nat × Bool)}
theorem Za0 {l : List (Nat × Operand)} {zs cs' : List AV} {pl : List (Nat × Nat)} {A : AV} (hz : zeroL? P T = some zs) (hpl : placesOf P T = some pl) (hf : fillA s pl zs l = some cs') (hm : mkAgg? cs' = some A) (hd : Nat.blt d s.n = true) :
    Zaa P F ⟨some d, .build T l.toArray,ty,pos,aft,g⟩ s d A := ZaO _ hd fun ρ act w hs => by
  obtain ⟨i,z,h1,h2,h3⟩ := zeroL?_spec hz;obtain ⟨h4,h5⟩ := constL?_spec h3 w (F.O ρ s.hp) ρ;obtain ⟨us',r1,r2,r3⟩ := fillA_spec hs l zs cs' z.cells hf (by simpa using h4) (fun j c u hc hu => h5 j c u hc (by simpa using hu))
  have hb : P.built T (l.map fun p => (p.1,act.eval p.2)) = some us' := by
    unfold placesOf at hpl
    split at hpl
    · rename_i fs hfs
      unfold Program.built;simp only [h1,hfs,h2,hpl];exact r1
    · cases hpl
  refine ⟨.agg us', ?_, ?_⟩
  · have : (l.toArray.map fun (x : Nat × Operand) => match x with | (i,x) => (i,act.eval x)) = (l.map fun p => (p.1,act.eval p.2)).toArray := by simp
    simp only [execOp,Sem.run_bind];rw [this,run_build w T _ us' (by simpa using hb)]
    rfl
  · have := mkAgg?_spec (us := us'.toList) hm (by simpa using r2) (fun j c u hc hu => r3 j c u hc (by simpa using hu))
    simpa using this
end
mutual
def AV.ren (σ : Nat → Nat) : AV → AV
  | .d x => .d x
  | .top => .top
  | .tup as => .tup (renL σ as)
  | .agg as => .agg (renL σ as)
  | .ptr f i off => .ptr (σ f) i off
  | .own f i n => .own (σ f) i n
  | .rptr f i k e off => .rptr (σ f) i k e off
  | .map f i => .map (σ f) i
  | .fn g caps => .fn g (renL σ caps)
def renL (σ : Nat → Nat) : List AV → List AV
  | [] => []
  | a :: r => a.ren σ :: renL σ r
end
theorem renL_map (σ : Nat → Nat) (l : List AV) : renL σ l = l.map (AV.ren σ) := by
  induction l with
  | nil => rfl
  | cons a r ih => rw [renL,ih]; rfl
def renE (σ : Nat → Nat) : List (Nat × AV) → List (Nat × AV)
  | [] => []
  | (t,a) :: r => (t,a.ren σ) :: renE σ r
theorem renE_get {σ : Nat → Nat} {env : List (Nat × AV)} {t : Nat} {a : AV} (h : get (renE σ env) t = some a) : ∃ a0,get env t = some a0 ∧ a = a0.ren σ := by
  induction env with
  | nil => cases h
  | cons q r ih =>
    obtain ⟨k,x⟩ := q;rcases Zbd h with ⟨rfl,rfl⟩ | ⟨hne,h⟩
    · exact ⟨x,by simp [get],rfl⟩
    · obtain ⟨a0,h1,h2⟩ := ih h;exact ⟨a0,by simp only [get,Za7 hne]; exact h1,h2⟩
def AObj.ren (σ : Nat → Nat) : AObj → AObj
  | .blk t cs => .blk t (renL σ cs)
  | .row t k xs => .row t k (renL σ xs)
  | .rowD t k xs => .rowD t k xs
  | .loop L => .loop { L with env := renE σ L.env }
  | .map bs es => .map bs es
  | .iter f i c seen => .iter (σ f) i c seen
  | .addr f i v => .addr (σ f) i v
  | .any => .any
  | .nb b t cs => .nb b t cs
  | .nr b t k cap xs => .nr b t k cap xs
  | .multi M => .multi M
def renO (σ : Nat → Nat) : List AObj → List AObj
  | [] => []
  | a :: r => a.ren σ :: renO σ r
def renH (σ : Nat → Nat) : Hp → Hp
  | [] => []
  | (f,l) :: r => (σ f,renO σ l) :: renH σ r
theorem RepA.ren {σ : Nat → Nat} {w : World} {O : Nat → Prop} {ρ ρ0 : Nat → Nat → Value} (hρ : ∀ f i,ρ0 f i = ρ (σ f) i) {a : AV} {v : Value} (h : RepA w O ρ0 a v) : RepA w O ρ (a.ren σ) v := by
  induction h with
  | d h => exact .d h
  | top => exact .top
  | tup hl _ ih =>
    rw [AV.ren,renL_map];refine .tup (by simpa using hl) fun i a v ha hv => ?_;rw [List.getElem?_map] at ha
    rename_i as vs _
    cases hh : as[i]? with
    | none => rw [hh] at ha; cases ha
    | some b => rw [hh] at ha; injection ha with ha; subst ha; exact ih i b v hh hv
  | agg hl h1 _ ih =>
    rw [AV.ren,renL_map];refine .agg (by simpa using hl) h1 fun i a v ha hv => ?_;rw [List.getElem?_map] at ha
    rename_i as vs _
    cases hh : as[i]? with
    | none => rw [hh] at ha; cases ha
    | some b => rw [hh] at ha; injection ha with ha; subst ha; exact ih i b v hh hv
  | ptr h => exact .ptr (by rw [← hρ]; exact h)
  | own h hn => exact .own (by rw [← hρ]; exact h) hn
  | rptr h => exact .rptr (by rw [← hρ]; exact h)
  | map h => exact .map (by rw [← hρ]; exact h)
  | fn hl _ ih =>
    rw [AV.ren,renL_map];refine .fn (by simpa using hl) fun i a v ha hv => ?_;rw [List.getElem?_map] at ha
    rename_i g caps vs _
    cases hh : caps[i]? with
    | none => rw [hh] at ha; cases ha
    | some b => rw [hh] at ha; injection ha with ha; subst ha; exact ih i b v hh hv
mutual
theorem AV.ren_ren {σ : Nat → Nat} (hσ : ∀ f,σ (σ f) = f) : ∀ a : AV,(a.ren σ).ren σ = a
  | .d _ => rfl
  | .top => rfl
  | .tup as => by rw [AV.ren,AV.ren,renL_renL hσ as]
  | .agg as => by rw [AV.ren,AV.ren,renL_renL hσ as]
  | .ptr f i off => by rw [AV.ren,AV.ren,hσ]
  | .own f i n => by rw [AV.ren,AV.ren,hσ]
  | .rptr f i k e off => by rw [AV.ren,AV.ren,hσ]
  | .map f i => by rw [AV.ren,AV.ren,hσ]
  | .fn g caps => by rw [AV.ren,AV.ren,renL_renL hσ caps]
theorem renL_renL {σ : Nat → Nat} (hσ : ∀ f,σ (σ f) = f) : ∀ l : List AV,renL σ (renL σ l) = l
  | [] => rfl
  | a :: r => by rw [renL,renL,AV.ren_ren hσ a,renL_renL hσ r]
end
theorem renE_renE {σ : Nat → Nat} (hσ : ∀ f,σ (σ f) = f) (l : List (Nat × AV)) : renE σ (renE σ l) = l := by
  induction l with
  | nil => rfl
  | cons a r ih => obtain ⟨t,a⟩ := a; rw [renE,renE,AV.ren_ren hσ,ih]
theorem AObj.ren_ren {σ : Nat → Nat} (hσ : ∀ f,σ (σ f) = f) (o : AObj) : (o.ren σ).ren σ = o := by
  cases o with
  | blk t cs => rw [AObj.ren,AObj.ren,renL_renL hσ]
  | row t k xs => rw [AObj.ren,AObj.ren,renL_renL hσ]
  | rowD t k xs => rfl
  | loop L => simp only [AObj.ren,renE_renE hσ]
  | map bs es => rfl
  | iter f i c seen => simp only [AObj.ren,hσ]
  | addr f i v => simp only [AObj.ren,hσ]
  | any => rfl
  | nb _ _ _ => rfl
  | nr _ _ _ _ _ => rfl
  | multi _ => rfl
theorem renO_renO {σ : Nat → Nat} (hσ : ∀ f,σ (σ f) = f) (l : List AObj) : renO σ (renO σ l) = l := by
  induction l with
  | nil => rfl
  | cons a r ih => rw [renO,renO,AObj.ren_ren hσ,ih]
theorem renH_renH {σ : Nat → Nat} (hσ : ∀ f,σ (σ f) = f) (l : Hp) : renH σ (renH σ l) = l := by
  induction l with
  | nil => rfl
  | cons a r ih => obtain ⟨f,x⟩ := a; rw [renH,renH,hσ,renO_renO hσ,ih]
theorem renO_get (σ : Nat → Nat) (l : List AObj) (i : Nat) : (renO σ l)[i]? = (l[i]?).map (AObj.ren σ) := by
  induction l generalizing i with
  | nil => rfl
  | cons a r ih =>
    cases i with
    | zero => rfl
    | succ i => simpa [renO] using ih i
theorem renO_isM (σ : Nat → Nat) (l : List AObj) : isM (renO σ l) = isM l := by
  match l with
  | [] => rfl
  | [a] => cases a <;> rfl
  | _ :: _ :: _ => rfl
theorem renO_gl (σ : Nat → Nat) (l : List AObj) (i : Nat) : gl (renO σ l) i = (gl l i).map (AObj.ren σ) := by
  unfold gl;rw [renO_isM]
  cases isM l with
  | none => exact renO_get σ l i
  | some M =>
    show (M i).map (MObj.at_ i) = ((M i).map (MObj.at_ i)).map (AObj.ren σ)
    cases M i with
    | none => rfl
    | some m => cases m <;> rfl
theorem renH_fam {σ : Nat → Nat} (hσ : ∀ f,σ (σ f) = f) (hp : Hp) (f : Nat) : hfam (renH σ hp) (σ f) = (hfam hp f).map (renO σ) := by
  induction hp with
  | nil => rfl
  | cons p r ih =>
    obtain ⟨k,l⟩ := p;simp only [renH,hfam]
    by_cases e : k = f
    · subst e; simp
    · have e' : σ k ≠ σ f := fun h => e (by rw [← hσ k,h,hσ]);rw [Za7 e,Za7 e']; exact ih
theorem renH_get {σ : Nat → Nat} (hσ : ∀ f,σ (σ f) = f) (hp : Hp) (f i : Nat) : hget (renH σ hp) (σ f) i = (hget hp f i).map (AObj.ren σ) := by
  simp only [hget,renH_fam hσ]
  cases hfam hp f with
  | none => rfl
  | some l => exact renO_gl σ l i
theorem SimObj.ren {σ : Nat → Nat} {w : World} {O : Nat → Prop} {ρ ρ0 : Nat → Nat → Value} (hρ : ∀ f i,ρ0 f i = ρ (σ f) i) {o : AObj} {v : Value} (h : SimObj w O ρ0 o v) : SimObj w O ρ (o.ren σ) v := by
  cases o with
  | blk t cs =>
    obtain ⟨b,us,h1,h2,h3,h4,h5⟩ := h;rw [AObj.ren,renL_map];refine ⟨b,us,h1,h2,by simpa using h3,fun j c u hc hu => ?_,h5⟩;rw [List.getElem?_map] at hc
    cases hh : cs[j]? with
    | none => rw [hh] at hc; cases hc
    | some b => rw [hh] at hc; injection hc with hc; subst hc; exact (h4 j b u hh hu).ren hρ
  | row t k xs =>
    obtain ⟨us,h1,h2,h3,h4⟩ := h;rw [AObj.ren,renL_map]
    have hcells : ∀ a : AV,(a.ren σ).cells = a.cells.map (AV.ren σ) := fun a => by
      cases a with
      | agg as => rw [AV.ren,renL_map]; rfl
      | d x =>
        cases x with
        | agg cs =>
          show List.map AV.d cs = (List.map AV.d cs).map (AV.ren σ);rw [List.map_map];exact List.map_congr_left fun c _ => rfl
        | _ => rfl
      | _ => rfl
    refine ⟨us,by simpa using h1,by simpa using h2,fun x hx => ?_,fun i x hx j c hc => ?_⟩
    · obtain ⟨y,hy,rfl⟩ := List.mem_map.1 hx;rw [hcells,List.length_map]; exact h3 y hy
    · rw [List.getElem?_map] at hx
      cases hh : xs[i]? with
      | none => rw [hh] at hx; cases hx
      | some y =>
        rw [hh] at hx; injection hx with hx; subst hx
        rw [hcells,List.getElem?_map] at hc
        cases hh2 : y.cells[j]? with
        | none => rw [hh2] at hc; cases hc
        | some c' =>
          rw [hh2] at hc; injection hc with hc; subst hc
          obtain ⟨u,a1,a2,a3⟩ := h4 i y hh j c' hh2;exact ⟨u,a1,a2,a3.ren hρ⟩
  | rowD t k xs => exact h
  | loop L =>
    obtain ⟨r,h1,h2,h3,h4,h5⟩ := h;refine ⟨r,h1,h2,h3,h4,fun t a ha => ?_⟩;obtain ⟨a0,h6,rfl⟩ := renE_get ha;exact (h5 t a0 h6).ren hρ
  | map bs es =>
    exact h
  | iter f i c seen =>
    obtain ⟨r,m,sn,h1,h2,h3⟩ := h;exact ⟨r,m,sn,h1,by rw [← hρ]; exact h2,h3⟩
  | addr f i u => exact ⟨h.1,by rw [← hρ]; exact h.2⟩
  | any => trivial
  | nb _ _ _ => exact h
  | nr _ _ _ _ _ => exact h
  | multi _ => trivial
theorem OwnB.ren {σ : Nat → Nat} (hσ : ∀ f,σ (σ f) = f) {ρ ρ0 : Nat → Nat → Value} (hρ : ∀ f i,ρ0 f i = ρ (σ f) i) {H : Hp} {b : Nat} (h : OwnB ρ0 H b) : OwnB ρ (renH σ H) b := by
  obtain ⟨f,i,o,h1,h2⟩ := h;exact ⟨σ f,i,o.ren σ,by rw [renH_get hσ,h1]; rfl,by rw [← hρ]; exact h2⟩
theorem OwnB.ren_iff {σ : Nat → Nat} (hσ : ∀ f,σ (σ f) = f) {ρ ρ0 : Nat → Nat → Value} (hρ : ∀ f i,ρ0 f i = ρ (σ f) i) {H : Hp} : OwnB ρ (renH σ H) = OwnB ρ0 H := funext fun b => propext
  ⟨fun h => by
    have := OwnB.ren (ρ := ρ0) (ρ0 := ρ) hσ (fun f i => by rw [hρ,hσ]) h
    rwa [renH_renH hσ] at this,fun h => h.ren hσ hρ⟩
theorem Heap.ren {σ : Nat → Nat} (hσ : ∀ f,σ (σ f) = f) {F F' : Fr} {ρ ρ0 : Nat → Nat → Value} (hρ : ∀ f i,ρ0 f i = ρ (σ f) i) {H : Hp} {w : World} (h0 : F'.w0 = F.w0) (h1 : F'.Of = F.Of) (h2 : F'.own0 = F.own0) (h3 : ∀ f i,F'.pin f i = F.pin (σ f) i) (h : Heap F H ρ0 w) : Heap F' (renH σ H) ρ w := by
  have hO : F'.O ρ (renH σ H) = F.O ρ0 H := by unfold Fr.O; rw [h1,OwnB.ren_iff hσ hρ]
  have back : ∀ f i o,hget (renH σ H) f i = some o → ∃ o0,hget H (σ f) i = some o0 ∧ o = o0.ren σ := fun f i o ho => by
    have := renH_get hσ H (σ f) i;rw [hσ,ho] at this
    cases hh : hget H (σ f) i with
    | none => rw [hh] at this; cases this
    | some o0 => rw [hh] at this; injection this with this; exact ⟨o0,rfl,this⟩
  have hρ' : ∀ f i,ρ f i = ρ0 (σ f) i := fun f i => by rw [hρ,hσ]
  refine ⟨fun f i o ho => ?_,fun f i f' i' o o' b ho ho' hb hb' => ?_,fun b hb => ?_,h0 ▸ h.os,h0 ▸ h.tape,h0 ▸ h.output,h0 ▸ h.size0,fun b hlt hn => ?_,fun f i b hp => ?_,h0 ▸ h.drawn⟩
  · obtain ⟨o0,h4,rfl⟩ := back f i o ho;rw [hO,hρ'];exact (h.sim _ _ _ h4).ren hρ
  · obtain ⟨o0,h4,rfl⟩ := back f i o ho;obtain ⟨o1,h5,rfl⟩ := back f' i' o' ho';rw [hρ'] at hb hb';obtain ⟨e1,e2⟩ := h.inj _ _ _ _ _ _ b h4 h5 hb hb';exact ⟨by rw [← hσ f,e1,hσ],e2⟩
  · rw [OwnB.ren_iff hσ hρ] at hb;rw [h0,h2]; exact h.mine b hb
  · rw [h0] at hlt ⊢;rw [h2] at hn;exact h.keep b hlt hn
  · rw [h3] at hp;obtain ⟨a1,t,cs,a2⟩ := h.pins _ _ _ hp;refine ⟨by rw [hρ']; exact a1,t,renL σ cs, ?_⟩;have := renH_get hσ H (σ f) i;rw [hσ,a2] at this;exact this
theorem pinOf_ren {σ : Nat → Nat} (hσ : ∀ f,σ (σ f) = f) {ρ ρ0 : Nat → Nat → Value} (hρ : ∀ f i,ρ0 f i = ρ (σ f) i) {H : Hp} (f i : Nat) : pinOf ρ0 H f i = pinOf ρ (renH σ H) (σ f) i := by
  unfold pinOf;rw [renH_get hσ,hρ]
  cases hget H f i with
  | none => rfl
  | some o =>
    cases o with
    | blk t cs => simp only [Option.map_some,AObj.ren]; split <;> simp_all
    | row t k xs => rfl
    | rowD t k xs => rfl
    | loop L => rfl
    | map _ _ => rfl
    | iter _ _ _ _ => rfl
    | addr _ _ _ => rfl
    | any => rfl
    | nb _ _ _ => rfl
    | nr _ _ _ _ _ => rfl
    | multi _ => rfl
theorem ACalls.ren {P : Program} {f : FuncId} {args : List AV} {H : Hp} {R : AV → Hp → Prop} {σ : Nat → Nat} (hσ : ∀ f,σ (σ f) = f) (h : ACalls P f args H R) : ACalls P f (renL σ args) (renH σ H) fun r H' => R (r.ren σ) (renH σ H') := by
  refine ⟨h.1,fun F ρ vs h1 h2 h2' h3 h4 h5 => ?_⟩
  let ρ0 : Nat → Nat → Value := fun f i => ρ (σ f) i
  have hρ : ∀ f i,ρ0 f i = ρ (σ f) i := fun _ _ => rfl;have hρ' : ∀ f i,ρ f i = ρ0 (σ f) i := fun f i => by rw [hρ,hσ]
  let F0 : Fr := Fr.mk F.rnd F.lo F.w0 F.Of F.own0 (pinOf ρ0 H) F.hOf (hpN H) (fun _ _ _ h => pinOf_mem h)
  have hheap : Heap F0 H ρ0 F.w0 := by
    have := Heap.ren (σ := σ) (F := F) (F' := F0) (ρ := ρ0) (ρ0 := ρ) hσ hρ' rfl rfl rfl (fun f i => by
      show pinOf ρ0 H f i = F.pin (σ f) i
      rw [h2]; exact pinOf_ren hσ hρ f i) h3
    rwa [renH_renH hσ] at this
  have hO : F0.O ρ0 H = F.O ρ (renH σ H) := by unfold Fr.O; rw [OwnB.ren_iff hσ hρ]
  refine (h.2 F0 ρ0 vs (by show F.own0 = _; rw [h1]; exact OwnB.ren_iff hσ hρ) rfl ⟨rfl,h2'.2⟩ hheap (by rw [h4,renL_map,List.length_map]) (fun i a v ha hv => ?_)).mono fun e w' ⟨v,r,H',ρ',e1,hR,hrep,hh'⟩ => ?_
  · have := h5 i (a.ren σ) v (by rw [renL_map,List.getElem?_map,ha]; rfl) hv;have := this.ren (ρ := ρ0) (σ := σ) hρ';rw [AV.ren_ren hσ] at this;show RepA F.w0 (F0.O ρ0 H) ρ0 a v;rw [hO]; exact this
  · let ρ1 : Nat → Nat → Value := fun f i => ρ' (σ f) i
    have hr1 : ∀ f i,ρ' f i = ρ1 (σ f) i := fun f i => by show _ = ρ' (σ (σ f)) i; rw [hσ]
    have hO1 : F.O ρ1 (renH σ H') = F0.O ρ' H' := by unfold Fr.O; rw [OwnB.ren_iff hσ hr1]
    refine ⟨v,r.ren σ,renH σ H',ρ1,e1,by show R ((r.ren σ).ren σ) (renH σ (renH σ H')); rw [AV.ren_ren hσ,renH_renH hσ]; exact hR,by rw [hO1]; exact hrep.ren hr1, ?_⟩
    exact Heap.ren hσ (F := F0) (F' := F) hr1 rfl rfl rfl (fun f i => by
      show F.pin f i = pinOf ρ0 H (σ f) i
      rw [h2,pinOf_ren hσ hρ,hσ]) hh'
def swaps : List (Nat × Nat) → Nat → Nat
  | [],x => x
  | (a,b) :: r,x => match Nat.beq a x with
    | true => b
    | false => match Nat.beq b x with
      | true => a
      | false => swaps r x
def apartB : List (Nat × Nat) → Bool
  | [] => true
  | (a,b) :: r => !memB a (r.map (·.1)) && (!memB a (r.map (·.2)) && (!memB b (r.map (·.1)) && (!memB b (r.map (·.2)) && apartB r)))
theorem swaps_mem {l : List (Nat × Nat)} {x : Nat} (h : swaps l x ≠ x) : (x ∈ l.map (·.1) ∨ x ∈ l.map (·.2)) ∧ (swaps l x ∈ l.map (·.1) ∨ swaps l x ∈ l.map (·.2)) := by
  induction l with
  | nil => exact absurd rfl h
  | cons p r ih =>
    obtain ⟨a,b⟩ := p
    by_cases e1 : a = x
    · subst e1; simp [swaps]
    · by_cases e2 : b = x
      · subst e2; simp [swaps,Za7 e1]
      · have e3 : swaps ((a,b) :: r) x = swaps r x := by simp [swaps,Za7 e1,Za7 e2]
        rw [e3] at h ⊢;obtain ⟨h1,h2⟩ := ih h;simp only [List.map_cons,List.mem_cons];exact ⟨h1.imp .inr .inr,h2.imp .inr .inr⟩
theorem swaps_swaps {l : List (Nat × Nat)} (h : apartB l = true) (x : Nat) : swaps l (swaps l x) = x := by
  induction l with
  | nil => rfl
  | cons p r ih =>
    obtain ⟨a,b⟩ := p;simp only [apartB,Bool.and_eq_true,Bool.not_eq_true'] at h;obtain ⟨h1,h2,h3,h4,h5⟩ := h;have hn : ∀ {y : Nat} {l : List Nat},memB y l = false → y ∉ l := fun hm hy => by rw [ZaW.2 hy] at hm; cases hm
    have ih' := ih h5
    by_cases e1 : a = x
    · subst e1
      by_cases e2 : a = b
      · subst e2; simp [swaps]
      · simp [swaps,Za7 e2]
    · by_cases e2 : b = x
      · subst e2; simp [swaps,Za7 e1]
      · have e3 : swaps ((a,b) :: r) x = swaps r x := by simp [swaps,Za7 e1,Za7 e2]
        rw [e3]
        have ha : a ≠ swaps r x := fun e => by
          by_cases hx : swaps r x = x
          · exact e1 (e.trans hx)
          · have := (swaps_mem hx).2;rw [← e] at this;exact this.elim (hn h1) (hn h2)
        have hb : b ≠ swaps r x := fun e => by
          by_cases hx : swaps r x = x
          · exact e2 (e.trans hx)
          · have := (swaps_mem hx).2;rw [← e] at this;exact this.elim (hn h3) (hn h4)
        simp only [swaps,Za7 ha,Za7 hb];exact ih'
theorem ACalls.by (l : List (Nat × Nat)) {P : Program} {f : FuncId} {args : List AV} {H H0 : Hp} {r0 : AV} (h : ACalls P f args H fun r H' => r = r0 ∧ H' = H0) (hl : apartB l = true) :
    ACalls P f (renL (swaps l) args) (renH (swaps l) H) fun r H' => r = r0.ren (swaps l) ∧ H' = renH (swaps l) H0 :=
  (h.ren (swaps_swaps hl)).mono fun r H' ⟨h1,h2⟩ => ⟨by rw [← h1,AV.ren_ren (swaps_swaps hl)],by rw [← h2,renH_renH (swaps_swaps hl)]⟩
inductive Snap (hp : Hp) (bl : List Nat) : AV → D → Prop
  | d {x : D} : Snap hp bl (.d x) x
  | own {f j n : Nat} {t : TypeId} {k : Nat} {xs ys : List D} (ho : hget hp f j = some (.rowD t k xs)) (hb : memB f bl = true) (hn : n ≤ xs.length) (hys : xs.take n = ys) : Snap hp bl (.own f j n) (.sl none ys)
  | ptr {f i off : Nat} {t : TypeId} {cs : List AV} {x : D} (ho : hget hp f i = some (.blk t cs)) (hb : memB f bl = true) (h1 : ∀ c ∈ x.cells,c.one = true) (g : Nat → AV) (hg : ∀ (j : Nat) c,x.cells[j]? = some c → cs[off + j]? = some (g j)) (hc : ∀ (j : Nat) c,x.cells[j]? = some c → Snap hp bl (g j) c) : Snap hp bl (.ptr f i off) (.ptr x)
  | agg {as : List AV} {cs : List D} (hl : as.length = cs.length) (h1 : ∀ c ∈ cs,c.one = true) (hc : ∀ (j : Nat) a c,as[j]? = some a → cs[j]? = some c → Snap hp bl a c) : Snap hp bl (.agg as) (.agg cs)
def lentO (F : Fr) (hp : Hp) (ρ : Nat → Nat → Value) (bl : List Nat) (b : Nat) : Prop := F.O ρ hp b ∧ ¬ ∃ f i o,memB f bl = true ∧ hget hp f i = some o ∧ blkOf (ρ f i) = some b
theorem lent_not {F : Fr} {hp : Hp} {ρ : Nat → Nat → Value} {bl : List Nat} {f i b : Nat} {o : AObj} (hb : memB f bl = true) (ho : hget hp f i = some o) (hv : blkOf (ρ f i) = some b) : ¬ lentO F hp ρ bl b := fun h => h.2 ⟨f,i,o,hb,ho,hv⟩
theorem Snap.rep {F : Fr} {hp : Hp} {ρ : Nat → Nat → Value} {w : World} {bl : List Nat} (hs : Heap F hp ρ w) {a : AV} {x : D} (h : Snap hp bl a x) : ∀ {v : Value},RepA w (F.O ρ hp) ρ a v → RepD w (lentO F hp ρ bl) x v := by
  have mono : ∀ {x : D} {v : Value},RepD w (F.O ρ hp) x v → RepD w (lentO F hp ρ bl) x v := fun h => h.mono (Nat.le_refl _) (fun _ _ _ => rfl) fun b _ hb => hb.1
  induction h with
  | d => intro v hr; cases hr with | d hr => exact mono hr
  | @own f j n t k xs ys ho hb hn hys =>
    intro v hr;obtain ⟨us,h1,h2,h3⟩ := hs.sim f j _ ho
    cases hr with
    | @own _ _ _ N cap a hρ hn' =>
      rw [hρ] at h1
      have hN : N = xs.length := by
        rcases h1.2 with ⟨e,e0⟩ | ⟨g,c,cur,e,_⟩
        · injection e with _ e1 _; omega
        · injection e with _ e1 _
      subst hN
      have hcap : n ≤ cap ∧ cap ≤ maxLen ∧ (a = none → cap = 0) ∧ (0 < xs.length → ∃ b,a = some ⟨b,0,none⟩ ∧ ∃ cur,w.heap[b]? = some (.cells cur t (0,0)) ∧ cur.toList.take (xs.length * k) = us) := by
        rcases h1.2 with ⟨e,e0⟩ | ⟨g,c,cur,e,_,c1,c2,c3,c4,c5⟩
        · injection e with e1 e2 e3; subst e1 e3; exact ⟨by omega,Nat.zero_le _,fun _ => rfl,fun h => by omega⟩
        · injection e with e1 e2 e3; subst e1 e3; exact ⟨by omega,c3,(fun e => by cases e),fun _ => ⟨g,rfl,cur,c1,c5⟩⟩
      obtain ⟨p1,p2,p3,p4⟩ := hcap;refine .sl k (fun _ h => by cases h) p3 (by rw [← hys,List.length_take]; omega) p1 p2 (fun y hy => h2.2.1 y (by rw [← hys] at hy; exact List.mem_of_mem_take hy)) (fun hne => ?_) (fun b o hbb i y hy => ?_)
      · have : 0 < xs.length := by
          rcases Nat.eq_zero_or_pos xs.length with h0 | h0
          · exfalso; apply hne; rw [← hys,List.eq_nil_of_length_eq_zero h0]; simp
          · exact h0
        obtain ⟨b,hb,_⟩ := p4 this;exact ⟨b,0,hb⟩
      · have hy' : xs[i]? = some y := by
          rw [← hys,List.getElem?_take] at hy
          split at hy
          · exact hy
          · cases hy
        have hil : i < xs.length := (List.getElem?_eq_some_iff.1 hy').1;obtain ⟨b',hb',cur,c1,c3⟩ := p4 (by omega);rw [hb'] at hbb;injection hbb with hbb; injection hbb with hb1 hb2; subst hb1 hb2
        subst hb';have hlt : b' < w.heap.size := (Array.getElem?_eq_some_iff.1 c1).1
        have hex : ∀ (q : Nat) c,y.cells[q]? = some c → ∃ u,w.cell? ⟨b',0 + i * k + q,none⟩ = some u ∧ RepD w (lentO F hp ρ bl) c u := fun q c hc => by
          obtain ⟨u,d1,d2,d3⟩ := h2.2.2 i y hy' q c hc;exact ⟨u,by rw [Nat.zero_add]; exact row_cell c1 c3 d1,mono d3⟩
        refine .ptr (fun q => (w.cell? ⟨b',0 + i * k + q,none⟩).getD undef) hlt (lent_not hb ho (by rw [hρ]; rfl)) (h3 y (List.mem_of_getElem? hy')) (fun q c hc => ?_) (fun q c hc => ?_)
        · obtain ⟨u,d1,_⟩ := hex q c hc;rw [d1]; rfl
        · obtain ⟨u,d1,d2⟩ := hex q c hc;rw [d1]; exact d2
  | @ptr f i off t cs x ho hb h1 g hg hc ih =>
    intro v hr;obtain ⟨b,us,e1,e2,e3,e4,e5⟩ := hs.sim f i _ ho
    cases hr with
    | @ptr _ _ _ b' hρ =>
      rw [e1] at hρ;injection hρ with hρ; injection hρ with hρ; injection hρ with hρ; subst hρ
      have hex : ∀ (j : Nat) c,x.cells[j]? = some c → ∃ u,w.cell? ⟨b,off + j,none⟩ = some u ∧ RepD w (lentO F hp ρ bl) c u := fun j c hj => by
        have ha := hg j c hj;have hlt : off + j < us.length := by rw [e3]; exact (List.getElem?_eq_some_iff.1 ha).1
        refine ⟨us[off + j],by rw [cell_of_row w b (off + j) us.toArray t (0,0) e2]; simp [hlt], ?_⟩;exact ih j c hj (e4 _ _ _ ha (List.getElem?_eq_getElem hlt))
      have hlt : b < w.heap.size := (Array.getElem?_eq_some_iff.1 e2).1;refine .ptr (fun q => (w.cell? ⟨b,off + q,none⟩).getD undef) hlt (lent_not hb ho (by rw [e1]; rfl)) h1 (fun q c hc => ?_) (fun q c hc => ?_)
      · obtain ⟨u,d1,_⟩ := hex q c hc;rw [d1]; rfl
      · obtain ⟨u,d1,d2⟩ := hex q c hc;rw [d1]; exact d2
  | agg hl h1 hc ih =>
    intro v hr
    cases hr with
    | agg g1 g2 g3 =>
      refine .agg (by omega) h1 fun j c v hj hv => ?_
      rename_i as cs vs
      have hlt : j < as.length := by rw [hl]; exact (List.getElem?_eq_some_iff.1 hj).1
      exact ih j _ c (List.getElem?_eq_getElem hlt) hj (g3 j _ v (List.getElem?_eq_getElem hlt) hv)
def D.flat : D → Bool
  | .raw _ => true
  | .agg cs => cs.all fun c => match c with
    | .raw _ => true
    | _ => false
  | .sl _ xs => match xs with
    | [] => true
    | _ => false
  | .tup cs => cs.all fun c => match c with
    | .raw _ => true
    | .sl _ [] => true
    | _ => false
  | .ptr _ => false
  | .fn _ _ _ => false
theorem rep_raw {w : World} {O O' : Nat → Prop} {v' : Value} {v : Value} (h : RepD w O (.raw v') v) : RepD w O' (.raw v') v := by
  cases h with | raw h => exact .raw h
theorem rep_nil {w : World} {O O' : Nat → Prop} {n : Option Bool} {v : Value} (h : RepD w O (.sl n []) v) : RepD w O' (.sl n []) v := by
  cases h with
  | sl k hn hz hln hc hm hk ha hp => exact .sl k hn hz hln hc hm hk (fun h => absurd rfl h) (fun _ _ _ i x hx => by simp at hx)
theorem RepD.unflat {w : World} {O O' : Nat → Prop} {x : D} {v : Value} (h : RepD w O x v) (hf : x.flat = true) : RepD w O' x v := by
  cases h with
  | raw h => exact .raw h
  | agg hl h1 h2 =>
    refine .agg hl h1 fun i c v hc hv => ?_;have hm := List.all_eq_true.1 hf c (List.mem_of_getElem? hc);have := h2 i c v hc hv
    cases c with
    | raw _ => exact rep_raw this
    | _ => cases hm
  | tup hl h2 =>
    refine .tup hl fun i c v hc hv => ?_;have hm := List.all_eq_true.1 hf c (List.mem_of_getElem? hc);have := h2 i c v hc hv
    cases c with
    | raw _ => exact rep_raw this
    | sl n xs =>
      cases xs with
      | nil => exact rep_nil this
      | cons _ _ => cases hm
    | _ => cases hm
  | sl k hn hz hln hc hm hk ha hp =>
    rename_i nil xs a n cap
    cases xs with
    | nil => exact .sl k hn hz hln hc hm hk (fun h => absurd rfl h) (fun _ _ _ i x hx => by simp at hx)
    | cons _ _ => cases hf
  | ptr _ _ _ _ _ _ => cases hf
  | fn _ _ _ _ => cases hf
def AV.flatS : AV → Bool
  | .d x => x.flat
  | .tup _ => false
  | .agg _ => false
  | .fn _ _ => false
  | _ => true
def AV.flat : AV → Bool
  | .tup as => as.all AV.flatS
  | .agg as => as.all AV.flatS
  | a => a.flatS
theorem RepA.unflatS {w : World} {O O' : Nat → Prop} {ρ : Nat → Nat → Value} {a : AV} {v : Value} (h : RepA w O ρ a v) (hf : a.flatS = true) : RepA w O' ρ a v := by
  cases h with
  | d h => exact .d (h.unflat hf)
  | top => exact .top
  | ptr h => exact .ptr h
  | own h hn => exact .own h hn
  | rptr h => exact .rptr h
  | map h => exact .map h
  | _ => cases hf
theorem RepA.unflat {w : World} {O O' : Nat → Prop} {ρ : Nat → Nat → Value} {a : AV} {v : Value} (h : RepA w O ρ a v) (hf : a.flat = true) : RepA w O' ρ a v := by
  cases h with
  | tup hl h => exact .tup hl fun i a v ha hv => (h i a v ha hv).unflatS (List.all_eq_true.1 hf a (List.mem_of_getElem? ha))
  | agg hl h1 h => exact .agg hl h1 fun i a v ha hv => (h i a v ha hv).unflatS (List.all_eq_true.1 hf a (List.mem_of_getElem? ha))
  | d h => exact .d (h.unflat hf)
  | top => exact .top
  | ptr h => exact .ptr h
  | own h hn => exact .own h hn
  | rptr h => exact .rptr h
  | map h => exact .map h
  | fn _ _ => cases hf
def AObj.Flat : AObj → Prop
  | .blk _ cs => ∀ c ∈ cs,c.flatS = true
  | .row _ _ _ => False
  | .rowD _ _ xs => ∀ x ∈ xs, ∀ c ∈ x.cells,c.flat = true
  | .loop _ => False
  | .map _ _ => False
  | .iter _ _ _ _ => False
  | .addr _ _ _ => True
  | .any => False
  | .nb _ _ _ => False
  | .nr _ _ _ _ _ => False
  | .multi _ => False
def FlatL : List AObj → Prop
  | [] => True
  | o :: r => o.Flat ∧ FlatL r
def FlatH : Hp → Prop
  | [] => True
  | (_,l) :: r => FlatL l ∧ FlatH r
theorem FlatH.at {H : Hp} (h : FlatH H) {f i : Nat} {o : AObj} (ho : hget H f i = some o) : o.Flat := by
  induction H with
  | nil => simp [hget,hfam] at ho
  | cons p r ih =>
    obtain ⟨k,l⟩ := p
    by_cases e : k = f
    · subst e;simp only [hget,hfam,Nat.beq_refl,Option.bind_some] at ho
      have key : ∀ (l : List AObj),FlatL l → o ∈ l → o.Flat := by
        intro l
        induction l with
        | nil => intro _ h; cases h
        | cons a r ih =>
          intro hl h;rcases List.mem_cons.1 h with rfl | h
          · exact hl.1
          · exact ih hl.2 h
      rcases gl_mem ho with ho | ⟨M,_,e,_,_⟩
      · exact key l h.1 ho
      · subst e; exact h.1.1.elim
    · exact ih h.2 (by simpa only [hget,hfam,Za7 e] using ho)
theorem SimObj.unflat {w : World} {O O' : Nat → Prop} {ρ : Nat → Nat → Value} {o : AObj} {v : Value} (h : SimObj w O ρ o v) (hf : o.Flat) : SimObj w O' ρ o v := by
  cases o with
  | blk t cs =>
    obtain ⟨b,us,h1,h2,h3,h4,h5⟩ := h;exact ⟨b,us,h1,h2,h3,fun j c u hc hu => (h4 j c u hc hu).unflatS (hf c (List.mem_of_getElem? hc)),h5⟩
  | row t k xs => exact hf.elim
  | rowD t k xs =>
    obtain ⟨us,h1,h2,h3⟩ := h;exact ⟨us,h1,h2.mono fun x hx c hc u hu => hu.unflat (hf x hx c hc),h3⟩
  | loop L => exact hf.elim
  | map _ _ => exact hf.elim
  | iter _ _ _ _ => exact hf.elim
  | addr _ _ _ => exact h
  | any => exact hf.elim
  | nb _ _ _ => exact hf.elim
  | nr _ _ _ _ _ => exact hf.elim
  | multi _ => exact hf.elim
section
variable {P : Program} {F : Fr} {s : AS} {d : Nat} {ty : TypeId} {pos : String} {aft : Array Edge} {g : Option (Nat × Bool)} {at_ : Array TypeId}
def ArgsB (s : AS) (bl : List Nat) : List Operand → List AV → Prop
  | [],[] => True
  | x :: xs,a :: as => (s.ev x = some a ∨ ∃ a0 y,s.ev x = some a0 ∧ Snap s.hp bl a0 y ∧ a = .d y) ∧ ArgsB s bl xs as
  | _,_ => False
theorem ArgsB.rep {ρ : Nat → Nat → Value} {act : Act} {w : World} (hs : SR F s ρ act w) {bl : List Nat} : ∀ {xs : List Operand} {as : List AV},ArgsB s bl xs as → (xs.map act.eval).length = as.length ∧ ∀ (i : Nat) a v,as[i]? = some a → (xs.map act.eval)[i]? = some v → RepA w (lentO F s.hp ρ bl) ρ a v
  | [],[],_ => by simp
  | x :: xs,a :: as,h => by
    obtain ⟨h1,h2⟩ := ArgsB.rep hs h.2;refine ⟨by simpa using h1,fun i a' v hi hv => ?_⟩
    cases i with
    | zero =>
      simp at hi hv; subst hi hv
      rcases h.1 with h | ⟨a0,y,e1,e2,rfl⟩
      · exact (hs.ev h).mono (Nat.le_refl _) (fun _ _ _ => rfl) (fun b _ hb => hb.1) fun _ _ _ => rfl
      · exact .d (e2.rep hs.heap (hs.ev e1))
    | succ i => exact h2 i a' v (by simpa using hi) (by simpa using hv)
  | [],_ :: _,h => h.elim
  | _ :: _,[],h => h.elim
theorem st_callB {f : FuncId} {xs : List Operand} {args : List AV} {H0 : Hp} {r0 : AV} (bl : List Nat) (hc : ACalls P f args [] fun r H' => r = r0 ∧ H' = H0) (hargs : ArgsB s bl xs args)
    (nm : List Nat) (hfe : FamsEq s.hp [] nm) {rest0 rest : Hp} {env' : List (Nat × AV)} (hr0 : rest? nm s.hp = some rest0) (hE : keepE? (okRef [] nm) s.env = some env') (hH : keepH? (okRef [] nm) rest0 = some rest)
    (hR1 : namesIn nm H0 = true) (hR2 : hpIn nm H0 = true) (hR3 : r0.ok (inNm nm) = true) (hfr : r0.flat = true) (hfh : FlatH H0) (hd : Nat.blt d s.n = true) {hp' : Hp} (hhp : some (H0 ++ rest) = some hp') :
    Zaj P F ⟨some d, .call { callee := .value (.func f),args := xs.toArray,argTypes := at_ },ty,pos,aft,g⟩ s ⟨s.n,(d,r0) :: env',hp'⟩ (okRef [] nm) := by
  injection hhp with hhp
  subst hhp;intro ρ act w hs;obtain ⟨fn,h1,h2,h3⟩ := hc.1;obtain ⟨h4,h5⟩ := hargs.rep hs;unfold Oper.wp;rw [run_call h1 h2 h3,Oper.upon_enter];have hno : ∀ ρ b, ¬ OwnB ρ [] b := fun ρ b ⟨_,_,_,h,_⟩ => (by cases h);obtain ⟨hOf,hheap,hO⟩ := heap_part w.heap.size hs.heap nm hfe (CH := []) rfl
  let F' : Fr := Fr.mk none w.heap.size w (lentO F s.hp ρ bl) (OwnB ρ []) (pinOf ρ []) (fun b hb => ⟨by
    rcases hb.1 with hb | hb
    · exact Nat.lt_of_lt_of_le (F.hOf b hb).1 hs.heap.size0
    · exact (hs.heap.mine b hb).1,hno ρ b⟩) [] (fun _ _ _ h => pinOf_mem h)
  have hO' : F'.O ρ [] = lentO F s.hp ρ bl := funext fun b => propext ⟨fun h => h.elim id fun h => (hno ρ b h).elim, .inl⟩
  have hheap' : Heap F' [] ρ w := ⟨(fun f i o ho => by cases ho),(fun f i f' i' o o' b ho => by cases ho),fun b hb => (hno ρ b hb).elim,rfl,rfl,rfl,Nat.le_refl _,fun _ _ _ => rfl,fun f i b hb => Zb0 hb,Nat.le_refl _⟩
  refine (hc.2 F' ρ _ rfl rfl ⟨rfl,rfl,rfl⟩ hheap' h4 (fun i a v ha hv => by rw [hO']; exact h5 i a v ha hv)).mono fun e w' ⟨v,r,H',ρ',e1,⟨e2,e3⟩,hrep,hh'⟩ => ?_;subst e1 e2 e3
  have hh2 : Heap (frameOf F w.heap.size s.hp [] ρ w hOf) H' ρ' w' := ⟨fun f i o ho => (hh'.sim f i o ho).unflat (hfh.at ho),hh'.inj,hh'.mine,hh'.os,hh'.tape,hh'.output,hh'.size0,hh'.keep,hh'.pins,hh'.drawn⟩
  obtain ⟨ρ'',g1,g2,g3,g4,g5,g6,g7⟩ := heap_whole hs.heap nm hfe (CH := []) rfl hr0 hH hOf hheap hh2 hR1 hR2;refine ⟨ρ'',SR.put (s := ⟨s.n,env',H' ++ rest⟩) ⟨hs.size,hs.defs.mono g5 g6 g7,fun t a ha => ?_,g1⟩ (Zbb hd) (g2 r v (fun f i hf => ZaW.1 (AV.ok_spec hR3 hf)) (hrep.unflat hfr)),g4⟩;rcases keepE?_spec hE ha with rfl | ⟨a1,a2⟩
  · exact .top
  · exact g3 _ _ a2 (hs.env t a a1)
theorem st_callPB {f : FuncId} {xs : List Operand} {args : List AV} {x : D} (bl : List Nat) (hc : PCalls P f args x) (hargs : ArgsB s bl xs args) (hfl : x.flat = true) (hd : Nat.blt d s.n = true) :
    Zaa P F ⟨some d, .call { callee := .value (.func f),args := xs.toArray,argTypes := at_ },ty,pos,aft,g⟩ s d (.d x) := by
  refine ⟨hd,rfl,fun ρ act w hs => ?_⟩;obtain ⟨fn,h1,h2,h3⟩ := hc.1;obtain ⟨h4,h5⟩ := hargs.rep hs;unfold Oper.wp;rw [run_call h1 h2 h3,Oper.upon_enter];have hno : ∀ ρ b, ¬ OwnB ρ [] b := fun ρ b ⟨_,_,_,h,_⟩ => by cases h
  let F' : Fr := Fr.mk none w.heap.size w (lentO F s.hp ρ bl) (OwnB ρ []) (pinOf ρ []) (fun b hb => ⟨by
    rcases hb.1 with hb | hb
    · exact Nat.lt_of_lt_of_le (F.hOf b hb).1 hs.heap.size0
    · exact (hs.heap.mine b hb).1,hno ρ b⟩) [] (fun _ _ _ h => pinOf_mem h)
  have hO' : F'.O ρ [] = lentO F s.hp ρ bl := funext fun b => propext ⟨fun h => h.elim id fun h => (hno ρ b h).elim, .inl⟩
  have hheap' : Heap F' [] ρ w := ⟨(fun f i o ho => by cases ho),(fun f i f' i' o o' b ho => by cases ho),fun b hb => (hno ρ b hb).elim,rfl,rfl,rfl,Nat.le_refl _,fun _ _ _ => rfl,fun f i b hb => Zb0 hb,Nat.le_refl _⟩
  refine (hc.2 F' ρ _ rfl rfl ⟨rfl,rfl,rfl⟩ hheap' h4 (fun i a v ha hv => by rw [hO']; exact h5 i a v ha hv)).mono fun e w' ⟨v,r,H',ρ',e1,⟨e2,e3⟩,hrep,hh'⟩ => ?_;subst e1 e2 e3;have hbb : ∀ b,b < w.heap.size → w'.heap[b]? = w.heap[b]? := fun b hlt => hh'.keep b hlt (hno ρ b);refine ⟨v,rfl, ?_,hs.heap.stay ⟨hh'.os,hh'.tape,hh'.output,Nat.le_trans hs.heap.drawn hh'.drawn⟩ hh'.size0 hbb,hh'.size0,hbb⟩
  cases hrep with
  | d hrep => exact .d (hrep.unflat hfl)
end
theorem getm {α β : Type} {f : α → β} {l : List α} {k : Nat} (h : k < l.length) : (l.map f)[k]? = some (f l[k]) := by simp [h]
theorem ZaN {a b : Nat} (h : (a : Int) < (b : Int)) : a < b := by omega
abbrev strD (l : List UInt8) : D := .raw (.string ⟨l.toArray⟩)
section
variable {P : Program} {F : Fr} {s : AS} {d : Nat} {ty T T' E : TypeId} {pos : String} {aft : Array Edge} {g : Option (Nat × Bool)} {x y : Operand}
end
end Go.Proofs.YtneihdahboilnaaGreat
