/- The kit's contract of slices.SortFunc as a contract over an owned row. No program in sight. -/
import Derived.Test.YtlmedakidpaeeaaMg15
import Derived.Shelf.SlSortCmp.WholeK
import Derived.Shelf.SlSortCmp.NoneTotal
namespace Go.Proofs.Ytlmedakidpaeeaa
open Go.RowKit Go.Shelf
open Go.Sort (flatK putRow putRowK HoldsK Holds PermIn SortedIn SWO mapBlock onCells putCells)
variable {P:Program}
section
variable {ρr:Ren} {τ:Type}
theorem SR.writeG {F:Fr} {s:AS} {ρ:Nat ->Nat ->Value} {act:Act} {w w':World} (h:SR F s ρ act w) (f0 i0:Nat) (o o':AJ) {hp':List (Nat×List AJ)} (ho:hget s.hp f0 i0=some o)
  (hset:∀f i,hget hp' f i=if f=f0∧i=i0 then some o' else hget s.hp f i) (hos:w'.os=w.os) (htape:w'.tape=w.tape) (hout:w'.output=w.output) (hs:w.heap.size≤w'.heap.size) (hdr:w.drawn≤w'.drawn)
  (hb:∀b,b<w.heap.size ->BM (ρ f0 i0)≠some b ->w'.heap[b]?=w.heap[b]?)
  (hbl:∀t cs,o= .blk t cs ->∃t' cs',o'= .blk t' cs') (hsim:(∀A v,AT w (F.O ρ s.hp) ρ A v ->AT w' (F.O ρ hp') ρ A v) ->Af w' (F.O ρ hp') ρ o' (ρ f0 i0)):SR F ⟨s.n,s.env,hp'⟩ ρ act w':=by
 have hO:∀b,F.O ρ hp' b ->F.O ρ s.hp b:=fun b hh=>by
  rcases hh with hh | ⟨f,i,o1,h1,h2⟩
  ·exact .inl hh
  ·refine .inr ?_
   by_cases e:f=f0∧i=i0
   ·obtain ⟨rfl,rfl⟩:=e;exact ⟨f,i,o,ho,h2⟩
   ·rw [hset,if_neg e] at h1;exact ⟨f,i,o1,h1,h2⟩
 have hbb:∀b,b<w.heap.size ->¬F.O ρ s.hp b ->w'.heap[b]?=w.heap[b]?:=fun b hl hn=>hb b hl fun e=>hn (.inr ⟨f0,i0,o,ho,e⟩);have hrep:∀A v,AT w (F.O ρ s.hp) ρ A v ->AT w' (F.O ρ hp') ρ A v:=fun A v hr=>hr.mono hs hbb (fun b _=>hO b) fun _ _ _=>rfl;refine ⟨h.size,h.defs.mono hs hbb (fun b _=>hO b),fun t a ha=>hrep _ _ (h.env t a ha),?_⟩;refine h.heap.one f0 i0 o' hset (fun _ _ _=>rfl) (fun b hv=> .inl ⟨⟨o,ho⟩,hv⟩) hos htape hout hs hdr (fun b hl hn=>hb b hl fun e=>hn ⟨⟨o,ho⟩,e⟩) (.inl rfl) (fun b hp=>?_) (hsim hrep);obtain ⟨_,t,cs,h1⟩:=h.heap.pins f0 i0 b hp;rw [ho] at h1;injection h1 with h1
 obtain ⟨t',cs',h2⟩:=hbl t cs h1;exact ⟨rfl,t',cs',h2⟩
end
end Go.Proofs.Ytlmedakidpaeeaa
