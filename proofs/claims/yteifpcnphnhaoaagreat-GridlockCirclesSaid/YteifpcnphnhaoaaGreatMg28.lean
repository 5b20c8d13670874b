import Derived.Test.YteifpcnphnhaoaaGreatMg27
namespace Go.Proofs.YteifpcnphnhaoaaGreat
open Go.RowKit Go.Shelf
noncomputable def notG (L G:List Int):List Int:=L.filter fun x=>!decide (x∈G)
theorem bd (p:Prb):entC p=Lg p (notG (largeS p) (Bp p)):=by
 unfold entC Lg
 congr 1
 refine χp fun i _=>?_;unfold inC notG;rw [φp,ωx,ωb,ωa,ωx]
theorem cirL_sz (rs:List AP) (E:List (AK×Nat)):(cirL rs E).length≤E.length∧∀x∈cirL rs E,x.length≤E.length:=by
 unfold cirL;refine ⟨by rw [ψ];have:=TK (grW rs E);rwa [Ns] at this,fun x hx=>?_⟩;obtain ⟨y,hy,rfl⟩:=ϱ.1 hx;rw [Ji];have:=(Q5 hy).2.1;rwa [Ns] at this
theorem wtsL_sz (rs:List AP) (E:List (AK×Nat)):(wtsL rs E).length≤E.length∧∀x∈wtsL rs E,x.length≤E.length:=by
 unfold wtsL;refine ⟨by rw [ψ,Ns];exact ν _,fun x hx=>?_⟩;obtain ⟨y,hy,rfl⟩:=ϱ.1 hx;rw [Ji];obtain ⟨k,hk,rfl⟩:=χb.1 hy;exact (bS hk).2
theorem bc (p:Prb) (l:List Int):(Lg p l).length≤p.it.length:=by
 unfold Lg;rw [ψ];have:=ωh (fun i:AK=>decide (i.id∈l)) (Ay p.it)
 rwa [YN] at this
theorem Sl (p:Prb):(entC p).length≤p.it.length:=by rw [bd];exact bc p _
theorem N0 (p:Prb):(GQ p).length=p.it.length:=by unfold GQ;rw [ψ,YN]
theorem Z5 {suc:Nat ->List Nat} {i j:Nat} (h:Rh suc i j) (hn:i≠j):∃s,s∈suc i∧Rh suc s j:=by
 induction h with
 | refl=>exact absurd Z hn
 | @step b c hb e ih=>
  by_cases hib:i=b
  ·subst hib;exact ⟨c,e,.refl c⟩
  ·obtain ⟨s,h1,h2⟩:=ih hib;exact ⟨s,h1,.step h2 e⟩
theorem cJ {g:List (List Nat)} {c:List Nat} (hc:c∈cirG g) (hs:∀v,v<g.length ->∀y∈sucs g v,y<g.length) {i:Nat} (hi:i∈c):∃s,s∈c∧s∈sucs g i:=by
 obtain ⟨h1,h2⟩:=F9.1 hc;obtain ⟨r,hr,rfl⟩:=ϱ.1 h1;obtain ⟨hil,him⟩:=FK.1 hi;have hn:(clsM g r).Nodup:=(Hs g r).imp fun h e=>by omega
 obtain ⟨j,hj,hji⟩:∃j,j∈clsM g r∧i≠j:=by
  refine Classical.byContradiction fun hh=>?_;have h3:∀x∈clsM g r,x∈ [i]:=fun x hx=>Classical.byContradiction fun h4=>hh ⟨x,hx,fun e=>h4 (by rw [e];exact ξ.2 Z)⟩;have:=cb hn h3;simp only [Φ] at this;omega
 obtain ⟨hjl,hjm⟩:=FK.1 hj;have hij:=FE (PA him) hjm;obtain ⟨s,h3,h4⟩:=Z5 hij.1 hji;exact ⟨s,FK.2 ⟨hs i hil s h3,FE him ⟨Rh.one h3,h4.trans hij.2⟩⟩,h3⟩
theorem itn_in {E:List (AK×Nat)} {i:Nat} (hi:i<E.length):DN E i∈E.map Prod.fst:=by rw [Cz hi];exact χj (κ _)
theorem bE {p:Prb} {x:AK} (h:x∈Ay p.it):∃m,m<(GQ p).length∧DN (GQ p) m=x:=by
 rw [←N6 p] at h;obtain ⟨e,he,rfl⟩:=ϱ.1 h;obtain ⟨m,hm,rfl⟩:=χb.1 he;exact ⟨m,hm,Cz hm⟩
structure CirOk (p:Prb) (L:List Int) (W:List (List Int)) (c:List Int):Prop where
 two:2≤c.length
 len:c.length≤p.it.length
 nd:c.Nodup
 lg:∀x∈c,x∈largeS p∧x∉Bp p
 wt:∀x∈c,∃(m:Nat) (h:m<L.length) (h2:m<W.length),L[m]=x∧∃y,y∈W[m]∧y∈c
theorem cir_ok {p:Prb} (hE:Al p=0) {c:List Int} (hc:c∈cirL (rsP p) (entC p)):CirOk p ((Ay p.it).map AK.id) (wtsL (rsP p) (GQ p)) c:=by
 have hsids:((Ay p.it).map AK.id).Nodup:=by have:=F6 hE;rwa [show ordP p=Ay p.it from θ hE] at this
 have hI:IdI (entC p):=by rw [bd];exact S2 hsids (Sk p _)
 obtain ⟨cir,hci,rfl⟩:=ϱ.1 hc;have ha:=Q5 hci;rw [Ns] at ha
 have hin:∀x∈idK2 (entC p) cir,∃i,i∈cir∧i<(entC p).length∧x=(DN (entC p) i).id:=fun x hx=>by
  obtain ⟨i,hi,rfl⟩:=ϱ.1 hx;exact ⟨i,hi,ha.2.2 i hi,Z⟩
 have hmem:∀i,i<(entC p).length ->DN (entC p) i∈Ay p.it∧inC (largeS p) (Bp p) (DN (entC p) i).id=true:=fun i hi=>by
  have:=itn_in hi;rw [Sm] at this;exact ωb.1 this
 refine ⟨by rw [Ji];exact ha.1,by rw [Ji];have:=Sl p;omega,?_,fun x hx=>?_,fun x hx=>?_⟩
 ·unfold idK2;rw [List.Nodup,ψe]
  have hs:cir.Pairwise (· < ·):=by
   obtain ⟨r,_,e⟩:=ϱ.1 (F9.1 hci).1;rw [←e];exact Hs _ r
  refine χt (fun {a b} h1 h2 h3 e=>?_) hs;have:=hI a b (ha.2.2 a h1) (ha.2.2 b h2) e;omega
 ·obtain ⟨i,hi,hil,rfl⟩:=hin x hx;have h2:=(hmem i hil).2;unfold inC at h2
  simpa using h2
 ·obtain ⟨i,hi,hil,rfl⟩:=hin x hx;obtain ⟨s,hsc,hss⟩:=cJ hci (fun v hv y hy=>by rw [Ns];exact (MC.1 hy).2.1) hi;obtain ⟨_,hsl,hw⟩:=MC.1 hss;obtain ⟨m,hm,em⟩:=bE (hmem i hil).1;obtain ⟨m2,hm2,em2⟩:=bE (hmem s hsl).1;have hAl:=N0 p;have hml:m<(wtsL (rsP p) (GQ p)).length:=by unfold wtsL;rw [ψ,Ns];exact hm
  refine ⟨m,by rw [ψ,YN];omega,hml,?_,(DN (entC p) s).id,?_,ϱ.2 ⟨s,hsc,Z⟩⟩
  ·rw [ωd,←em,Jg,ϖ];simp only [N6];rw [ω (by rw [YN];omega)];rfl
  ·have e:(wtsL (rsP p) (GQ p))[m]=idK2 (GQ p) (sucs (grW (rsP p) (GQ p)) m):=by
    have h8:(wtsL (rsP p) (GQ p))[m]? =some (idK2 (GQ p) (sucs (grW (rsP p) (GQ p)) m)):=by
     unfold wtsL;rw [η,ω (by rw [Ns];exact hm),DT (by rw [Ns];exact hm)];rfl
    rw [ω hml] at h8;injection h8
   rw [e];refine ϱ.2 ⟨m2,MC.2 ⟨hm,hm2,?_⟩,by rw [em2]⟩;rw [em,em2];exact hw
end Go.Proofs.YteifpcnphnhaoaaGreat
namespace Go.Proofs.YteifpcnphnhaoaaGreat
open Go.ChangeShapes Go.WideShapes Go.ChangeAt Go.RowKit
section
variable {H:Type} {enc:TypeId×Value ->H} {w:World}
abbrev tt {α:Type}:α ->Prop:=fun _=>True
theorem oI:CL enc Tryz.prog w 3 1 AF tt:=(Vd Tryz.underlying3).asQ id (fun _ _=>rfl) (fun _ _=>trivial)
theorem oJ:CL enc Tryz.prog w 2 1 AF tt:=(Vd Tryz.underlying2).asQ id (fun _ _=>rfl) (fun _ _=>trivial)
theorem oS:CL enc Tryz.prog w 9 1 Ao tt:=(Zy Tryz.underlying9).asQ id (fun _ _=>rfl) (fun _ _=>trivial)
theorem oIs:CL enc Tryz.prog w 28 1 (fun l:List Int=> .sl none (l.map AF)) tt:=(Mm Tryz.underlying28 (by kernel_rfl) (by omega) (b:=8) (by kernel_rfl) oI).asQ id (fun _ _=>rfl) (fun _ _=>trivial)
theorem oAcc:CL enc Tryz.prog w 96 3 accD tt:=
 (Io Tryz.underlying96 (by kernel_rfl) (Bn Z (by kernel_rfl) oS (Bn Z (by kernel_rfl) oI (Bn Z (by kernel_rfl) oS Ip)))).asQ (fun a=>(⟨a.1,a.2.1,a.2.2.1⟩:Tc)) (fun _ _=>rfl) (fun _ _=>trivial)
theorem oPost:CL enc Tryz.prog w 192 4 CG tt:=
 (Io Tryz.underlying192 (by kernel_rfl) (Bn Z (by kernel_rfl) oAcc (Bn Z (by kernel_rfl) oJ Ip))).asQ (fun a=>(⟨a.1,a.2.1⟩:FQ)) (fun _ _=>rfl) (fun _ _=>trivial)
theorem oPay:CL enc Tryz.prog w 193 3 Fm tt:=
 (Io Tryz.underlying193 (by kernel_rfl) (Bn Z (by kernel_rfl) oS (Bn Z (by kernel_rfl) oS (Bn Z (by kernel_rfl) oJ Ip)))).asQ (fun a=>(⟨a.1,a.2.1,a.2.2.1⟩:OF)) (fun _ _=>rfl) (fun _ _=>trivial)
theorem oRsc:CL enc Tryz.prog w 98 6 C1 tt:=
 (Io Tryz.underlying98 (by kernel_rfl) (Bn Z (by kernel_rfl) oI (Bn Z (by kernel_rfl) oAcc (Bn Z (by kernel_rfl) oS (Bn Z (by kernel_rfl) oS Ip))))).asQ (fun a=>(⟨a.1,a.2.1,a.2.2.1,a.2.2.2.1⟩:AP)) (fun _ _=>rfl) (fun _ _=>trivial)
theorem oItm:CL enc Tryz.prog w 93 6 As tt:=
 (Io Tryz.underlying93 (by kernel_rfl) (Bn Z (by kernel_rfl) oI (Bn Z (by kernel_rfl) oI (Bn Z (by kernel_rfl) oI
  (Bn Z (by kernel_rfl) (Mm Tryz.underlying90 (by kernel_rfl) (by omega) (b:=48) (by kernel_rfl) oPost)
  (Bn Z (by kernel_rfl) (Mm Tryz.underlying91 (by kernel_rfl) (by omega) (b:=40) (by kernel_rfl) oPay) (Bn Z (by kernel_rfl) oIs Ip))))))).asQ
  (fun a=>(⟨a.1,a.2.1,a.2.2.1,a.2.2.2.1,a.2.2.2.2.1,a.2.2.2.2.2.1⟩:AK)) (fun _ _=>rfl) (fun _ _=>trivial)
theorem oRoo:CL enc Tryz.prog w 100 7 Cy tt:=
 (Io Tryz.underlying100 (by kernel_rfl) (Bn Z (by kernel_rfl) oRsc (Bn Z (by kernel_rfl) oJ Ip))).asQ (fun a=>(⟨a.1,a.2.1⟩:A2)) (fun _ _=>rfl) (fun _ _=>trivial)
theorem oPrb:CL enc Tryz.prog w 25 2 Bs tt:=
 (Io Tryz.underlying25 (by kernel_rfl) (Bn Z (by kernel_rfl) (Mm Tryz.underlying22 (by kernel_rfl) (by omega) (b:=88) (by kernel_rfl) oRoo) (Bn Z (by kernel_rfl) (Mm Tryz.underlying23 (by kernel_rfl) (by omega) (b:=96) (by kernel_rfl) oItm) Ip))).asQ
  (fun a=>(⟨a.1,a.2.1⟩:Prb)) (fun _ _=>rfl) (fun _ _=>trivial)
end
end Go.Proofs.YteifpcnphnhaoaaGreat
