/- A part of the proof; no condition: Places, Open, CardA. -/
import Derived.Test.YtnkbglhdpmbgfaaGreatFmtM
import Derived.Test.YtnkbglhdpmbgfaaGreatFmtM22
import Derived.Test.YtnkbglhdpmbgfaaGreatFmtM00
import Derived.Test.YtnkbglhdpmbgfaaGreatFmtM04
import Derived.Test.YtnkbglhdpmbgfaaGreatFmtRows
import Derived.Test.YtnkbglhdpmbgfaaGreatFmtM17
import Derived.Deep.RegionLaw
import Derived.Deep.Slices
import Derived.Deep.Strs
import Derived.ChangeSlices
import Derived.LaidMore
import Derived.Lay
import Derived.LaidOnce
import Derived.OpenVars
import Derived.SevenTiedAt
import Derived.OpenShut
import Derived.MakeChecks
import Derived.Stop.JoinedTold
import Derived.Stop.Joined
import Derived.ProofKit
set_option linter.all false
set_option maxHeartbeats 16000000
set_option maxRecDepth 100000
namespace Go.Proofs.YtnkbglhdpmbgfaaGreatFmt
section
open Go Go.RowKit
attribute [local go_sem] Oper.semAt_some
theorem Th.At.ptr {w:World} {F:Nat→Prop} {x:Th} {u:Value} (h:x.At w F u):∃ b,u=.pointer (some ⟨b,0,none⟩):=by
 cases x with
 | ty t=>exact Ty.At.ptr h
 | fd d=>exact Fd.at.ptr h
 | fl o f c=>exact FlAt.ptr h
 | it i=>cases i <;> simp only [Th.At,It.At] at h
         ·obtain ⟨_,⟨b,e,_⟩,_⟩:=h;exact ⟨b,e⟩
         ·obtain ⟨_,_,⟨b,e,_⟩,_⟩:=h;exact ⟨b,e⟩
         ·obtain ⟨_,_,_,_,_,⟨b,e,_⟩,_⟩:=h;exact ⟨b,e⟩
         ·obtain ⟨_,_,⟨b,e,_⟩,_⟩:=h;exact ⟨b,e⟩
         ·obtain ⟨_,_,⟨b,e,_⟩,_⟩:=h;exact ⟨b,e⟩
 | dc d=>cases d <;> simp only [Th.At,Dc.At] at h
         ·obtain ⟨_,_,⟨b,e,_⟩,_⟩:=h;exact ⟨b,e⟩
         ·obtain ⟨_,_,⟨b,e,_⟩,_⟩:=h;exact ⟨b,e⟩
         ·obtain ⟨_,_,_,_,⟨b,e,_⟩,_⟩:=h;exact ⟨b,e⟩
 | bd o c=>obtain ⟨b,e,_⟩:=h;exact ⟨b,e⟩
mutual
theorem Nd.In.up {w:World} {B B':Nat} (hB:B≤B'):∀ (n:Nd) (s:Value),n.In w B s→n.In w B' s
 | .mk _ _ l,s,h=>by
  simp only [Nd.In] at h ⊢
  obtain ⟨p,c,rfl,hc,h⟩:=h
  refine ⟨p,c,rfl,hc,?_⟩
  rcases h with h | ⟨b,o,rfl,hb,hr⟩
  ·exact .inl h
  ·exact .inr ⟨b,o,rfl,by omega,Nd.RowIn.up hB b l o hr⟩
theorem Nd.RowIn.up {w:World} {B B':Nat} (hB:B≤B') (b:Nat):∀ (l:List Nd) (o:Nat),Nd.RowIn w B b o l→Nd.RowIn w B' b o l
 | [],_,_=>by simp [Nd.RowIn]
 | n::l,o,h=>by
  simp only [Nd.RowIn] at h ⊢
  obtain ⟨⟨h1,h2,s,h3,h4⟩,h5⟩:=h
  exact ⟨⟨h1,h2,s,h3,Nd.In.up hB n s h4⟩,Nd.RowIn.up hB b l (o+3) h5⟩
end
theorem PlRow.mono {w:World} {base base':Nat} {v:Value} {l:List Pl} (h:PlRow w base v l) (hb:base'≤base):PlRow w base' v l:=by
 refine ⟨h.1,?_⟩
 rcases h.2 with h | ⟨g,cap,cur,rfl,h1,h2⟩
 ·exact .inl h
 ·exact .inr ⟨g,cap,cur,rfl,Nat.le_trans hb h1,h2⟩
theorem Kp.putObj {S:Nat→Prop} {a w:World} (h:Kp S a w) {r:Nat} (hr:r < a.heap.size→S r) (o:Obj):Kp S a (w.putObj r o) :=
 h.trans (S':=fun k=>k=r) ⟨rfl,rfl,rfl,by simp,fun k _ hn=>World.putObj_heap_other hn⟩ fun i hi e=>by subst e;exact hr hi
def OutJ (T base:Nat) (w:World) (l:List Pl):Prop:=(∃ v,w.heap[T]?=some (.cells #[v] 27 (0,0))∧PlRow w base v l)∧Tok w∧base≤w.heap.size
theorem Ints.of_owns {w:World} {base n g cap:Nat} {T:TypeId} {l:List Int} (h:w.ownsRow base T 1 (.slice (some ⟨g,0,none⟩) n cap) n (l.map fun q=>.int .i64 q)):Ints w w.heap.size (.slice (some ⟨g,0,none⟩) n cap) l:=by
 obtain ⟨h1,h2⟩:=h
 have hn:n=l.length:=by simpa using h1.symm
 subst hn
 rcases h2 with ⟨h2,_⟩ | ⟨g',cap',cur,he,_,h2,h3,h4,h5,h6⟩
 ·cases h2
 ·cases he
  refine ⟨some ⟨g,0,none⟩,cap,rfl,h3,.inr ⟨g,0,rfl,ltb h2,fun i q hi=>cO h2 _ _ ?_⟩⟩
  have hlt:i < l.length:=(List.getElem?_eq_some_iff.1 hi).1
  have h7:(cur.toList.take (l.length*1))[i]?=some (.int .i64 q):=by rw [h6,List.getElem?_map,hi];rfl
  rw [List.getElem?_take,if_pos (by omega)] at h7
  simpa using h7
theorem newOf3 (w:World) (a b c:Obj):(((w.alloc a).alloc b).alloc c).heap[w.heap.size+1+1]?=some c:=by
 simpa using newOf ((w.alloc a).alloc b) c
theorem own0 {w:World} {base:Nat} {T:TypeId} (hb:base≤w.heap.size):((w.alloc (.cells #[] T (0,0))).drew).ownsRow base T 1 (.slice (some ⟨w.heap.size,0,none⟩) 0 0) 0 [] :=
 ⟨rfl,.inr ⟨w.heap.size,0,#[],rfl,hb,newOf w _,Nat.le_refl _,by decide,rfl,rfl⟩⟩
theorem ne_of_obj {w:World} {a b:Nat} {o o':Obj} (ha:w.heap[a]?=some o) (hb:w.heap[b]?=some o') (h:o≠o'):a≠b:=by
 rintro rfl
 rw [ha] at hb
 cases hb
 exact h rfl
abbrev RdS (L T bs:Nat):Nat→Prop:=fun b=>b=L∨b=T∨bs≤b
theorem round_fin {L T O Y bs g cap:Nat} {r:Loop} {wr wc wd:World} {l:List Pl} {x:Pl} {v:Value}
 (hI:PrInv L r O Y (OutJ T bs) wr l) (hrs:r.state=.ready) (hrp:r.pending=none) (h0:0 < L∧0 < T∧0 < bs) (hv:wr.heap[T]?=some (.cells #[v] 27 (0,0))) (hrow:PlRow wr bs v l)
 (hk:Kp No (wr.putObj L (.loop { r with state:=.busy })).drew wc) (hrow2:PlRow wd bs (.slice (some ⟨g,0,none⟩) (l.length+1) cap) (l++[x]))
 (hg:(wc.alloc (.cells #[.string x.k,.int .i64 x.a,.int .i64 x.b] 32 (0,0))).grownBy wd v.ownBlock) (hat:v.ownBlock=some g∨g=wc.heap.size+1) :
 ∃ v' w',(Instr.endRound L none).run Tryz.prog (wd.setCell ⟨T,0,none⟩ (.slice (some ⟨g,0,none⟩) (l.length+1) cap))=.ok v' w'∧(Ending.returned v'=.returned (.bool true)∧PrInv L r O Y (OutJ T bs) w' (l++[x])∧Kp (RdS L T bs) wr w'):=by
 have hL:=ltb hI.lp
 obtain ⟨⟨v2,hv2,_⟩,hTok,hbs⟩:=hI.out
 have hTL:T≠L:=ne_of_obj hv hI.lp (by simp)
 have hTO:T≠O:=ne_of_obj hv hI.ok (by simp)
 have hTY:T≠Y:=ne_of_obj hv hI.yl (by simp)
 have hOL:O≠L:=ne_of_obj hI.ok hI.lp (by simp)
 have hYL:Y≠L:=ne_of_obj hI.yl hI.lp (by simp)
 have hvb:∀ k,v.ownBlock=some k→bs≤k∧k < wr.heap.size∧k≠T∧k≠L∧k≠O∧k≠Y:=by
  intro k hk'
  rcases hrow.2 with ⟨rfl,_⟩ | ⟨g',cap',cur,rfl,h1,h2,_⟩
  ·simp [Value.ownBlock] at hk'
  ·simp only [Value.ownBlock,Option.some.injEq] at hk'
   subst hk'
   exact ⟨h1,ltb h2,ne_of_obj h2 hv (by simp),ne_of_obj h2 hI.lp (by simp),ne_of_obj h2 hI.ok (by simp),ne_of_obj h2 hI.yl (by simp)⟩
 have hb0:(wr.putObj L (.loop { r with state:=.busy })).drew.heap[L]?=some (.loop { r with state:=.busy }):=World.putObj_heap_same hL
 have hb1:=hk.at hb0 (by simp)
 have hkw:Kp (RdS L T bs) wr wc:=(((Kp.refl (RdS L T bs) wr).putObj (fun _=>.inl rfl) _).drew).no hk
 have hkd:Kp (RdS L T bs) wr wd:=(hkw.alloc _).grown hg fun k hk' _=>.inr (.inr (hvb k hk').1)
 have far:∀ k o,wr.heap[k]?=some o→k≠L→v.ownBlock≠some k→wd.heap[k]?=some o:=by
  intro k o hko hkL hkv
  have hlt:=ltb hko
  have h1:(wr.putObj L (.loop { r with state:=.busy })).drew.heap[k]?=some o:=(World.putObj_heap_other hkL).trans hko
  have h2:=hk.at h1 (by simp)
  exact (hg.block k (by simp;have:=ltb h2;omega) (fun e=>hkv e.symm)).trans ((Below.heap_alloc _ _ _ (ltb h2)).trans h2)
 have hdT:=far T _ hv hTL (fun e=>(hvb T e).2.2.1 rfl)
 have hdO:=far O _ hI.ok hOL (fun e=>(hvb O e).2.2.2.2.1 rfl)
 have hdY:=far Y _ hI.yl hYL (fun e=>(hvb Y e).2.2.2.2.2 rfl)
 have hdL:wd.heap[L]?=some (.loop { r with state:=.busy }) :=
  (hg.block L (by simp;have:=ltb hb1;omega) (fun e=>(hvb L e.symm).2.2.2.1 rfl)).trans ((Below.heap_alloc _ _ _ (ltb hb1)).trans hb1)
 obtain ⟨wf,hwf⟩:∃ wf,wf=wd.setCell ⟨T,0,none⟩ (.slice (some ⟨g,0,none⟩) (l.length+1) cap):=⟨_,rfl⟩
 rw [← hwf]
 have hfL:wf.heap[L]?=some (.loop { r with state:=.busy }):=by rw [hwf];exact setOther hdL hTL.symm _
 have hfT:wf.heap[T]?=some (.cells #[.slice (some ⟨g,0,none⟩) (l.length+1) cap] 27 (0,0)):=by rw [hwf];exact setOf hdT 0 _
 have hfO:wf.heap[O]?=some (.cells #[.bool true] 4 (0,0)):=by rw [hwf];exact setOther hdO hTO.symm _
 have hfY:wf.heap[Y]?=some (.cells #[.func (.yield L) #[] #[]] 61 (0,0)):=by rw [hwf];exact setOther hdY hTY.symm _
 have hkf:Kp (RdS L T bs) wr wf:=by rw [hwf];exact hkd.setCell (p:=⟨T,0,none⟩) (fun _=>.inr (.inl rfl)) _
 have her:=run_endRound (P:=Tryz.prog) none hfL
 have hr:({ { r with state:=.busy } with state:=if (none:Option Code).isNone then .ready else .done,pending:=none }:Loop)=r:=by
  cases r
  simp only at hrs hrp
  subst hrs;subst hrp
  rfl
 refine ⟨_,_,her,rfl,?_,?_⟩
 ·have hLf:=ltb hfL
  have e1:∀ {k:Nat} {o:Obj},wf.heap[k]?=some o→k≠L→(wf.putObj L (.loop { { r with state:=.busy } with state:=if (none:Option Code).isNone then .ready else .done,pending:=none })).heap[k]?=some o:=fun h hne=>(World.putObj_heap_other hne).trans h
  refine ⟨by rw [World.putObj_heap_same hLf,hr],e1 hfO hOL,e1 hfY hYL,⟨_,e1 hfT hTL,?_⟩,?_,?_⟩
  ·have hrl:(l++[x]).length=l.length+1:=by simp
   have hne:∀ k,(Value.slice (some ⟨g,0,none⟩) (l.length+1) cap).ownBlock=some k→k≠T∧k≠L:=by
    intro k hk'
    simp only [Value.ownBlock,Option.some.injEq] at hk'
    subst hk'
    rcases hrow2.2 with ⟨h,_⟩ | ⟨g',cap',cur,he,h1,h2,_⟩
    ·cases h
    ·have h9:some (⟨g,0,none⟩:Addr)=some ⟨g',0,none⟩:=by injection he
     obtain rfl:g=g':=by injection h9 with h9;injection h9
     exact ⟨ne_of_obj h2 hdT (by simp),ne_of_obj h2 hdL (by simp)⟩
   refine hrow2.on (S:=fun k=>k=T∨k=L) (((by rw [hwf];exact (Kp.refl _ wd).setCell (p:=⟨T,0,none⟩) (fun _=>.inl rfl) _:Kp (fun k=>k=T∨k=L) wd wf)).putObj (fun _=>.inr rfl) _) ?_
   intro k hk' hS
   rcases hS with h | h
   ·exact (hne k hk').1 h
   ·exact (hne k hk').2 h
  ·exact hTok.stay (hkf.putObj (fun _=>.inl rfl) _) (by rintro (h | h | h) <;> omega)
  ·have:=(hkf.putObj (S:=RdS L T bs) (r:=L) (fun _=>.inl rfl) (.loop r)).size
   simp only [World.putObj_size] at this ⊢
   omega
 ·exact hkf.putObj (fun _=>.inl rfl) _
theorem rnd_of {L T O Y bs:Nat} {r:Loop} {F:Nat→Prop} (hrs:r.state=.ready) (hrp:r.pending=none) (hpar:r.params=#[13]) (h0:0 < L∧0 < T∧0 < bs) (hne:O≠L∧O≠Y) (hO:bs≤O) (hF:∀ b,F b→b≠L∧b≠T∧b < bs)
 (hround:∀ (n:Nat) (wr wb:World) (l:List Pl) (x:Th) (ub:Nat) (v:Value) (R:Ending→World→Prop),
   (Instr.beginRound L).run Tryz.prog wr=.ok () wb→wb.heap[T]?=some (.cells #[v] 27 (0,0))→PlRow wb bs v l→Tok wb→x.At wb F (.pointer (some ⟨ub,0,none⟩))→x.ok→l.length < 1048576→(∀ g,v.ownBlock=some g→g≠T)→bs≤wb.heap.size →
   (∀ (wc wd:World) (g cap:Nat),Kp No wb.drew wc→PlRow wd bs (.slice (some ⟨g,0,none⟩) (l.length+1) cap) (l++[⟨x.kind,x.pos,x.fin⟩])→(wc.alloc (.cells #[.string x.kind,.int .i64 x.pos,.int .i64 x.fin] 32 (0,0))).grownBy wd v.ownBlock→(v.ownBlock=some g∨g=wc.heap.size+1) →
     ∃ v' w',(Instr.endRound L none).run Tryz.prog (wd.setCell ⟨T,0,none⟩ (.slice (some ⟨g,0,none⟩) (l.length+1) cap))=.ok v' w'∧R (.returned v') w') →
   ∀ K:Act→World→Prop,(∀ a₁ w₁,(∃ w₂,(Instr.beginRound L).run Tryz.prog w₁=.ok () w₂∧r.body.wpIn (Fence.wide.inRound L) n Tryz.prog (roundPost Tryz.prog L R) a₁ w₂)→K a₁ w₁) →
   r.assign.wpIn (Fence.wide.inRound L) n Tryz.prog (Exit.then K (fun _ _ _=>False)) { tmps:=r.tmps.setIfInBounds 13 (.iface x.ty' (.pointer (some ⟨ub,0,none⟩))),defers:=[] } wr) :
 Rnd L r O Y F (RdS L T bs) (OutJ T bs) where
 params:=hpar
 ne:=hne
 sO:=.inr (.inr hO)
 apart:=by
  rintro b hb (h | h | h)
  ·exact (hF b hb).1 h
  ·exact (hF b hb).2.1 h
  ·have:=(hF b hb).2.2;omega
 setO:=by
  intro w l v h
  obtain ⟨⟨v2,hv,hrow⟩,hT,hbs⟩:=h.out
  have hTO:T≠O:=ne_of_obj hv h.ok (by simp)
  have hk:Kp (fun b=>b=O) w (w.setCell ⟨O,0,none⟩ v):=Kp.setCell (S:=fun b=>b=O) (Kp.refl _ w) (p:=⟨O,0,none⟩) (fun _=>rfl) _
  refine ⟨⟨v2,setOther hv hTO _,hrow.on hk ?_⟩,hT.stay hk (by omega),Nat.le_trans hbs hk.size⟩
  rintro g hg rfl
  rcases hrow.2 with ⟨rfl,_⟩ | ⟨g',cap',cur,rfl,h1,h2,_⟩
  ·simp [Value.ownBlock] at hg
  ·simp only [Value.ownBlock,Option.some.injEq] at hg
   subst hg
   exact ne_of_obj h2 h.ok (by simp) rfl
 round:=by
  intro n wr l x u hI hxat hxok hxlen
  obtain ⟨ub,rfl⟩:=hxat.ptr
  obtain ⟨⟨v,hv,hrow⟩,hT,hbs⟩:=hI.out
  have hTL:T≠L:=ne_of_obj hv hI.lp (by simp)
  have hk:Kp (fun b=>b=L) wr (wr.putObj L (.loop { r with state:=.busy })):=Kp.putObj (S:=fun b=>b=L) (Kp.refl _ wr) (fun _=>rfl) _
  have hvb:∀ g,v.ownBlock=some g→g≠T∧g≠L:=by
   intro g hg
   rcases hrow.2 with ⟨rfl,_⟩ | ⟨g',cap',cur,rfl,h1,h2,_⟩
   ·simp [Value.ownBlock] at hg
   ·simp only [Value.ownBlock,Option.some.injEq] at hg
    subst hg
    exact ⟨ne_of_obj h2 hv (by simp),ne_of_obj h2 hI.lp (by simp)⟩
  exact roundIn_of_wpIn trivial (hround n wr _ l x ub v _ (run_beginRound hI.lp hrs) (hk.at hv hTL) (hrow.on hk fun g hg=>(hvb g hg).2) (hT.stay hk (by omega)) (hxat.on hk fun b hb h=>(hF b hb).1 h) hxok hxlen (fun g hg=>(hvb g hg).1) (Nat.le_trans hbs hk.size)
   (fun wc wd g cap h1 h2 h3 h4=>round_fin hI hrs hrp h0 hv hrow h1 h2 h3 h4) _ fun _ _ h=>h)
theorem places_c (d:Dc) (w:World) (B:Nat) (s at_:Value) (hI:Ints w B at_ d.toks) (hn:d.nd.In w B s) (hB:B≤w.heap.size) (hT:Tok w) (hok:d.ok) (hsz:d.nd.size≤400) (hlen:d.pre.length≤1048576) (htl:d.toks.length≤1048576) :
 Calls Tryz.prog 8 #[.agg #[.string d.nd.k,.string d.nd.t,s],at_] w fun e w'=>(∃ v,e=.returned v∧PlRow w' w.heap.size v d.pre)∧Kp No w w':=by
 have HI:=hd_ hI;have HN:=hd_ hn;have HT:=hd_ hT;have HOK:=hd_ hok;have HSZ:=hd_ hsz;have HLEN:=hd_ hlen;have HTL:=hd_ htl
 obtain ⟨q,c,rfl,hc⟩:=hn.form
 obtain ⟨ap,ac,rfl,hac,hap⟩:=hI
 have hne:d.toks≠[]:=by cases d <;> simp [Dc.toks]
 obtain ⟨ab,ao,rfl,hab,har⟩:=hap.resolve_left hne
 have HAR:=hd_ har
 have HPOS:Hid (0 < d.toks.length):=by
  cases hd:d.toks with
  | nil=>exact absurd hd hne
  | cons _ _=>show 0 < _+1;omega
 clear hn hT hok hsz hlen htl hap har hne
 refine (callsIn_wide (n:=8)).1 ?_
 refine callsIn_of_wp_marks Tryz.func8 rfl trivial ?_ rfl
 simp only [Tryz.ntmps8,List.size_toArray,lc_,ln_,Nat.reduceAdd,Nat.reduceSub,Array.replicate_succ,Array.replicate_zero,List.push_toArray,List.append_toArray,List.nil_append,List.cons_append]
 gi_wp2
 refine wpIn_wide.2 ?_
 refine wp_region_noPanic ?_
 have hE:Hid (∀ (args:Array Value) (w:World),(callFunc 36 args).run Tryz.prog w=.ok (.enter 36 args) w):=fun args w=>by simp [callFunc,Tryz.func36,Tryz.f36]
 obtain ⟨W0,hW0⟩:∃ W0,W0=(w.alloc (.cells #[.string d.nd.k,.string d.nd.t,.slice q d.nd.l.length c] 24 (0,0))).alloc (.cells #[.slice none 0 0] 27 (0,0)):=⟨_,rfl⟩
 have sW0:W0.heap.size=w.heap.size+2:=by rw [hW0];simp
 have kW0:Kp No w W0:=by rw [hW0];exact ((Kp.refl No w).alloc _).alloc _
 have hOWN:=hd_ (own0 (w:=W0) (base:=w.heap.size) (T:=3) (by omega))
 have hNEWS:Hid (∀ (j:Nat) (u:Value),(d.toks.map fun q=>Value.int .i64 q)[j]?=some u→((W0.alloc (.cells #[] 3 (0,0))).drew).cell? ((⟨ab,ao,none⟩:Addr).add j)=some u):=by
  intro j u hu
  rw [List.getElem?_map] at hu
  cases hq:d.toks[j]? with
  | none=>rw [hq] at hu;simp at hu
  | some p =>
   rw [hq] at hu
   simp only [Option.map_some,Option.some.injEq] at hu
   subst hu
   have hadd:(⟨ab,ao,none⟩:Addr).add j=⟨ab,ao+j,none⟩:=by unfold Addr.add;split <;> simp_all
   rw [hadd]
   have h1:=World.cell?_of_block (w:=w) (w':=(W0.alloc (.cells #[] 3 (0,0))).drew) (a:=⟨ab,ao+j,none⟩) ((Below.heap_alloc W0 _ ab (by omega)).trans (kW0.block ab (by omega) (by simp)))
   exact h1.trans (HAR.out j p hq)
 have b0:W0.heap[w.heap.size]?=some (.cells #[.string d.nd.k,.string d.nd.t,.slice q d.nd.l.length c] 24 (0,0)):=by rw [hW0];exact allocOf (newOf w _) _
 have b1:W0.heap[w.heap.size+1]?=some (.cells #[.slice none 0 0] 27 (0,0)):=by rw [hW0];exact newOf2 w _ _
 have z0:=cO b0 0 _ rfl
 have z1:=cO b0 1 _ rfl
 have z2:=cO b0 2 _ rfl
 have lb0:=ltb b0
 have SW0:=hd_ sW0;have HB0:=hd_ b0;have HB1:=hd_ b1;have HKW0:=hd_ kW0
 rw [← hW0]
 clear hW0 b0 b1 kW0 sW0
 go_region_law
  (first
    | (refine step_is_append rfl ?_
       refine step_append_lies _ (by rfl) (.tmp 8) (.tmp 9) 25 (by rfl) w.heap.size 3 _ _ 1 8 Tryz.underlying25 Tryz.type3 rfl rfl rfl rfl (by omega) (.slice (some ⟨W0.heap.size,0,none⟩) 0 0) 0 [] (by rfl) hOWN.out ⟨ab,ao,none⟩ d.toks.length ac (d.toks.map fun q=>.int .i64 q) (by rfl) (by simp) hNEWS.out (by intro u hu;obtain ⟨q,_,rfl⟩:=List.mem_map.1 hu;rfl) HPOS.out (by have:=HTL.out;unfold maxLen;omega) (by have:=HTL.out;omega) (by have:=SW0.out;simp;omega) (W0.heap.size+1) (by simp) ?_
       intro g cap w3 hown3 hgrow3 hat3 hlt3
       simp only [Nat.zero_add,List.nil_append] at hown3 ⊢
       have hk0:Kp (fun b=>b=W0.heap.size) W0 w3:=(((Kp.refl _ W0).alloc _).drew).grown hgrow3 (fun k hk _=>by simpa [Value.ownBlock] using hk.symm)
       have hk3:Kp No w w3:=HKW0.out.trans hk0 (fun i hi h=>by have:=SW0.out;have h:i=W0.heap.size:=h;omega)
       have zz0:=(hk0.cell lb0 (by omega)).trans z0
       have zz1:=(hk0.cell lb0 (by omega)).trans z1
       have zz2:=(hk0.cell lb0 (by omega)).trans z2
       have HSZ3:Hid (W0.heap.size < w3.heap.size):=(by have:=hgrow3.size;simp at this;omega:W0.heap.size < w3.heap.size)
       have HK0:=hd_ hk0
       have HK3:=hd_ hk3
       have HIN:=hd_ (Ints.of_owns hown3)
       clear hown3 hgrow3 hat3 hlt3 hk0 hk3)
    | (refine step_is_call 15 rfl ?_
       go_simp
       go_at_call 15
       refine (build_c d w3 w3.heap.size _ _ HIN.out (Nd.In.up (Nat.le_trans hB HK3.out.size) _ _ (HN.out.stay fun b hb=>HK3.out.block b (by omega) (by simp))) (Nat.le_refl _) (HT.out.stay HK3.out (by simp)) HOK.out HSZ.out).mono ?_
       rintro e w4 ⟨⟨bv,rfl,hat4⟩,hk4⟩
       have HAT4:=hd_ hat4
       have HK4:=hd_ hk4
       clear hat4 hk4)
    | (refine step_is_call 14 rfl ?_
       go_simp
       go_at_call 14
       refine (preorder_c w4 d.ty bv).mono ?_
       rintro e w5 ⟨rfl,rfl⟩))
 all_goals
  refine NoPanic.normal ?_
  gi_wp2
  refine wpIn_range (gf:=36) (lb:=#[.pointer (some ⟨w4.heap.size,0,none⟩)]) rfl hE.out ?_
  intro fn
 all_goals
  have hw0s:=SW0.out
  have hs3:w.heap.size+2 < w3.heap.size:=by have:=HK0.out.size;have:=HSZ3.out;omega
  have hs4:=HK4.out.size
  simp only [World.size_alloc]
  refine callsIn_wide.2 ?_
  have hcat:(#[.func (.yield (w4.heap.size+1+1)) #[] #[]]++#[.pointer (some ⟨w4.heap.size,0,none⟩)]:Array Value)=#[.func (.yield (w4.heap.size+1+1)) #[] #[],.pointer (some ⟨w4.heap.size,0,none⟩)]:=rfl
  rw [hcat]
  have hTb:w4.heap[w.heap.size+1]?=some (.cells #[.slice none 0 0] 27 (0,0)):=HK4.out.at (HK0.out.at HB1.out (by omega)) (by simp)
  refine Calls.mono (pre_c d (fun b=>w3.heap.size≤b∧b < w4.heap.size) (RdS (w4.heap.size+1+1) (w.heap.size+1) (w4.heap.size+3)) (OutJ (w.heap.size+1) (w4.heap.size+3)) _ (w4.heap.size+1+1) w4.heap.size _ bv (newOf3 w4 _ _ _) (allocOf (allocOf (newOf w4 _) _) _)
   (Dc.At.stay (fun b hb hF=>⟨(Below.heap_alloc _ _ _ (by simp;omega)).trans ((Below.heap_alloc _ _ _ (by simp;omega)).trans (Below.heap_alloc _ _ _ hb)),hF,hb⟩) d bv HAT4.out) ⟨HOK.out,HSZ.out⟩ HLEN.out
   (fun o o'=>⟨⟨_,allocOf (allocOf (allocOf (allocOf (allocOf hTb _) _) _) _) _,PlRow.nil _ _⟩,(HT.out.stay HK3.out (by simp)).stay ((((((HK4.out.alloc _).alloc _).alloc _).alloc _).alloc _)) (by simp),by simp⟩) ?hR) ?post
  case hR =>
   refine rnd_of rfl rfl rfl ⟨by omega,by omega,by omega⟩ ⟨by first | (simp;done) | (simp;omega),by first | (simp;done) | (simp;omega)⟩ (by first | (simp;done) | (simp;omega)) (fun b hb=>⟨by omega,by omega,by omega⟩) ?_
   intro n wr wb l x ub v R eb hTv hrow htok hxat hxok hxlen hvb hbs hfin K hK
   have HFIN:=hd_ hfin
   have HVB:=hd_ hvb
   have HLN:=hd_ hxlen
   have HEB:=hd_ eb
   have HROW:Hid (∀ wc,Kp No wb.drew wc→PlRow (wc.alloc (.cells #[.string x.kind,.int .i64 x.pos,.int .i64 x.fin] 32 (0,0))) (w4.heap.size+3) v l):=fun wc hk=>hrow.on (((Kp.refl No wb).drew.trans' hk).alloc _) (by simp)
   have hxat:x.At wb.drew _ _:=hxat.on (S:=No) ((Kp.refl No wb).drew) (by simp)
   have KC:=hd_ (kindof_c x wb.drew _ _ (htok.stay ((Kp.refl No wb).drew) (by simp)) hxat hxok.few)
   have PC:Hid (∀ W,Kp No wb.drew W→Calls Tryz.prog x.fpos #[.pointer (some ⟨ub,0,none⟩)] W (Ret x.pos W)):=fun W hk=>thpos_c x W _ _ (hxat.on hk (by simp)) hxok
   have EC:Hid (∀ W,Kp No wb.drew W→Calls Tryz.prog x.fend #[.pointer (some ⟨ub,0,none⟩)] W (Ret x.fin W)):=fun W hk=>thend_c x W _ _ (hxat.on hk (by simp)) hxok
   have x0:wb.drew.cell? ⟨w.heap.size+1,0,none⟩=some v:=cO hTv 0 _ rfl
   have f0:wb.drew.frozen? ⟨w.heap.size+1,0,none⟩=false:=fO hTv 0
   have lT:w.heap.size+1 < wb.drew.heap.size:=ltb hTv
   have nT:¬ No (w.heap.size+1):=by simp
   have lW:w4.heap.size+3≤wb.drew.heap.size:=hbs
   have n1:=th_nv_Pos x;have n2:=th_mv_Pos x;have n3:=th_nv_End x;have n4:=th_mv_End x
   clear hfin hvb hxlen eb hTv hrow htok hxat hxok hbs
   gi_wp2
   refine ⟨wb,HEB.out,?_⟩
   gi_wp2
   refine wpIn_region_round (by kernel_rfl) ?_ (no_defer (by kernel_rfl)) ?_
   ·rintro ⟨a9,w9,h9⟩
    exact h9
   refine wpAny_take (i:=1) (v:=(.iface x.ty' (.pointer (some ⟨ub,0,none⟩)))) rfl (by kernel_rfl) (by kernel_rfl) (by kernel_rfl) (fun _ _ _ h=>h) (Or.inl ⟨by rfl,?_⟩) ?_
   ·intro w9
    go_simp
   refine wpAny_take (i:=3) (v:=(.iface x.ty' (.pointer (some ⟨ub,0,none⟩)))) rfl (by kernel_rfl) (by kernel_rfl) (by kernel_rfl) (fun _ _ _ h=>h) (Or.inl ⟨by rfl,?_⟩) ?_
   ·intro w9
    go_simp
   refine wpAny_take (i:=5) (v:=(.iface x.ty' (.pointer (some ⟨ub,0,none⟩)))) rfl (by kernel_rfl) (by kernel_rfl) (by kernel_rfl) (fun _ _ _ h=>h) (Or.inl ⟨by rfl,?_⟩) ?_
   ·intro w9
    go_simp
   refine wpAny_ready (rs:=[0,2]) (by kernel_rfl) (by simp) ?_
   refine AllReady.cons rfl (fun K hK=>?_) ?_
   ·go_simp
    refine hK _ _ ?_
    clear hK K
    refine wpAny_ready (rs:=[2]) (by kernel_rfl) (by simp) ?_
    refine AllReady.cons rfl (fun K hK=>?_) AllReady.nil
    refine step_is_call 16 rfl ?_
    go_simp
    go_at_call 16
    refine KC.out.mono ?_
    rintro e wa ⟨rfl,hka⟩
    have HKA:=hd_ hka
    have xa:=(hka.cell lT nT).trans x0
    have fa:=(hka.frozen lT nT).trans f0
    have sa:=hka.size
    clear hka
    try go_simp
    refine hK _ _ ?_
    clear hK K
    refine wpAny_ready (rs:=[4]) (by kernel_rfl) (by simp) ?_
    refine AllReady.cons rfl (fun K hK=>?_) AllReady.nil
    go_simp
    rw [th_call_Pos,Oper.upon_enter]
    refine (PC.out wa HKA.out).mono ?_
    rintro e wb ⟨rfl,hkb⟩
    have hkb:Kp No _ wb:=HKA.out.trans' hkb
    have HKB:=hd_ hkb
    have xb:=(hkb.cell lT nT).trans x0
    have fb:=(hkb.frozen lT nT).trans f0
    have sb:=hkb.size
    clear hkb
    try go_simp
    refine hK _ _ ?_
    clear hK K
    refine wpAny_ready (rs:=[6]) (by kernel_rfl) (by simp) ?_
    refine AllReady.cons rfl (fun K hK=>?_) AllReady.nil
    go_simp
    rw [th_call_End,Oper.upon_enter]
    refine (EC.out wb HKB.out).mono ?_
    rintro e wc ⟨rfl,hkc⟩
    have hkc:Kp No _ wc:=HKB.out.trans' hkc
    have HKC:=hd_ hkc
    have xc:=(hkc.cell lT nT).trans x0
    have fc:=(hkc.frozen lT nT).trans f0
    have sc:=hkc.size
    have HBX:=hd_ (newOf wc (.cells #[.string x.kind,.int .i64 x.pos,.int .i64 x.fin] 32 (0,0)))
    have HRW:Hid (PlRow (wc.alloc (.cells #[.string x.kind,.int .i64 x.pos,.int .i64 x.fin] 32 (0,0))) (w4.heap.size+3) v l):=HROW.out wc hkc
    have lc:(w4.heap.size+3)≤wc.heap.size:=Nat.le_trans lW sc
    have lTc:w.heap.size+1 < wc.heap.size:=by omega
    clear hkc
    try go_simp
    refine hK _ _ ?_
    clear hK K
    refine wpAny_take (i:=7) (v:=.agg #[.string x.kind,.int .i64 x.pos,.int .i64 x.fin]) rfl (by kernel_rfl) (by kernel_rfl) (by kernel_rfl) (fun _ _ _ h=>h) (Or.inl ⟨by rfl,?_⟩) ?_
    ·intro w9
     go_simp
    refine wpAny_ready (rs:=[8]) (by kernel_rfl) (by simp) ?_
    refine AllReady.cons rfl (fun K hK=>?_) AllReady.nil
    go_simp
    refine hK _ _ ?_
    clear hK K
    refine wpAny_ready (rs:=[9]) (by kernel_rfl) (by simp) ?_
    refine AllReady.cons rfl (fun K hK=>?_) AllReady.nil
    refine step_is_append rfl ?_
    refine step_append_pl (c:=1) (p:=⟨x.kind,x.pos,x.fin⟩) (by rfl) (.tmp 14) (.tmp 22) 27 (by rfl) Tryz.underlying27 Tryz.type32 rfl rfl (by decide) rfl (by rfl) HRW.out (by rfl) HBX.out (by have:=HLN.out;omega) (by simp;omega) (wc.heap.size+1) (by simp) ?_
    intro g cap wd hrowd hgrowd hatd hltd
    have hgT:some (w.heap.size+1)≠v.ownBlock:=fun e=>HVB.out _ e.symm rfl
    have xd:=(hgrowd.cell_far ⟨w.heap.size+1,0,none⟩ (show w.heap.size+1 < (World.alloc wc _).heap.size by simp;omega) hgT).trans ((World.cell?_alloc_past (w:=wc) _ (w.heap.size+1) 0 (by omega)).trans xc)
    have fd:=(hgrowd.frozen_far ⟨w.heap.size+1,0,none⟩ (show w.heap.size+1 < (World.alloc wc _).heap.size by simp;omega) hgT).trans ((World.frozen?_of_block (w:=wc) (a:=⟨w.heap.size+1,0,none⟩) (Below.heap_alloc wc _ (w.heap.size+1) (by omega))).trans fc)
    have HD:=a3_ hrowd hgrowd hatd
    clear hrowd hgrowd hatd
    try go_simp
    refine hK _ _ ?_
    clear hK K
    refine wpAny_ready (rs:=[10]) (by kernel_rfl) (by simp) ?_
    refine AllReady.cons rfl (fun K hK=>?_) AllReady.nil
    go_simp
    refine hK _ _ ?_
    clear hK K
    refine wpAny_done (by kernel_rfl) ?_ _
    exact HFIN.out wc wd g cap HKC.out HD.out.1 HD.out.2.1 HD.out.2.2
   refine AllReady.cons rfl (fun K hK=>?_) AllReady.nil
   refine step_is_call 16 rfl ?_
   go_simp
   go_at_call 16
   refine KC.out.mono ?_
   rintro e wa ⟨rfl,hka⟩
   have HKA:=hd_ hka
   have xa:=(hka.cell lT nT).trans x0
   have fa:=(hka.frozen lT nT).trans f0
   have sa:=hka.size
   clear hka
   try go_simp
   refine hK _ _ ?_
   clear hK K
   refine wpAny_ready (rs:=[0,4]) (by kernel_rfl) (by simp) ?_
   refine AllReady.cons rfl (fun K hK=>?_) ?_
   ·go_simp
    refine hK _ _ ?_
    clear hK K
    refine wpAny_ready (rs:=[4]) (by kernel_rfl) (by simp) ?_
    refine AllReady.cons rfl (fun K hK=>?_) AllReady.nil
    go_simp
    rw [th_call_Pos,Oper.upon_enter]
    refine (PC.out wa HKA.out).mono ?_
    rintro e wb ⟨rfl,hkb⟩
    have hkb:Kp No _ wb:=HKA.out.trans' hkb
    have HKB:=hd_ hkb
    have xb:=(hkb.cell lT nT).trans x0
    have fb:=(hkb.frozen lT nT).trans f0
    have sb:=hkb.size
    clear hkb
    try go_simp
    refine hK _ _ ?_
    clear hK K
    refine wpAny_ready (rs:=[6]) (by kernel_rfl) (by simp) ?_
    refine AllReady.cons rfl (fun K hK=>?_) AllReady.nil
    go_simp
    rw [th_call_End,Oper.upon_enter]
    refine (EC.out wb HKB.out).mono ?_
    rintro e wc ⟨rfl,hkc⟩
    have hkc:Kp No _ wc:=HKB.out.trans' hkc
    have HKC:=hd_ hkc
    have xc:=(hkc.cell lT nT).trans x0
    have fc:=(hkc.frozen lT nT).trans f0
    have sc:=hkc.size
    have HBX:=hd_ (newOf wc (.cells #[.string x.kind,.int .i64 x.pos,.int .i64 x.fin] 32 (0,0)))
    have HRW:Hid (PlRow (wc.alloc (.cells #[.string x.kind,.int .i64 x.pos,.int .i64 x.fin] 32 (0,0))) (w4.heap.size+3) v l):=HROW.out wc hkc
    have lc:(w4.heap.size+3)≤wc.heap.size:=Nat.le_trans lW sc
    have lTc:w.heap.size+1 < wc.heap.size:=by omega
    clear hkc
    try go_simp
    refine hK _ _ ?_
    clear hK K
    refine wpAny_take (i:=7) (v:=.agg #[.string x.kind,.int .i64 x.pos,.int .i64 x.fin]) rfl (by kernel_rfl) (by kernel_rfl) (by kernel_rfl) (fun _ _ _ h=>h) (Or.inl ⟨by rfl,?_⟩) ?_
    ·intro w9
     go_simp
    refine wpAny_ready (rs:=[8]) (by kernel_rfl) (by simp) ?_
    refine AllReady.cons rfl (fun K hK=>?_) AllReady.nil
    go_simp
    refine hK _ _ ?_
    clear hK K
    refine wpAny_ready (rs:=[9]) (by kernel_rfl) (by simp) ?_
    refine AllReady.cons rfl (fun K hK=>?_) AllReady.nil
    refine step_is_append rfl ?_
    refine step_append_pl (c:=1) (p:=⟨x.kind,x.pos,x.fin⟩) (by rfl) (.tmp 14) (.tmp 22) 27 (by rfl) Tryz.underlying27 Tryz.type32 rfl rfl (by decide) rfl (by rfl) HRW.out (by rfl) HBX.out (by have:=HLN.out;omega) (by simp;omega) (wc.heap.size+1) (by simp) ?_
    intro g cap wd hrowd hgrowd hatd hltd
    have hgT:some (w.heap.size+1)≠v.ownBlock:=fun e=>HVB.out _ e.symm rfl
    have xd:=(hgrowd.cell_far ⟨w.heap.size+1,0,none⟩ (show w.heap.size+1 < (World.alloc wc _).heap.size by simp;omega) hgT).trans ((World.cell?_alloc_past (w:=wc) _ (w.heap.size+1) 0 (by omega)).trans xc)
    have fd:=(hgrowd.frozen_far ⟨w.heap.size+1,0,none⟩ (show w.heap.size+1 < (World.alloc wc _).heap.size by simp;omega) hgT).trans ((World.frozen?_of_block (w:=wc) (a:=⟨w.heap.size+1,0,none⟩) (Below.heap_alloc wc _ (w.heap.size+1) (by omega))).trans fc)
    have HD:=a3_ hrowd hgrowd hatd
    clear hrowd hgrowd hatd
    try go_simp
    refine hK _ _ ?_
    clear hK K
    refine wpAny_ready (rs:=[10]) (by kernel_rfl) (by simp) ?_
    refine AllReady.cons rfl (fun K hK=>?_) AllReady.nil
    go_simp
    refine hK _ _ ?_
    clear hK K
    refine wpAny_done (by kernel_rfl) ?_ _
    exact HFIN.out wc wd g cap HKC.out HD.out.1 HD.out.2.1 HD.out.2.2
   refine AllReady.cons rfl (fun K hK=>?_) AllReady.nil
   go_simp
   rw [th_call_Pos,Oper.upon_enter]
   refine (PC.out wa HKA.out).mono ?_
   rintro e wb ⟨rfl,hkb⟩
   have hkb:Kp No _ wb:=HKA.out.trans' hkb
   have HKB:=hd_ hkb
   have xb:=(hkb.cell lT nT).trans x0
   have fb:=(hkb.frozen lT nT).trans f0
   have sb:=hkb.size
   clear hkb
   try go_simp
   refine hK _ _ ?_
   clear hK K
   refine wpAny_ready (rs:=[0,6]) (by kernel_rfl) (by simp) ?_
   refine AllReady.cons rfl (fun K hK=>?_) ?_
   ·go_simp
    refine hK _ _ ?_
    clear hK K
    refine wpAny_ready (rs:=[6]) (by kernel_rfl) (by simp) ?_
    refine AllReady.cons rfl (fun K hK=>?_) AllReady.nil
    go_simp
    rw [th_call_End,Oper.upon_enter]
    refine (EC.out wb HKB.out).mono ?_
    rintro e wc ⟨rfl,hkc⟩
    have hkc:Kp No _ wc:=HKB.out.trans' hkc
    have HKC:=hd_ hkc
    have xc:=(hkc.cell lT nT).trans x0
    have fc:=(hkc.frozen lT nT).trans f0
    have sc:=hkc.size
    have HBX:=hd_ (newOf wc (.cells #[.string x.kind,.int .i64 x.pos,.int .i64 x.fin] 32 (0,0)))
    have HRW:Hid (PlRow (wc.alloc (.cells #[.string x.kind,.int .i64 x.pos,.int .i64 x.fin] 32 (0,0))) (w4.heap.size+3) v l):=HROW.out wc hkc
    have lc:(w4.heap.size+3)≤wc.heap.size:=Nat.le_trans lW sc
    have lTc:w.heap.size+1 < wc.heap.size:=by omega
    clear hkc
    try go_simp
    refine hK _ _ ?_
    clear hK K
    refine wpAny_take (i:=7) (v:=.agg #[.string x.kind,.int .i64 x.pos,.int .i64 x.fin]) rfl (by kernel_rfl) (by kernel_rfl) (by kernel_rfl) (fun _ _ _ h=>h) (Or.inl ⟨by rfl,?_⟩) ?_
    ·intro w9
     go_simp
    refine wpAny_ready (rs:=[8]) (by kernel_rfl) (by simp) ?_
    refine AllReady.cons rfl (fun K hK=>?_) AllReady.nil
    go_simp
    refine hK _ _ ?_
    clear hK K
    refine wpAny_ready (rs:=[9]) (by kernel_rfl) (by simp) ?_
    refine AllReady.cons rfl (fun K hK=>?_) AllReady.nil
    refine step_is_append rfl ?_
    refine step_append_pl (c:=1) (p:=⟨x.kind,x.pos,x.fin⟩) (by rfl) (.tmp 14) (.tmp 22) 27 (by rfl) Tryz.underlying27 Tryz.type32 rfl rfl (by decide) rfl (by rfl) HRW.out (by rfl) HBX.out (by have:=HLN.out;omega) (by simp;omega) (wc.heap.size+1) (by simp) ?_
    intro g cap wd hrowd hgrowd hatd hltd
    have hgT:some (w.heap.size+1)≠v.ownBlock:=fun e=>HVB.out _ e.symm rfl
    have xd:=(hgrowd.cell_far ⟨w.heap.size+1,0,none⟩ (show w.heap.size+1 < (World.alloc wc _).heap.size by simp;omega) hgT).trans ((World.cell?_alloc_past (w:=wc) _ (w.heap.size+1) 0 (by omega)).trans xc)
    have fd:=(hgrowd.frozen_far ⟨w.heap.size+1,0,none⟩ (show w.heap.size+1 < (World.alloc wc _).heap.size by simp;omega) hgT).trans ((World.frozen?_of_block (w:=wc) (a:=⟨w.heap.size+1,0,none⟩) (Below.heap_alloc wc _ (w.heap.size+1) (by omega))).trans fc)
    have HD:=a3_ hrowd hgrowd hatd
    clear hrowd hgrowd hatd
    try go_simp
    refine hK _ _ ?_
    clear hK K
    refine wpAny_ready (rs:=[10]) (by kernel_rfl) (by simp) ?_
    refine AllReady.cons rfl (fun K hK=>?_) AllReady.nil
    go_simp
    refine hK _ _ ?_
    clear hK K
    refine wpAny_done (by kernel_rfl) ?_ _
    exact HFIN.out wc wd g cap HKC.out HD.out.1 HD.out.2.1 HD.out.2.2
   refine AllReady.cons rfl (fun K hK=>?_) AllReady.nil
   go_simp
   rw [th_call_End,Oper.upon_enter]
   refine (EC.out wb HKB.out).mono ?_
   rintro e wc ⟨rfl,hkc⟩
   have hkc:Kp No _ wc:=HKB.out.trans' hkc
   have HKC:=hd_ hkc
   have xc:=(hkc.cell lT nT).trans x0
   have fc:=(hkc.frozen lT nT).trans f0
   have sc:=hkc.size
   have HBX:=hd_ (newOf wc (.cells #[.string x.kind,.int .i64 x.pos,.int .i64 x.fin] 32 (0,0)))
   have HRW:Hid (PlRow (wc.alloc (.cells #[.string x.kind,.int .i64 x.pos,.int .i64 x.fin] 32 (0,0))) (w4.heap.size+3) v l):=HROW.out wc hkc
   have lc:(w4.heap.size+3)≤wc.heap.size:=Nat.le_trans lW sc
   have lTc:w.heap.size+1 < wc.heap.size:=by omega
   clear hkc
   try go_simp
   refine hK _ _ ?_
   clear hK K
   refine wpAny_take (i:=7) (v:=.agg #[.string x.kind,.int .i64 x.pos,.int .i64 x.fin]) rfl (by kernel_rfl) (by kernel_rfl) (by kernel_rfl) (fun _ _ _ h=>h) (Or.inl ⟨by rfl,?_⟩) ?_
   ·intro w9
    go_simp
   refine wpAny_ready (rs:=[0,8]) (by kernel_rfl) (by simp) ?_
   refine AllReady.cons rfl (fun K hK=>?_) ?_
   ·go_simp
    refine hK _ _ ?_
    clear hK K
    refine wpAny_ready (rs:=[8]) (by kernel_rfl) (by simp) ?_
    refine AllReady.cons rfl (fun K hK=>?_) AllReady.nil
    go_simp
    refine hK _ _ ?_
    clear hK K
    refine wpAny_ready (rs:=[9]) (by kernel_rfl) (by simp) ?_
    refine AllReady.cons rfl (fun K hK=>?_) AllReady.nil
    refine step_is_append rfl ?_
    refine step_append_pl (c:=1) (p:=⟨x.kind,x.pos,x.fin⟩) (by rfl) (.tmp 14) (.tmp 22) 27 (by rfl) Tryz.underlying27 Tryz.type32 rfl rfl (by decide) rfl (by rfl) HRW.out (by rfl) HBX.out (by have:=HLN.out;omega) (by simp;omega) (wc.heap.size+1) (by simp) ?_
    intro g cap wd hrowd hgrowd hatd hltd
    have hgT:some (w.heap.size+1)≠v.ownBlock:=fun e=>HVB.out _ e.symm rfl
    have xd:=(hgrowd.cell_far ⟨w.heap.size+1,0,none⟩ (show w.heap.size+1 < (World.alloc wc _).heap.size by simp;omega) hgT).trans ((World.cell?_alloc_past (w:=wc) _ (w.heap.size+1) 0 (by omega)).trans xc)
    have fd:=(hgrowd.frozen_far ⟨w.heap.size+1,0,none⟩ (show w.heap.size+1 < (World.alloc wc _).heap.size by simp;omega) hgT).trans ((World.frozen?_of_block (w:=wc) (a:=⟨w.heap.size+1,0,none⟩) (Below.heap_alloc wc _ (w.heap.size+1) (by omega))).trans fc)
    have HD:=a3_ hrowd hgrowd hatd
    clear hrowd hgrowd hatd
    try go_simp
    refine hK _ _ ?_
    clear hK K
    refine wpAny_ready (rs:=[10]) (by kernel_rfl) (by simp) ?_
    refine AllReady.cons rfl (fun K hK=>?_) AllReady.nil
    go_simp
    refine hK _ _ ?_
    clear hK K
    refine wpAny_done (by kernel_rfl) ?_ _
    exact HFIN.out wc wd g cap HKC.out HD.out.1 HD.out.2.1 HD.out.2.2
   refine AllReady.cons rfl (fun K hK=>?_) AllReady.nil
   go_simp
   refine hK _ _ ?_
   clear hK K
   refine wpAny_ready (rs:=[0]) (by kernel_rfl) (by simp) ?_
   refine AllReady.cons rfl (fun K hK=>?_) AllReady.nil
   go_simp
   refine hK _ _ ?_
   clear hK K
   refine wpAny_ready (rs:=[9]) (by kernel_rfl) (by simp) ?_
   refine AllReady.cons rfl (fun K hK=>?_) AllReady.nil
   refine step_is_append rfl ?_
   refine step_append_pl (c:=1) (p:=⟨x.kind,x.pos,x.fin⟩) (by rfl) (.tmp 14) (.tmp 22) 27 (by rfl) Tryz.underlying27 Tryz.type32 rfl rfl (by decide) rfl (by rfl) HRW.out (by rfl) HBX.out (by have:=HLN.out;omega) (by simp;omega) (wc.heap.size+1) (by simp) ?_
   intro g cap wd hrowd hgrowd hatd hltd
   have hgT:some (w.heap.size+1)≠v.ownBlock:=fun e=>HVB.out _ e.symm rfl
   have xd:=(hgrowd.cell_far ⟨w.heap.size+1,0,none⟩ (show w.heap.size+1 < (World.alloc wc _).heap.size by simp;omega) hgT).trans ((World.cell?_alloc_past (w:=wc) _ (w.heap.size+1) 0 (by omega)).trans xc)
   have fd:=(hgrowd.frozen_far ⟨w.heap.size+1,0,none⟩ (show w.heap.size+1 < (World.alloc wc _).heap.size by simp;omega) hgT).trans ((World.frozen?_of_block (w:=wc) (a:=⟨w.heap.size+1,0,none⟩) (Below.heap_alloc wc _ (w.heap.size+1) (by omega))).trans fc)
   have HD:=a3_ hrowd hgrowd hatd
   clear hrowd hgrowd hatd
   try go_simp
   refine hK _ _ ?_
   clear hK K
   refine wpAny_ready (rs:=[10]) (by kernel_rfl) (by simp) ?_
   refine AllReady.cons rfl (fun K hK=>?_) AllReady.nil
   go_simp
   refine hK _ _ ?_
   clear hK K
   refine wpAny_done (by kernel_rfl) ?_ _
   exact HFIN.out wc wd g cap HKC.out HD.out.1 HD.out.2.1 HD.out.2.2
  case post =>
   rintro e w6 ⟨⟨v,rfl⟩,hI6,hK6⟩
   obtain ⟨w7,e7,hw7⟩:∃ w7,(Instr.endLoop (w4.heap.size+1+1)).run Tryz.prog w6=.ok none w7∧((∃ v6,w7.heap[w.heap.size+1]?=some (.cells #[v6] 27 (0,0))∧PlRow w7 (w4.heap.size+3) v6 d.pre)∧w7.heap[w4.heap.size+1]?=some (.deferred (some []))∧Kp No w w7):=by
    refine ⟨_,run_endLoop hI6.lp (by simp),?_⟩
    obtain ⟨⟨v6,hT6,hrow6⟩,_,_⟩:=hI6.out
    have hTL:w.heap.size+1≠w4.heap.size+1+1:=by omega
    refine ⟨⟨v6,(World.putObj_heap_other hTL).trans hT6,hrow6.on ((Kp.refl (fun b=>b=w4.heap.size+1+1) w6).putObj (fun _=>rfl) _) ?_⟩,?_,?_⟩
    ·rintro g hg h
     rcases hrow6.2 with ⟨rfl,_⟩ | ⟨g',cap',cur,rfl,h1,h2,_⟩
     ·simp [Value.ownBlock] at hg
     ·simp only [Value.ownBlock,Option.some.injEq] at hg
      subst hg
      exact ne_of_obj h2 hI6.lp (by simp) h
    ·refine (World.putObj_heap_other (by omega)).trans (hK6.at (o:=.deferred (some [])) ?_ (by rintro (h | h | h) <;> omega))
     exact allocOf (by simpa using newOf (w4.alloc _) _) _
    ·have hkw:Kp No w w4:=HK3.out.trans' HK4.out
     have hk1:=((hkw.alloc (.cells #[.iface d.ty bv] 46 (0,0))).alloc (.deferred (some [])))
     refine (((hkw.alloc _).alloc _).alloc _).trans (hK6.putObj (S:=RdS (w4.heap.size+1+1) (w.heap.size+1) (w4.heap.size+3)) (r:=w4.heap.size+1+1) (fun _=>.inl rfl) _) ?_
     rintro i hi (h | h | h) <;> omega
   obtain ⟨⟨v6,hT7,hrow7⟩,hD7,hK7⟩:=hw7
   have x7:=cO hT7 0 _ rfl
   have HD7:=hd_ hD7
   have HR7:=hd_ hrow7
   have HK7:=hd_ hK7
   refine ⟨none,w7,e7,?_⟩
   clear hI6 hK6 hT7 hrow7 hD7 hK7
   dsimp only
   gi_wp2
   refine ⟨by simp,.inl ⟨_,_,rfl,run_takeDeferred HD7.out,?_⟩⟩
   refine ⟨_,results_tmp rfl _ _ _,⟨_,rfl,?_⟩,?_⟩
   ·refine PlRow.mono (HR7.out.on ((Kp.refl (fun b=>b=w4.heap.size+1) w7).putObj (fun _=>rfl) _) ?_) (by omega)
    rintro g hg h
    rcases HR7.out.2 with ⟨rfl,_⟩ | ⟨g',cap',cur,rfl,h1,h2,_⟩
    ·simp [Value.ownBlock] at hg
    ·simp only [Value.ownBlock,Option.some.injEq] at hg
     subst hg
     exact ne_of_obj h2 HD7.out (by simp) h
   ·exact HK7.out.putObj (fun h=>by omega) _
end
section
open Go Go.RowKit Go.ChangeShapes
theorem rowIn_of (w:World) (B b:Nat):∀ (len o:Nat),(∀ i,i < len→∃ (n:Nd) (s:Value),w.cell? ⟨b,o+i*3,none⟩=some (.string n.k)∧w.cell? ⟨b,o+i*3+1,none⟩=some (.string n.t)∧w.cell? ⟨b,o+i*3+2,none⟩=some s∧n.In w B s)→∃ l:List Nd,l.length=len∧Nd.RowIn w B b o l
 | 0,_,_=>⟨[],rfl,trivial⟩
 | len+1,o,h=>by
  obtain ⟨n,s,h1,h2,h3,h4⟩:=h 0 (by omega)
  obtain ⟨l,hl,hr⟩:=rowIn_of w B b len (o+3) fun i hi=>by
   have:=h (i+1) (by omega)
   rwa [show o+(i+1)*3=o+3+i*3 by omega] at this
  exact ⟨n::l,by simp [hl],⟨⟨by simpa using h1,by simpa using h2,s,by simpa using h3,h4⟩,hr⟩⟩
section
variable {H:Type} {enc:TypeId × Value→H} {w:World} {sp:Nat→Bool} {held:Bool}
theorem node_cells:Tryz.prog.cellsOf 24=3:=by kernel_rfl
theorem string_cells:Tryz.prog.cellsOf 9=1:=by kernel_rfl
theorem nodes_cells:Tryz.prog.cellsOf 22=1:=by kernel_rfl
theorem int_cells:Tryz.prog.cellsOf 3=1:=by kernel_rfl
theorem add_plain' (b o n:Nat):(⟨b,o,none⟩:Addr).add n=⟨b,o+n,none⟩:=by
 unfold Addr.add
 split
 ·rename_i h;subst h;rfl
 ·rfl
theorem add_add' (a:Addr) (n m:Nat):(a.add n).add m=a.add (n+m):=by
 unfold Addr.add
 by_cases hn:n=0 <;> by_cases hm:m=0 <;> simp [hn,hm,Nat.add_assoc]
theorem three {α:Type} {l:List α} (h:l.length=3):∃ a b c,l=[a,b,c]:=by
 match l,h with
 | [a,b,c],_=>exact ⟨a,b,c,rfl⟩
theorem open_node:∀ (fuel:Nat) (cs:List Value) (x:DataW H × List MemPlace),DataW.trod enc Tryz.prog w 0 sp held fuel 24 cs=some x→∃ (n:Nd) (s:Value),cs=[.string n.k,.string n.t,s]∧n.In w w.heap.size s:=by
 intro fuel
 induction fuel using Nat.strongRecOn with
 | ind fuel ih =>
  intro cs x h
  obtain ⟨xs,m,rfl,_,hlen,hxs,hf⟩:=DataW.trod_struct Tryz.underlying24 h
  rw [node_cells] at hlen
  obtain ⟨c0,c1,c2,rfl⟩:=three hlen
  have hxs3:xs.length=3:=hxs
  obtain ⟨x0,x1,x2,rfl⟩:=three hxs3
  have f0:DataW.trod enc Tryz.prog w 0 sp held m 9 (([c0,c1,c2].drop 0).take (Tryz.prog.cellsOf 9))=some x0:=hf 0 _ rfl
  have f1:DataW.trod enc Tryz.prog w 0 sp held m 9 (([c0,c1,c2].drop 1).take (Tryz.prog.cellsOf 9))=some x1:=hf 1 _ rfl
  have f2:DataW.trod enc Tryz.prog w 0 sp held m 22 (([c0,c1,c2].drop 2).take (Tryz.prog.cellsOf 22))=some x2:=hf 2 _ rfl
  rw [string_cells] at f0 f1
  rw [nodes_cells] at f2
  have a0:DataW.trod enc Tryz.prog w 0 sp held m 9 [c0]=some x0:=f0
  have a1:DataW.trod enc Tryz.prog w 0 sp held m 9 [c1]=some x1:=f1
  have a2:DataW.trod enc Tryz.prog w 0 sp held m 22 [c2]=some x2:=f2
  clear f0 f1 f2
  obtain ⟨k,e0,_,_⟩:=DataW.trod_string Tryz.underlying9 a0
  obtain ⟨t,e1,_,_⟩:=DataW.trod_string Tryz.underlying9 a1
  simp only [List.cons.injEq,and_true] at e0 e1
  subst e0
  subst e1
  rcases DataW.trod_slice Tryz.underlying22 a2 with ⟨e2,_⟩ | ⟨a,len,cap,elems,rest,r,hr,e2,_,_,hle,_,hel,hE,_⟩
  ·simp only [List.cons.injEq,and_true] at e2
   subst e2
   refine ⟨.mk k t [],_,rfl,?_⟩
   simp only [Nd.In]
   exact ⟨none,0,rfl,Nat.le_refl _,.inl (by trivial)⟩
  ·simp only [List.cons.injEq,and_true] at e2
   subst e2
   rw [node_cells] at hE
   have hel2:∀ i,i < len→∃ (n:Nd) (s:Value),w.cell? (a.add (i*3))=some (.string n.k)∧w.cell? (a.add (i*3+1))=some (.string n.t)∧w.cell? (a.add (i*3+2))=some s∧n.In w w.heap.size s:=by
    intro i hi
    have h1:=hE i hi
    obtain ⟨y,hy⟩:∃ y,elems[i]?=some y:=⟨_,List.getElem?_eq_getElem (by omega)⟩
    rw [hy,Option.bind_eq_some_iff] at h1
    obtain ⟨cs1,hc1,ht1⟩:=h1
    obtain ⟨n,s,rfl,hn⟩:=ih r (by omega) cs1 y ht1
    obtain ⟨_,_,hcell⟩:=World.cells?_some hc1
    have g0:=hcell 0 (by omega)
    have g1:=hcell 1 (by omega)
    have g2:=hcell 2 (by omega)
    simp only [add_add',Nat.add_zero,List.getElem?_cons_zero,List.getElem?_cons_succ] at g0 g1 g2
    exact ⟨n,s,g0,g1,g2,hn⟩
   cases len with
   | zero =>
    refine ⟨.mk k t [],_,rfl,?_⟩
    simp only [Nd.In]
    exact ⟨some a,cap,rfl,Nat.zero_le _,.inl (by trivial)⟩
   | succ len =>
    obtain ⟨b,o,spot⟩:=a
    obtain ⟨n0,s0,z0,_⟩:=hel2 0 (by omega)
    have hspot:spot=none:=by simpa [Addr.add] using World.cell?_spot z0
    subst hspot
    obtain ⟨l,hl,hrow⟩:=rowIn_of w w.heap.size b (len+1) o fun i hi=>by
     have:=hel2 i hi
     simp only [add_plain'] at this
     exact this
    refine ⟨.mk k t l,_,rfl,?_⟩
    simp only [Nd.In]
    refine ⟨_,cap,by rw [hl],by omega,.inr ⟨b,o,rfl,?_,hrow⟩⟩
    have:=World.block_lt_of_cell? w _ z0
    simpa [Addr.add] using this
theorem open_gaps {fuel:Nat} {cs:List Value} {x:DataW H × List MemPlace} (h:DataW.trod enc Tryz.prog w 0 sp held fuel 25 cs=some x):∃ (g:List Int) (v:Value),cs=[v]∧Ints w w.heap.size v g:=by
 rcases open_ints Tryz.underlying25 Tryz.underlying3 int_cells h with ⟨rfl,_⟩ | ⟨a,len,cap,zs,rfl,_,hle,_,hz,_,hc,_⟩
 ·exact ⟨[],_,rfl,none,0,rfl,Nat.le_refl _,.inl (by trivial)⟩
 ·have hzl:len≤zs.length:=by rw [hz];split <;> omega
  have htl:(zs.take len).length=len:=by rw [List.length_take];omega
  refine ⟨zs.take len,_,rfl,some a,cap,by rw [htl],by rw [htl];exact hle,?_⟩
  cases len with
  | zero=>exact .inl (by simp)
  | succ len =>
   right
   obtain ⟨b,o,spot⟩:=a
   have z0:=hc 0 (by omega)
   have hspot:spot=none:=by simpa [Addr.add] using World.cell?_spot z0
   subst hspot
   refine ⟨b,o,rfl,?_,fun i q hq=>?_⟩
   ·have:=World.block_lt_of_cell? w _ z0
    simpa [Addr.add] using this
   ·have hi:i < len+1:=by have:=(List.getElem?_eq_some_iff.1 hq).1;omega
    have hci:=hc i (by omega)
    rw [List.getElem?_take,if_pos hi] at hq
    rw [List.getD_eq_getElem?_getD,hq,add_plain'] at hci
    exact hci
end
end
section
open Go Go.ChangeShapes Go.WideShapes Go.ChangeAt Go.RowKit
set_option maxRecDepth 100000
theorem ownK:ownKnob Tryz.prog.godebug=Option.none:=by kernel_rfl
theorem laidOut:laidOutB Tryz.prog=true:=by kernel_rfl
theorem gTok:Tryz.prog.globalNamed "loop.example/pub-gosourcefiles/pub/goparse_go_token.tokens"=some 0:=by kernel_rfl
theorem tTok:(Tryz.prog.globals[0]?).map (·.type)=some 284:=by kernel_rfl
theorem toks_cells:Tryz.prog.cellsOf 284=89:=by kernel_rfl
theorem tok_len:tokTab.length=89:=rfl
theorem tokD:(Rows.laid_loop_example_pub_gosourcefiles_pub_goparse_go_token_tokens:DataW Unit)=.agg (tokTab.map fun s=>.lit (.string s.data.toList)):=rfl
theorem tok_of_laid {W:World} (h:laidMetH Tryz.prog Rows.fnPlacesNestRow.laid W):Tok W:=by
 rw [MakeChecks.laidMetH_plain _ _ _ (by kernel_rfl)] at h
 obtain ⟨ps,⟨_,_,_,_,_,_,_,_,_,_,⟨_,_,_,_,_,_,_,_,_,_,⟨_,_,_,_,_,_,_,_,_,_,⟨g,t,cs,fuel,p,q,hg,ht,hv,hd,_,_⟩,_⟩,_⟩,_⟩,_,_⟩:=h
 obtain rfl:=Option.some.inj (gTok.symm.trans hg)
 obtain rfl:=Option.some.inj (tTok.symm.trans ht)
 obtain ⟨xs,m,_,ex,hlen,hl,hel⟩:=DataW.trod_array Tryz.underlying284 hd
 rw [toks_cells] at hlen
 rw [tokD] at ex
 have e3:=DataW.agg.inj (Prod.mk.inj ex).1
 intro k hk
 have h1:=hel k hk
 rw [string_cells,Nat.mul_one] at h1
 obtain ⟨y,hy⟩:∃ y,xs[k]?=some y:=⟨_,List.getElem?_eq_getElem (by omega)⟩
 rw [hy] at h1
 obtain ⟨s,a1,a2,_⟩:=DataW.trod_string Tryz.underlying9 h1
 have hc:cs[k]?=some (.string s):=by
  have:(cs.toList.drop k)[0]?=some (.string s):=by
   have h9:=congrArg (fun l=>l[0]?) a1
   simpa using h9
  simpa using this
 have hs:s=tokS k:=by
  have h9:=congrArg (fun l=>l[k]?) e3
  simp only [List.getElem?_map,hy,Option.map_some,a2] at h9
  obtain ⟨u,hu⟩:∃ u,tokTab[k]?=some u:=⟨_,List.getElem?_eq_getElem (by rw [tok_len];omega)⟩
  rw [hu] at h9
  simp only [Option.map_some,Option.some.injEq,DataW.lit.injEq,Lit.string.injEq] at h9
  have h8:u.data.toList=s.data.toList:=h9
  unfold tokS
  rw [List.getD_eq_getElem?_getD,hu]
  have h7:u.data=s.data:=Array.toList_inj.1 h8
  cases u;cases s;simp_all
 rw [World.var?_cell hg hv k,hc,hs]
end
end Go.Proofs.YtnkbglhdpmbgfaaGreatFmt
