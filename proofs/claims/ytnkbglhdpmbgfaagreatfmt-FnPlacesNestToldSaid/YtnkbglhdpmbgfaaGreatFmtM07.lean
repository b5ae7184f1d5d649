/- A part of the proof; no condition: PlG, PlH, PlH1, PlH2, PlH3, PlH4. -/
import Derived.Test.YtnkbglhdpmbgfaaGreatFmtM
import Derived.Test.YtnkbglhdpmbgfaaGreatFmtM06
import Derived.Test.YtnkbglhdpmbgfaaGreatFmtM03
set_option linter.all false
set_option maxHeartbeats 16000000
set_option maxRecDepth 100000
namespace Go.Proofs.YtnkbglhdpmbgfaaGreatFmt
section
open Go Go.RowKit
theorem nmToks_snoc (n:Nm):∀ (l:List Nm) (b:Bool),nmToks b (l++[n])=nmToks b l++((if b=true∧l=[] then [] else [n.c])++[n.p])
 | [],b=>by cases b <;> simp [nmToks]
 | m::l,b=>by
  simp only [List.cons_append,nmToks,nmToks_snoc n l false]
  simp
structure NmG (g at_:List Int) (e:Int) (ns l:List Nm) (f:Int):Prop where
 nd:l.map Nm.nd=ns.map Nm.nd
 ok:∀ n∈l,n.ok
 pos:∀ n r,l=n::r→n.p=e+gapOf g at_.length
 nil:l=[]→f=e
 le:e≤f
 nest:∀ n r,l=n::r→n.p≤f∧Nest n.p f (l.map Nm.pl)
 fin:f≤e+4194304*ns.length
 tk:(nmToks true l).length≤2*ns.length
 last:∀ n r,l=r++[n]→f=n.p+n.s.size
theorem NmG.zero (g at_:List Int) (e:Int):NmG g at_ e [] [] e:=⟨rfl,by simp,by simp,fun _=>rfl,Int.le_refl _,by simp,by simp,by simp [nmToks],by simp⟩
theorem NmG.len {g at_:List Int} {e f:Int} {ns l:List Nm} (h:NmG g at_ e ns l f):l.length=ns.length:=by
 have:=congrArg List.length h.nd
 simpa using this
theorem NmG.snoc {g at_:List Int} {e f c p:Int} {ns l:List Nm} {n:Nm} (h:NmG g at_ e ns l f) (hs:n.s.size≤1048576) (he:1≤e) (he2:e+4194304*(ns.length+1)≤1125899906842624)
 (h0:l=[]→p=e+gapOf g at_.length∧c=p) (h1:l≠[]→f≤c∧c+1≤p∧p≤f+2001):NmG g at_ e (ns++[n]) (l++[⟨c,p,n.s⟩]) (p+n.s.size):=by
 have hg:=gapOf_le g at_.length
 have hf:=h.fin
 have hl:=h.le
 have hlen:=h.len
 have hcp:1≤c∧c≤p∧e≤p∧f≤p∧p≤f+2001:=by
  by_cases hn:l=[]
  ·obtain ⟨h2,h3⟩:=h0 hn
   have:=h.nil hn
   omega
  ·obtain ⟨h2,h3,h4⟩:=h1 hn
   omega
 refine ⟨by simp [h.nd,Nm.nd],?_,?_,by simp,by omega,?_,by simp;omega,?_,?_⟩
 ·intro m hm
  rcases List.mem_append.1 hm with hm | hm
  ·exact h.ok m hm
  ·simp only [List.mem_singleton] at hm
   subst hm
   exact ⟨by constructor <;> simp only <;> omega,by constructor <;> simp only <;> omega,hs⟩
 ·intro m r hm
  cases l with
  | nil =>
   simp only [List.nil_append,List.cons.injEq] at hm
   rw [← hm.1]
   exact (h0 rfl).1
  | cons m' l =>
   simp only [List.cons_append,List.cons.injEq] at hm
   rw [← hm.1]
   exact h.pos m' l rfl
 ·intro m r hm
  cases l with
  | nil =>
   simp only [List.nil_append,List.cons.injEq] at hm
   rw [← hm.1]
   simp only [List.nil_append,List.map_cons,List.map_nil,Nm.pl]
   exact ⟨by omega,Nest.one (by omega) _⟩
  | cons m' l =>
   simp only [List.cons_append,List.cons.injEq] at hm
   rw [← hm.1]
   obtain ⟨h5,h6⟩:=h.nest m' l rfl
   refine ⟨by omega,?_⟩
   rw [List.map_append]
   exact h6.append (Nest.one (a:=p) (b:=p+n.s.size) (by omega) _) (by omega) (by omega) (by omega)
 ·rw [nmToks_snoc]
  have:=h.tk
  have h9:(if true=true∧l=[] then ([]:List Int) else [c]).length≤1:=by split <;> simp
  simp only [la_,lc_,ln_] at h9 ⊢
  omega
 ·intro m r hm
  have h9:=congrArg List.getLast? hm
  simp only [List.getLast?_append,List.getLast?_singleton,Option.some_or,Option.some.injEq] at h9
  rw [← h9]
theorem commas_c (ns:List Nm) (w:World) (B base pb:Nat) (g at_:List Int) (e:Int) (out:List Pl) (s:Value) (hp:PSt w base pb g at_ e out) (hl:Ls w B s (ns.map Nm.nd)) (hB:B≤base) (hs:∀ n∈ns,n.s.size≤1048576)
 (he:1≤e) (he2:e+4194304*ns.length≤1125899906842624) (ha:at_.length+2*ns.length≤1048576) (ho:out.length+ns.length≤1048576) :
 Calls Tryz.prog 32 #[.pointer (some ⟨pb,0,none⟩),s] w fun e' w'=>(∃ v,e'=.returned v)∧∃ l f,NmG g at_ e ns l f∧PSt w' base pb g (at_++nmToks true l) f (out++l.map Nm.pl)∧Kq base w w':=by
 have hbs:=hp.size
 have HL:=hd_ hl;have HP:=hd_ hp;have HS:=hd_ hs
 obtain ⟨sp,sc,rfl,hsc,_⟩:=hl
 rw [lm_] at *
 have hn4:ns.length≤1048576:=by omega
 clear hp hs
 go_enter Tryz.func32,Tryz.ntmps32
 go_wp2_with fail
 go_loopw [4,5,8] (fun _ _ i wr=>∃ k:Nat,k≤ns.length∧i=.int .i64 k∧Kq base w wr∧∃ l f,NmG g at_ e (ns.take k) l f∧PSt wr base pb g (at_++nmToks true l) f (out++l.map Nm.pl)) (fun _ _ i _=>ns.length - (intOf i).toNat)
 case atStart=>exact ⟨0,Nat.zero_le _,rfl,Kq.refl _ _,[],e,NmG.zero g at_ e,by simpa [nmToks] using HP.out⟩
 case round =>
  obtain ⟨k,hk,rfl,hq,l,f,hg,hp⟩:=hrel
  by_cases hlt:k < ns.length
  ·obtain ⟨n,hn⟩:∃ n,ns[k]?=some n:=⟨_,List.getElem?_eq_getElem hlt⟩
   have htk:ns.take (k+1)=ns.take k++[n]:=by rw [List.take_add_one,hn];rfl
   have hlen:(ns.take k).length=k:=by rw [List.length_take];omega
   have hll:l.length=k:=by rw [hg.len,hlen]
   have hsn:=HS.out n (List.mem_of_getElem? hn)
   have hgap:=gapOf_le g at_.length
   have hf:=hg.fin;have hle:=hg.le;have htl:=hg.tk
   rw [hlen] at hf htl
   have hzs:=hq.kp.size
   obtain ⟨b,o,c',q',d,he',_,hb,hi,h1,h2,h3,h4,h5⟩:=(HL.out.stay (w':=wr) (fun i hi=>hq.kp.block i (by omega) (by simp only [Fr];omega))).get (i:=k) (n:=n.nd) (by rw [List.getElem?_map,hn];rfl)
   rw [lm_] at he'
   cases he'
   simp only [Nm.nd,Nd.name,Nd.k,Nd.t,Nd.l,ln_] at h1 h2 h3
   have HG:=a3_ hg hp hq;have HTK:=hd_ htk;have HLL:=hd_ hll;have HLEN:=hd_ hlen
   clear hg hp hq htk h4 hi hn hll hlen
   have hk0:Kp No wr (wr.alloc (.cells #[.string ⟨#[110,97,109,101]⟩,.string n.s,.slice q' 0 d] 24 (0,0))):=(Kp.refl No wr).alloc _
   by_cases hk1:k=0
   ·have hl0:l=[]:=by have:=HLL.out;exact List.eq_nil_of_length_eq_zero (by omega)
    have hk2:decide (0 < k)=false:=decide_eq_false (by omega)
    have HK1:=hd_ hk1
    clear hk1
    go_wp2_with fail
    refine (node_name _ base pb g _ f _ n.s q' d (HG.out.2.1.on hk0 (by simp)) (by omega) (by omega) (by simp only [la_];omega) (by simp only [la_,lm_];have:=HLL.out;omega) hsn).mono ?_
    rintro e1 w1 ⟨⟨v,rfl⟩,p,hpq,hp1,hq1⟩
    have H1:=a3_ hpq hp1 hq1
    clear hpq hp1 hq1
    go_wp2_with fail
    go_roundw
    case rel =>
     refine ⟨k+1,by omega,by go_num,HG.out.2.2.trans ((Kq.of_no hk0).trans H1.out.2.2),l++[⟨p,p,n.s⟩],p+n.s.size,?_,?_⟩
     ·rw [HTK.out]
      subst hl0
      have hf0:=HG.out.1.nil rfl
      refine HG.out.1.snoc hsn he (by have:=HLEN.out;omega) (fun _=>⟨?_,rfl⟩) (fun h=>absurd rfl h)
      have:=H1.out.1
      simpa [nmToks,hf0] using this
     ·have:=H1.out.2.1
      rw [nmToks_snoc]
      simpa [hl0,List.map_append,Nm.pl,← List.append_assoc] using this
    case measure=>simp [intOf];omega
   ·have hl0:l≠[]:=by rintro rfl;have:=HLL.out;simp at this;omega
    have hk2:decide (0 < k)=true:=decide_eq_true (by omega)
    have hk3:0 < k:=by omega
    go_wp2_with fail
    have hka:Kp No (wr.alloc (.cells #[.string ⟨#[110,97,109,101]⟩,.string n.s,.slice q' 0 d] 24 (0,0))) ((wr.alloc (.cells #[.string ⟨#[110,97,109,101]⟩,.string n.s,.slice q' 0 d] 24 (0,0))).alloc (.cells #[.string ⟨#[44]⟩] 9 (0,0))):=(Kp.refl No _).alloc _
    refine (tok1_c _ base pb _ 1 g _ f _ ⟨#[44]⟩ (HG.out.2.1.on (hk0.trans' hka) (by simp)) (newOf2 wr _ _) rfl (by decide) (by omega) (by omega) (by simp only [la_];omega)).mono ?_
    rintro e1 w1 ⟨⟨v,rfl⟩,c1,hcq,hp1,hq1⟩
    have hgc:=gapOf_le g (at_++nmToks true l).length
    have hz:((⟨#[44]⟩:ByteArray)).size=1:=rfl
    rw [hz] at hp1
    have hx1:=hq1.kn wr.heap.size _ _ _ (hka.at (newOf wr _) (by simp)) (by decide) (by decide) (by decide)
    have xs1:=ltb hx1
    have x0:=cO hx1 0 _ rfl
    have x1:=cO hx1 1 _ rfl
    have x2:=cO hx1 2 _ rfl
    have H1:=a3_ hcq hp1 ((Kq.of_no (hk0.trans' hka)).trans hq1)
    clear hp1 hq1 hx1
    go_wp2_with fail
    refine (node_name w1 base pb g _ _ _ n.s q' d H1.out.2.1 (by omega) (by omega) (by simp only [la_,lc_,ln_];omega) (by simp only [la_,lm_];have:=HLL.out;omega) hsn).mono ?_
    rintro e2 w2 ⟨⟨v2,rfl⟩,p,hpq,hp2,hq2⟩
    have hgp:=gapOf_le g ((at_++nmToks true l)++[c1]).length
    have H2:=a3_ hpq hp2 hq2
    clear hp2 hq2
    go_wp2_with fail
    go_roundw
    case rel =>
     refine ⟨k+1,by omega,by go_num,HG.out.2.2.trans (H1.out.2.2.trans H2.out.2.2),l++[⟨c1,p,n.s⟩],p+n.s.size,?_,?_⟩
     ·rw [HTK.out]
      have h8:=H1.out.1
      have h9:=H2.out.1
      exact HG.out.1.snoc hsn he (by have:=HLEN.out;omega) (fun h=>absurd h hl0) (fun _=>⟨by omega,by omega,by omega⟩)
     ·have:=H2.out.2.1
      rw [nmToks_snoc]
      simpa [hl0,List.map_append,Nm.pl,List.append_assoc] using this
    case measure=>simp [intOf];omega
  ·have hkn:k=ns.length:=by omega
   have HX:=a3_ hg hp hq
   clear hg hp hq
   go_wp2_with fail
   refine bodyPost_end (v:=.tuple #[]) (by simp [results,Tryz.results32,go_sem]) rfl ⟨⟨_,rfl⟩,l,f,?_,HX.out.2⟩
   have:=HX.out.1
   rwa [List.take_of_length_le (by omega)] at this
end
section
open Go Go.RowKit
structure TyZ (z:Bool) (g at_:List Int) (e:Int) (t t':Ty):Prop where
 nd:t'.nd=t.nd
 ok:t'.ok z
 pos:t'.pos=e+gapOf g at_.length
 le:t'.pos≤t'.fin
 nest:Nest t'.pos t'.fin t'.pre
 fin:t'.fin≤e+16777216*t.nd.size
 tk:(t'.toks z).length≤8*t.nd.size
 pl:t'.pre.length≤4*t.nd.size
theorem TyG.z {g at_:List Int} {e:Int} {t t':Ty} (h:TyG g at_ e t t'):TyZ false g at_ e t t':=⟨h.nd,h.ok,h.pos,h.le,h.nest,h.fin,h.tk,h.pl⟩
def SigM (t:Ty):Prop:=∀ (w:World) (B base pb:Nat) (g at_:List Int) (e:Int) (out:List Pl) (s:Value),PSt w base pb g at_ e out→t.nd.In w B s→B≤base→Bnd at_ e out t.nd.size→t.nd.short →
 Calls Tryz.prog 28 #[.pointer (some ⟨pb,0,none⟩),ndv t.nd s,.int .i64 (e+gapOf g at_.length)] w fun e' w'=>(∃ v,e'=.returned v)∧∃ t',TyZ true g at_ e t t'∧PSt w' base pb g (at_++t'.toks true) t'.fin (out++t'.pre)∧Kq base w w'
def Fd.pl (d:Fd):Pl:=⟨⟨#[102,105,101,108,100]⟩,Go.Proofs.YtnkbglhdpmbgfaaGreatFmt.fpos d.ns d.t,ffin d.t d.tp d.tag⟩
def Fd.pre (d:Fd):List Pl:=d.pl::(d.ns.map Nm.pl++(d.t.pre++tagPl d.tp d.tag))
structure FdG (g at_:List Int) (e:Int) (m:Bool) (d d':Fd):Prop where
 nd:d'.nd=d.nd
 ok:∀ c,Pk c→Fd.ok m { d' with c:=c }
 pos:Go.Proofs.YtnkbglhdpmbgfaaGreatFmt.fpos d'.ns d'.t=e+gapOf g at_.length
 le:Go.Proofs.YtnkbglhdpmbgfaaGreatFmt.fpos d'.ns d'.t≤ffin d'.t d'.tp d'.tag
 nest:Nest (Go.Proofs.YtnkbglhdpmbgfaaGreatFmt.fpos d'.ns d'.t) (ffin d'.t d'.tp d'.tag) d'.pre
 fin:ffin d'.t d'.tp d'.tag+2097152≤e+16777216*d.nd.size
 tk:(d'.toks m).length+1≤8*d.nd.size
 pl:d'.pre.length≤4*d.nd.size
theorem FdG.mk' {g at_:List Int} {e f:Int} {m:Bool} {d:Fd} {l:List Nm} {t':Ty} {tp:Int} (he:1≤e) (he2:e+16777216*d.nd.size≤1125899906842624) (hl:NmG g at_ e d.ns l f) (ht:TyZ (m && !d.ns.isEmpty) g (at_++nmToks true l) f d.t t')
 (htag:d.tag.size≤1048576) (htp:if d.tag.size=0 then Pk tp else t'.fin≤tp∧tp≤t'.fin+1000):FdG g at_ e m d ⟨0,l,t',tp,d.tag⟩:=by
 have hg:=gapOf_le g at_.length
 have hg2:=gapOf_le g (at_++nmToks true l).length
 have hsz:d.nd.size=1+(d.t.nd.size+d.ns.length):=by
  have h1:∀ ns:List Nm,Nd.sizeL (ns.map Nm.nd)=ns.length:=by
   intro ns
   induction ns with
   | nil=>rfl
   | cons n ns ih=>simp only [List.map_cons,Nd.sizeL,ih,Nm.nd,Nd.name,Nd.size,lc_];omega
  simp only [Fd.nd,fdNd,Nd.size,Nd.sizeL,h1]
 have hts:=Nd.size_pos d.t.nd
 have hf:=hl.fin;have hle:=hl.le;have htf:=ht.fin;have htl:=ht.le;have htp':=ht.pos;have hll:=hl.len
 have hemp:l.isEmpty=d.ns.isEmpty:=by
  cases l <;> cases h:d.ns <;> simp_all
 have hpos:Go.Proofs.YtnkbglhdpmbgfaaGreatFmt.fpos l t'=e+gapOf g at_.length:=by
  cases l with
  | nil =>
   have h1:=hl.nil rfl
   simp only [Go.Proofs.YtnkbglhdpmbgfaaGreatFmt.fpos]
   rw [htp',h1]
   simp [nmToks]
  | cons n r=>exact hl.pos n r rfl
 have hpf:Go.Proofs.YtnkbglhdpmbgfaaGreatFmt.fpos l t'≤t'.pos∧Nest (Go.Proofs.YtnkbglhdpmbgfaaGreatFmt.fpos l t') t'.fin (l.map Nm.pl++t'.pre):=by
  cases l with
  | nil=>exact ⟨Int.le_refl _,by simpa [Go.Proofs.YtnkbglhdpmbgfaaGreatFmt.fpos] using ht.nest⟩
  | cons n r =>
   obtain ⟨h1,h2⟩:=hl.nest n r rfl
   exact ⟨by simp only [Go.Proofs.YtnkbglhdpmbgfaaGreatFmt.fpos];omega,h2.append ht.nest h1 (by omega) htl⟩
 have htgn:t'.fin≤ffin t' tp d.tag∧ffin t' tp d.tag≤t'.fin+1000+1048576∧Nest (Go.Proofs.YtnkbglhdpmbgfaaGreatFmt.fpos l t') (ffin t' tp d.tag) ((l.map Nm.pl++t'.pre)++tagPl tp d.tag):=by
  unfold ffin tagPl
  by_cases hz:d.tag.size=0
  ·rw [if_pos hz,if_pos hz]
   exact ⟨Int.le_refl _,by omega,by simpa using hpf.2⟩
  ·rw [if_neg hz] at htp
   rw [if_neg hz,if_neg hz]
   exact ⟨by omega,by omega,hpf.2.append (Nest.one (a:=tp) (b:=tp+d.tag.size) (by omega) _) (by omega) (by omega) (by omega)⟩
 refine ⟨by simp only [Fd.nd,fdNd,ht.nd,hl.nd],?_,hpos,by simp only;omega,?_,by simp only;omega,?_,?_⟩
 ·intro c hc
  refine ⟨hc,hl.ok,?_,?_,htag⟩
  ·simp only
   rw [hemp]
   exact ht.ok
  ·simp only
   split at htp
   ·exact htp
   ·constructor <;> omega
 ·simp only [Fd.pre,Fd.pl]
  rw [← List.append_assoc]
  exact htgn.2.2.cons (by omega) _
 ·have h1:=hl.tk;have h2:=ht.tk
  simp only [Fd.toks,la_]
  rw [hemp]
  have h3:(if d.tag.size=0 then ([]:List Int) else [tp]).length≤1:=by split <;> simp
  omega
 ·have h2:=ht.pl
  have h3:(tagPl tp d.tag).length≤1:=by unfold tagPl;split <;> simp
  simp only [Fd.pre,lc_,la_,lm_]
  omega
def FdC (d:Fd) (m:Bool):Prop:=∀ (w:World) (B base pb:Nat) (g at_:List Int) (e:Int) (out:List Pl) (s:Value),PSt w base pb g at_ e out→d.nd.In w B s→B≤base→Bnd at_ e out d.nd.size→d.nd.short →
 Calls Tryz.prog 56 #[.pointer (some ⟨pb,0,none⟩),ndv d.nd s,.bool m] w fun e' w'=>(∃ v,e'=.returned v)∧∃ d',FdG g at_ e m d d'∧PSt w' base pb g (at_++d'.toks m) (ffin d'.t d'.tp d'.tag) (out++d'.pre)∧Kq base w w'
theorem fd_close {W:World} {base pb:Nat} {g at_:List Int} {a:Int} {out:List Pl} {l:List Nm} {t':Ty} {tp:Int} {tag:ByteArray} {m z:Bool} {tk:List Int} {f:Int} {tl:List Pl} (hz:(m && !l.isEmpty)=z) (hpos:Go.Proofs.YtnkbglhdpmbgfaaGreatFmt.fpos l t'=a)
 (h1:(if tag.size=0 then ([]:List Int) else [tp])=tk) (h2:ffin t' tp tag=f) (h3:tagPl tp tag=tl)
 (hn:PSt W base pb g (at_++(nmToks true l++(t'.toks z++tk))) f (out++⟨⟨#[102,105,101,108,100]⟩,a,f⟩::(l.map Nm.pl++(t'.pre++tl)))) :
 PSt W base pb g (at_++(Fd.mk 0 l t' tp tag).toks m) (ffin (Fd.mk 0 l t' tp tag).t (Fd.mk 0 l t' tp tag).tp (Fd.mk 0 l t' tp tag).tag) (out++(Fd.mk 0 l t' tp tag).pre):=by
 simp only [Fd.toks,Fd.pre,Fd.pl,hz,hpos,h1,h2,h3]
 exact hn
theorem Nd.In.drewN {w:World} {B:Nat} {n:Nd} {s:Value} (h:n.In w B s) (m:Nat):n.In (w.drewN m) B s:=Nd.In.stay (w:=w) (w':=w.drewN m) (fun _ _=>rfl) n s h
theorem nms_short {ns:List Nm} (h:Nd.shortL (ns.map Nm.nd)):∀ n∈ns,n.s.size≤1048576:=by
 induction ns with
 | nil=>simp
 | cons n ns ih =>
  simp only [List.map_cons,Nd.shortL,Nm.nd,Nd.name,Nd.short] at h
  intro m hm
  rcases List.mem_cons.1 hm with rfl | hm
  ·exact h.1.1
  ·exact ih h.2 m hm
theorem pnms_size (ns:List Nm):Nd.sizeL (ns.map Nm.nd)=ns.length:=by
 induction ns with
 | nil=>rfl
 | cons n ns ih=>simp only [List.map_cons,Nd.sizeL,ih,Nm.nd,Nd.name,Nd.size,lc_];omega
end
section
open Go Go.RowKit
theorem field_f1x (c0:Int) (t:Ty) (tp0:Int) (ht:TyC t) (w:World) (B base pb:Nat) (g at_:List Int) (e:Int) (out:List Pl) (q:Option Addr) (c:Nat) (hp:PSt w base pb g at_ e out) (hin:Nd.In w B (.slice q (1) c) (Fd.mk c0 [] t tp0 (⟨#[]⟩:ByteArray)).nd) (hcc:c=1) (hB:B≤base) (hb:Bnd at_ e out (Fd.mk c0 [] t tp0 (⟨#[]⟩:ByteArray)).nd.size) (hs:(Fd.mk c0 [] t tp0 (⟨#[]⟩:ByteArray)).nd.short) :
 Calls Tryz.prog 56 #[.pointer (some ⟨pb,0,none⟩),.agg #[.string ⟨#[102,105,101,108,100]⟩,.string ⟨#[]⟩,.slice q (1) c],.bool false] w fun e' w'=>(∃ v,e'=.returned v)∧∃ d',FdG g at_ e false (Fd.mk c0 [] t tp0 ⟨#[]⟩) d'∧PSt w' base pb g (at_++d'.toks false) (ffin d'.t d'.tp d'.tag) (out++d'.pre)∧Kq base w w':=by
 have hbs:=hp.size
 have hL:=Nd.In_iff.1 hin
 simp only [Fd.nd,fdNd,Nd.l,List.map_nil] at hL
 have HL:Hid (Ls w B (.slice q (1) c) (t.nd::[])):=hL
 simp only [Fd.nd,fdNd,Nd.size,Nd.sizeL,List.map_nil,Bnd] at hb
 simp only [Fd.nd,fdNd,Nd.short,Nd.shortL,List.map_nil] at hs
 obtain ⟨he,b2,b3,b4⟩:=hb
 obtain ⟨htS,hts,hnsS0⟩:=hs
 obtain ⟨b,o,c',q',d,hee,hcl0,hbB,hi,k1,k2,k3,k4,k5⟩:=HL.out.get (i:=0) rfl
 simp only [lc_,ln_,lm_] at hee hcl0
 cases hee
 have HK:=hd_ k4
 simp only [Nat.zero_mul,Nat.add_zero] at k1 k2 k3
 have hbB:b < base:=by omega
 have HP:=hd_ hp
 have hgap:=gapOf_le g at_.length
 have htsz:=Nd.size_pos t.nd
 have HT:=hd_ ht
 clear ht
 subst hcc
 clear hp hin hL k4 hi
 go_enter Tryz.func56,Tryz.ntmps56
 go_wp2_with fail
 have hk0:Kp No w (w.alloc (.cells #[.string ⟨#[102,105,101,108,100]⟩,.string ⟨#[]⟩,.slice (some ⟨b,o,none⟩) (1) 1] 24 (0,0))):=(Kp.refl No w).alloc _
 refine (open_c _ base pb g at_ e out ⟨#[102,105,101,108,100]⟩ ⟨#[]⟩ _ (HP.out.on hk0 (by simp)) (by omega) (by omega) (by omega) ⟨_,_,_,rfl⟩).mono ?_
 rintro e1 w1 ⟨rfl,hp1,hq1⟩
 have hx1:=hq1.kn w.heap.size _ _ _ (newOf w _) (by decide) (by decide) (by decide)
 have hq1:=(Kq.of_no hk0).trans hq1
 have zs1:=hq1.kp.size
 have xs1:=ltb hx1
 have x0:=cO hx1 0 _ rfl;have x1:=cO hx1 1 _ rfl;have x2:=cO hx1 2 _ rfl
 have H1:=a3_ hp1 hq1 hx1
 clear hp1 hq1 hx1 hk0
 go_wp2_with fail
 refine (commas_c [] w1 B base pb g at_ e _ _ H1.out.1 ⟨_,_,rfl,by simp,.inl rfl⟩ hB (by simp) (by omega) (by simp only [ln_];omega) (by simp only [ln_];omega) (by simp only [la_,lc_,ln_,lm_];omega)).mono ?_
 rintro e2 w2 ⟨⟨v2,rfl⟩,l,f,hlg,hp2,hq2⟩
 have hx2:=hq2.kn w.heap.size _ _ _ H1.out.2.2 (by decide) (by decide) (by decide)
 have hq2:=H1.out.2.1.trans hq2
 have zs2:=hq2.kp.size
 have xs2:=ltb hx2
 have y0:=cO hx2 0 _ rfl;have y1:=cO hx2 1 _ rfl;have y2:=cO hx2 2 _ rfl
 obtain ⟨kk1,kk2,kk3⟩:=cellq hq2 hbB hbs k1 k2 k3
 have hlf:=hlg.fin;have hle:=hlg.le;have hlt:=hlg.tk;have hll:=hlg.len
 have hgp2:=gapOf_le g (at_++nmToks true l).length
 have H2:=a4_ hlg hp2 hq2 hx2
 clear hlg hp2 hq2 hx2 x0 x1 x2
 simp only [ln_] at hlf hlt hll
 go_wp2_with fail
 refine (HT.out w2 B base pb g _ f _ _ H2.out.2.1 (HK.out.stay fun b hb=>H2.out.2.2.1.kp.block b (by omega) (by simp only [Fr];omega)) hB (by unfold Bnd;simp only [la_,lc_,ln_,lm_];refine ⟨by omega,by omega,by omega,by omega⟩) hts).mono ?_
 rintro e3 w3 ⟨⟨v3,rfl⟩,t',htg0,hp3,hq3⟩
 have htg:=htg0.z
 have hx3:=hq3.kn w.heap.size _ _ _ H2.out.2.2.2 (by decide) (by decide) (by decide)
 have hq3:=H2.out.2.2.1.trans hq3
 have xs3:=ltb hx3
 have z0:=cO hx3 0 _ rfl;have z1:=cO hx3 1 _ rfl;have z2:=cO hx3 2 _ rfl
 have htf:=htg.fin;have htl:=htg.le;have htp:=htg.pos;have htt:=htg.tk;have htq:=htg.pl
 have hgp3:=gapOf_le g ((at_++nmToks true l)++t'.toks false).length
 have H3:=a4_ htg hp3 hq3 hx3
 clear htg0 htg hp3 hq3 hx3 y0 y1 y2
 go_wp2_with fail
 have hp4:PSt w3 base pb g (at_++(nmToks true l++(t'.toks false++[]))) t'.fin (out++⟨⟨#[102,105,101,108,100]⟩,e+gapOf g at_.length,0⟩::(l.map Nm.pl++(t'.pre++[]))):=by simpa [aa_] using H3.out.2.1
 have hq4:=H3.out.2.2.1
 obtain ⟨gv,av,ov,hp5⟩:=hp4
 have hp5:PStx w3 base pb g (at_++(nmToks true l++(t'.toks false++[]))) (t'.fin) (out++⟨⟨#[102,105,101,108,100]⟩,e+gapOf g at_.length,0⟩::(l.map Nm.pl++(t'.pre++[]))) gv av ov:=hp5
 obtain ⟨gb,cap,hov,_,_,hlt5,lgb,_,_,xx2⟩:=hp5.2.2.2.1.get (i:=out.length) (p:=⟨⟨#[102,105,101,108,100]⟩,e+gapOf g at_.length,0⟩) (by simp)
 obtain ⟨N,hN⟩:∃ N,N=(out++(⟨⟨#[102,105,101,108,100]⟩,e+gapOf g at_.length,0⟩:Pl)::(l.map Nm.pl++(t'.pre++[]))).length:=⟨_,rfl⟩
 rw [← hN] at hov hlt5
 subst hov
 obtain ⟨_,cur,hgc⟩:=hp5.2.2.2.1.blk (g:=gb) rfl
 have c2:w3.cell? ⟨pb,2,none⟩=some (.int .i64 (t'.fin)):=cO hp5.1 2 _ rfl
 have c3:w3.cell? ⟨pb,3,none⟩=some (.slice (some ⟨gb,0,none⟩) N cap):=cO hp5.1 3 _ rfl
 have fx:=fO hgc (out.length*3+2)
 have lpb:=ltb hp5.1
 have ne1:pb≠gb:=ne_blk hp5.1 hgc (by simp)
 have ne2:gb≠pb:=ne1.symm
 have H5:=a2_ hp5 hq4
 clear hp5 hq4 hgc hN
 go_wp2_with fail
 go_region_held3 (fun w'=>w'.cell? ⟨pb,2,none⟩=some (.int .i64 (t'.fin))∧w'.cell? ⟨pb,3,none⟩=some (.slice (some ⟨gb,0,none⟩) N cap))
  (first | (go_keep;done))
  (fail)
 have hcl:=PStx.close (e2:=t'.fin) H5.out.1 ((Kp.refl No w3).drew)
 have hemp:(false && !l.isEmpty)=false:=by
  rfl
 have hemp2:(false && !(Fd.mk c0 [] t tp0 (⟨#[]⟩:ByteArray)).ns.isEmpty)=false:=by
  rfl
 have hFG:=FdG.mk' (g:=g) (at_:=at_) (e:=e) (m:=false) (d:=⟨c0,[],t,tp0,⟨#[]⟩⟩) (l:=l) (t':=t') (tp:=1) he (by simp only [Fd.nd,fdNd,Nd.size,Nd.sizeL,List.map_nil];omega) H2.out.1 (by rw [hemp2];exact H3.out.1) (by show (⟨#[]⟩:ByteArray).size≤1048576;decide) (by show (if (⟨#[]⟩:ByteArray).size=0 then Pk 1 else _);rw [if_pos (by rfl)];constructor <;> omega)
 refine bodyPost_end (v:=.tuple #[]) (by simp [results,Tryz.results56,go_sem]) rfl ⟨⟨_,rfl⟩,_,hFG,?_,H5.out.2.trans hcl.2⟩
 exact fd_close hemp hFG.pos (by rfl) (by rfl) (by rfl) hcl.1
theorem field_f1t (c0:Int) (t:Ty) (tp0:Int) (tag:ByteArray) (hz:¬ tag.size=0) (ht:TyC t) (w:World) (B base pb:Nat) (g at_:List Int) (e:Int) (out:List Pl) (q:Option Addr) (c:Nat) (hp:PSt w base pb g at_ e out) (hin:Nd.In w B (.slice q (1) c) (Fd.mk c0 [] t tp0 tag).nd) (hcc:c=1) (hB:B≤base) (hb:Bnd at_ e out (Fd.mk c0 [] t tp0 tag).nd.size) (hs:(Fd.mk c0 [] t tp0 tag).nd.short) :
 Calls Tryz.prog 56 #[.pointer (some ⟨pb,0,none⟩),.agg #[.string ⟨#[102,105,101,108,100]⟩,.string tag,.slice q (1) c],.bool false] w fun e' w'=>(∃ v,e'=.returned v)∧∃ d',FdG g at_ e false (Fd.mk c0 [] t tp0 tag) d'∧PSt w' base pb g (at_++d'.toks false) (ffin d'.t d'.tp d'.tag) (out++d'.pre)∧Kq base w w':=by
 have hbs:=hp.size
 have hL:=Nd.In_iff.1 hin
 simp only [Fd.nd,fdNd,Nd.l,List.map_nil] at hL
 have HL:Hid (Ls w B (.slice q (1) c) (t.nd::[])):=hL
 simp only [Fd.nd,fdNd,Nd.size,Nd.sizeL,List.map_nil,Bnd] at hb
 simp only [Fd.nd,fdNd,Nd.short,Nd.shortL,List.map_nil] at hs
 obtain ⟨he,b2,b3,b4⟩:=hb
 obtain ⟨htS,hts,hnsS0⟩:=hs
 obtain ⟨b,o,c',q',d,hee,hcl0,hbB,hi,k1,k2,k3,k4,k5⟩:=HL.out.get (i:=0) rfl
 simp only [lc_,ln_,lm_] at hee hcl0
 cases hee
 have HK:=hd_ k4
 simp only [Nat.zero_mul,Nat.add_zero] at k1 k2 k3
 have hbB:b < base:=by omega
 have HP:=hd_ hp
 have hgap:=gapOf_le g at_.length
 have htsz:=Nd.size_pos t.nd
 have HT:=hd_ ht
 clear ht
 subst hcc
 clear hp hin hL k4 hi
 go_enter Tryz.func56,Tryz.ntmps56
 go_wp2_with fail
 have htz:=bs_ne hz
 obtain ⟨htz1,htz2⟩:=htz
 have hk0:Kp No w (w.alloc (.cells #[.string ⟨#[102,105,101,108,100]⟩,.string tag,.slice (some ⟨b,o,none⟩) (1) 1] 24 (0,0))):=(Kp.refl No w).alloc _
 refine (open_c _ base pb g at_ e out ⟨#[102,105,101,108,100]⟩ tag _ (HP.out.on hk0 (by simp)) (by omega) (by omega) (by omega) ⟨_,_,_,rfl⟩).mono ?_
 rintro e1 w1 ⟨rfl,hp1,hq1⟩
 have hx1:=hq1.kn w.heap.size _ _ _ (newOf w _) (by decide) (by decide) (by decide)
 have hq1:=(Kq.of_no hk0).trans hq1
 have zs1:=hq1.kp.size
 have xs1:=ltb hx1
 have x0:=cO hx1 0 _ rfl;have x1:=cO hx1 1 _ rfl;have x2:=cO hx1 2 _ rfl
 have H1:=a3_ hp1 hq1 hx1
 clear hp1 hq1 hx1 hk0
 go_wp2_with fail
 refine (commas_c [] w1 B base pb g at_ e _ _ H1.out.1 ⟨_,_,rfl,by simp,.inl rfl⟩ hB (by simp) (by omega) (by simp only [ln_];omega) (by simp only [ln_];omega) (by simp only [la_,lc_,ln_,lm_];omega)).mono ?_
 rintro e2 w2 ⟨⟨v2,rfl⟩,l,f,hlg,hp2,hq2⟩
 have hx2:=hq2.kn w.heap.size _ _ _ H1.out.2.2 (by decide) (by decide) (by decide)
 have hq2:=H1.out.2.1.trans hq2
 have zs2:=hq2.kp.size
 have xs2:=ltb hx2
 have y0:=cO hx2 0 _ rfl;have y1:=cO hx2 1 _ rfl;have y2:=cO hx2 2 _ rfl
 obtain ⟨kk1,kk2,kk3⟩:=cellq hq2 hbB hbs k1 k2 k3
 have hlf:=hlg.fin;have hle:=hlg.le;have hlt:=hlg.tk;have hll:=hlg.len
 have hgp2:=gapOf_le g (at_++nmToks true l).length
 have H2:=a4_ hlg hp2 hq2 hx2
 clear hlg hp2 hq2 hx2 x0 x1 x2
 simp only [ln_] at hlf hlt hll
 go_wp2_with fail
 refine (HT.out w2 B base pb g _ f _ _ H2.out.2.1 (HK.out.stay fun b hb=>H2.out.2.2.1.kp.block b (by omega) (by simp only [Fr];omega)) hB (by unfold Bnd;simp only [la_,lc_,ln_,lm_];refine ⟨by omega,by omega,by omega,by omega⟩) hts).mono ?_
 rintro e3 w3 ⟨⟨v3,rfl⟩,t',htg0,hp3,hq3⟩
 have htg:=htg0.z
 have hx3:=hq3.kn w.heap.size _ _ _ H2.out.2.2.2 (by decide) (by decide) (by decide)
 have hq3:=H2.out.2.2.1.trans hq3
 have xs3:=ltb hx3
 have z0:=cO hx3 0 _ rfl;have z1:=cO hx3 1 _ rfl;have z2:=cO hx3 2 _ rfl
 have htf:=htg.fin;have htl:=htg.le;have htp:=htg.pos;have htt:=htg.tk;have htq:=htg.pl
 have hgp3:=gapOf_le g ((at_++nmToks true l)++t'.toks false).length
 have H3:=a4_ htg hp3 hq3 hx3
 clear htg0 htg hp3 hq3 hx3 y0 y1 y2
 go_wp2_with fail
 refine (pliteral_c w3 tag).mono ?_
 rintro e4 wi ⟨rfl,hri⟩
 have HI:=a2_ (H3.out.2.1.on hri (by simp)) (H3.out.2.2.1.no hri)
 clear hri z0 z1 z2
 go_wp2_with fail
 refine (node_literal wi base pb g _ _ _ tag none 0 HI.out.1 (by omega) (by omega) (by simp only [la_,lc_,ln_,lm_];omega) (by simp only [la_,lc_,ln_,lm_];omega) htS).mono ?_
 rintro e5 w4 ⟨⟨v4,rfl⟩,tp,htpq,hp4,hq4⟩
 have hq4:=HI.out.2.trans hq4
 have htp1:t'.fin≤tp∧tp≤t'.fin+1000:=by rw [htpq];constructor <;> omega
 clear htpq
 have hp4:PSt w4 base pb g (at_++(nmToks true l++(t'.toks false++[tp]))) (tp+tag.size) (out++⟨⟨#[102,105,101,108,100]⟩,e+gapOf g at_.length,0⟩::(l.map Nm.pl++(t'.pre++[⟨⟨#[108,105,116,101,114,97,108]⟩,tp,tp+tag.size⟩]))):=by simpa [aa_] using hp4
 obtain ⟨gv,av,ov,hp5⟩:=hp4
 have hp5:PStx w4 base pb g (at_++(nmToks true l++(t'.toks false++[tp]))) (tp+tag.size) (out++⟨⟨#[102,105,101,108,100]⟩,e+gapOf g at_.length,0⟩::(l.map Nm.pl++(t'.pre++[⟨⟨#[108,105,116,101,114,97,108]⟩,tp,tp+tag.size⟩]))) gv av ov:=hp5
 obtain ⟨gb,cap,hov,_,_,hlt5,lgb,_,_,xx2⟩:=hp5.2.2.2.1.get (i:=out.length) (p:=⟨⟨#[102,105,101,108,100]⟩,e+gapOf g at_.length,0⟩) (by simp)
 obtain ⟨N,hN⟩:∃ N,N=(out++(⟨⟨#[102,105,101,108,100]⟩,e+gapOf g at_.length,0⟩:Pl)::(l.map Nm.pl++(t'.pre++[⟨⟨#[108,105,116,101,114,97,108]⟩,tp,tp+tag.size⟩]))).length:=⟨_,rfl⟩
 rw [← hN] at hov hlt5
 subst hov
 obtain ⟨_,cur,hgc⟩:=hp5.2.2.2.1.blk (g:=gb) rfl
 have c2:w4.cell? ⟨pb,2,none⟩=some (.int .i64 (tp+tag.size)):=cO hp5.1 2 _ rfl
 have c3:w4.cell? ⟨pb,3,none⟩=some (.slice (some ⟨gb,0,none⟩) N cap):=cO hp5.1 3 _ rfl
 have fx:=fO hgc (out.length*3+2)
 have lpb:=ltb hp5.1
 have ne1:pb≠gb:=ne_blk hp5.1 hgc (by simp)
 have ne2:gb≠pb:=ne1.symm
 have H5:=a2_ hp5 hq4
 clear hp5 hq4 hgc hN
 go_wp2_with fail
 go_region_held3 (fun w'=>w'.cell? ⟨pb,2,none⟩=some (.int .i64 (tp+tag.size))∧w'.cell? ⟨pb,3,none⟩=some (.slice (some ⟨gb,0,none⟩) N cap))
  (first | (go_keep;done))
  (fail)
 have hcl:=PStx.close (e2:=tp+tag.size) H5.out.1 ((Kp.refl No w4).drew)
 have hemp:(false && !l.isEmpty)=false:=by
  rfl
 have hemp2:(false && !(Fd.mk c0 [] t tp0 tag).ns.isEmpty)=false:=by
  rfl
 have hFG:=FdG.mk' (g:=g) (at_:=at_) (e:=e) (m:=false) (d:=⟨c0,[],t,tp0,tag⟩) (l:=l) (t':=t') (tp:=tp) he (by simp only [Fd.nd,fdNd,Nd.size,Nd.sizeL,List.map_nil];omega) H2.out.1 (by rw [hemp2];exact H3.out.1) htS (by show (if tag.size=0 then _ else _);rw [if_neg hz];constructor <;> omega)
 refine bodyPost_end (v:=.tuple #[]) (by simp [results,Tryz.results56,go_sem]) rfl ⟨⟨_,rfl⟩,_,hFG,?_,H5.out.2.trans hcl.2⟩
 exact fd_close hemp hFG.pos (if_neg hz) (if_neg hz) (if_neg hz) hcl.1
end
section
open Go Go.RowKit
theorem field_fcx (c0:Int) (ns:List Nm) (t:Ty) (tp0:Int) (ht:TyC t) (w:World) (B base pb:Nat) (g at_:List Int) (e:Int) (out:List Pl) (q:Option Addr) (c:Nat) (hp:PSt w base pb g at_ e out) (hin:Nd.In w B (.slice q (ns.length+1) c) (Fd.mk c0 ns t tp0 (⟨#[]⟩:ByteArray)).nd) (hcc:1 < c) (hB:B≤base) (hb:Bnd at_ e out (Fd.mk c0 ns t tp0 (⟨#[]⟩:ByteArray)).nd.size) (hs:(Fd.mk c0 ns t tp0 (⟨#[]⟩:ByteArray)).nd.short) :
 Calls Tryz.prog 56 #[.pointer (some ⟨pb,0,none⟩),.agg #[.string ⟨#[102,105,101,108,100]⟩,.string ⟨#[]⟩,.slice q (ns.length+1) c],.bool false] w fun e' w'=>(∃ v,e'=.returned v)∧∃ d',FdG g at_ e false (Fd.mk c0 ns t tp0 ⟨#[]⟩) d'∧PSt w' base pb g (at_++d'.toks false) (ffin d'.t d'.tp d'.tag) (out++d'.pre)∧Kq base w w':=by
 have hbs:=hp.size
 have hL:=Nd.In_iff.1 hin
 simp only [Fd.nd,fdNd,Nd.l] at hL
 have HL:Hid (Ls w B (.slice q (ns.length+1) c) (t.nd::ns.map Nm.nd)):=hL
 simp only [Fd.nd,fdNd,Nd.size,Nd.sizeL,pnms_size,Bnd] at hb
 simp only [Fd.nd,fdNd,Nd.short,Nd.shortL,List.map_nil] at hs
 obtain ⟨he,b2,b3,b4⟩:=hb
 obtain ⟨htS,hts,hnsS0⟩:=hs
 have hnsS:=nms_short hnsS0
 obtain ⟨b,o,c',q',d,hee,hcl0,hbB,hi,k1,k2,k3,k4,k5⟩:=HL.out.get (i:=0) rfl
 simp only [lc_,ln_,lm_] at hee hcl0
 cases hee
 have HK:=hd_ k4
 simp only [Nat.zero_mul,Nat.add_zero] at k1 k2 k3
 have hbB:b < base:=by omega
 have HP:=hd_ hp
 have hgap:=gapOf_le g at_.length
 have htsz:=Nd.size_pos t.nd
 have HT:=hd_ ht
 clear ht
 clear hp hin hL k4 hi
 go_enter Tryz.func56,Tryz.ntmps56
 go_wp2_with fail
 have hk0:Kp No w (w.alloc (.cells #[.string ⟨#[102,105,101,108,100]⟩,.string ⟨#[]⟩,.slice (some ⟨b,o,none⟩) (ns.length+1) c] 24 (0,0))):=(Kp.refl No w).alloc _
 refine (open_c _ base pb g at_ e out ⟨#[102,105,101,108,100]⟩ ⟨#[]⟩ _ (HP.out.on hk0 (by simp)) (by omega) (by omega) (by omega) ⟨_,_,_,rfl⟩).mono ?_
 rintro e1 w1 ⟨rfl,hp1,hq1⟩
 have hx1:=hq1.kn w.heap.size _ _ _ (newOf w _) (by decide) (by decide) (by decide)
 have hq1:=(Kq.of_no hk0).trans hq1
 have zs1:=hq1.kp.size
 have xs1:=ltb hx1
 have x0:=cO hx1 0 _ rfl;have x1:=cO hx1 1 _ rfl;have x2:=cO hx1 2 _ rfl
 have H1:=a3_ hp1 hq1 hx1
 clear hp1 hq1 hx1 hk0
 go_wp2_with fail
 refine (commas_c ns w1 B base pb g at_ e _ _ H1.out.1 ((Ls.tailn HL.out).stay fun b hb=>H1.out.2.1.kp.block b (by omega) (by simp only [Fr];omega)) hB hnsS (by omega) (by omega) (by omega) (by simp only [la_,lc_,ln_,lm_];omega)).mono ?_
 rintro e2 w2 ⟨⟨v2,rfl⟩,l,f,hlg,hp2,hq2⟩
 have hx2:=hq2.kn w.heap.size _ _ _ H1.out.2.2 (by decide) (by decide) (by decide)
 have hq2:=H1.out.2.1.trans hq2
 have zs2:=hq2.kp.size
 have xs2:=ltb hx2
 have y0:=cO hx2 0 _ rfl;have y1:=cO hx2 1 _ rfl;have y2:=cO hx2 2 _ rfl
 obtain ⟨kk1,kk2,kk3⟩:=cellq hq2 hbB hbs k1 k2 k3
 have hlf:=hlg.fin;have hle:=hlg.le;have hlt:=hlg.tk;have hll:=hlg.len
 have hgp2:=gapOf_le g (at_++nmToks true l).length
 have H2:=a4_ hlg hp2 hq2 hx2
 clear hlg hp2 hq2 hx2 x0 x1 x2
 go_wp2_with fail
 refine (HT.out w2 B base pb g _ f _ _ H2.out.2.1 (HK.out.stay fun b hb=>H2.out.2.2.1.kp.block b (by omega) (by simp only [Fr];omega)) hB (by unfold Bnd;simp only [la_,lc_,ln_,lm_];refine ⟨by omega,by omega,by omega,by omega⟩) hts).mono ?_
 rintro e3 w3 ⟨⟨v3,rfl⟩,t',htg0,hp3,hq3⟩
 have htg:=htg0.z
 have hx3:=hq3.kn w.heap.size _ _ _ H2.out.2.2.2 (by decide) (by decide) (by decide)
 have hq3:=H2.out.2.2.1.trans hq3
 have xs3:=ltb hx3
 have z0:=cO hx3 0 _ rfl;have z1:=cO hx3 1 _ rfl;have z2:=cO hx3 2 _ rfl
 have htf:=htg.fin;have htl:=htg.le;have htp:=htg.pos;have htt:=htg.tk;have htq:=htg.pl
 have hgp3:=gapOf_le g ((at_++nmToks true l)++t'.toks false).length
 have H3:=a4_ htg hp3 hq3 hx3
 clear htg0 htg hp3 hq3 hx3 y0 y1 y2
 go_wp2_with fail
 have hp4:PSt w3 base pb g (at_++(nmToks true l++(t'.toks false++[]))) t'.fin (out++⟨⟨#[102,105,101,108,100]⟩,e+gapOf g at_.length,0⟩::(l.map Nm.pl++(t'.pre++[]))):=by simpa [aa_] using H3.out.2.1
 have hq4:=H3.out.2.2.1
 obtain ⟨gv,av,ov,hp5⟩:=hp4
 have hp5:PStx w3 base pb g (at_++(nmToks true l++(t'.toks false++[]))) (t'.fin) (out++⟨⟨#[102,105,101,108,100]⟩,e+gapOf g at_.length,0⟩::(l.map Nm.pl++(t'.pre++[]))) gv av ov:=hp5
 obtain ⟨gb,cap,hov,_,_,hlt5,lgb,_,_,xx2⟩:=hp5.2.2.2.1.get (i:=out.length) (p:=⟨⟨#[102,105,101,108,100]⟩,e+gapOf g at_.length,0⟩) (by simp)
 obtain ⟨N,hN⟩:∃ N,N=(out++(⟨⟨#[102,105,101,108,100]⟩,e+gapOf g at_.length,0⟩:Pl)::(l.map Nm.pl++(t'.pre++[]))).length:=⟨_,rfl⟩
 rw [← hN] at hov hlt5
 subst hov
 obtain ⟨_,cur,hgc⟩:=hp5.2.2.2.1.blk (g:=gb) rfl
 have c2:w3.cell? ⟨pb,2,none⟩=some (.int .i64 (t'.fin)):=cO hp5.1 2 _ rfl
 have c3:w3.cell? ⟨pb,3,none⟩=some (.slice (some ⟨gb,0,none⟩) N cap):=cO hp5.1 3 _ rfl
 have fx:=fO hgc (out.length*3+2)
 have lpb:=ltb hp5.1
 have ne1:pb≠gb:=ne_blk hp5.1 hgc (by simp)
 have ne2:gb≠pb:=ne1.symm
 have H5:=a2_ hp5 hq4
 clear hp5 hq4 hgc hN
 go_wp2_with fail
 go_region_held3 (fun w'=>w'.cell? ⟨pb,2,none⟩=some (.int .i64 (t'.fin))∧w'.cell? ⟨pb,3,none⟩=some (.slice (some ⟨gb,0,none⟩) N cap))
  (first | (go_keep;done))
  (fail)
 have hcl:=PStx.close (e2:=t'.fin) H5.out.1 ((Kp.refl No w3).drew)
 have hemp:(false && !l.isEmpty)=false:=by
  rfl
 have hemp2:(false && !(Fd.mk c0 ns t tp0 (⟨#[]⟩:ByteArray)).ns.isEmpty)=false:=by
  rfl
 have hFG:=FdG.mk' (g:=g) (at_:=at_) (e:=e) (m:=false) (d:=⟨c0,ns,t,tp0,⟨#[]⟩⟩) (l:=l) (t':=t') (tp:=1) he (by simp only [Fd.nd,fdNd,Nd.size,Nd.sizeL,pnms_size];omega) H2.out.1 (by rw [hemp2];exact H3.out.1) (by show (⟨#[]⟩:ByteArray).size≤1048576;decide) (by show (if (⟨#[]⟩:ByteArray).size=0 then Pk 1 else _);rw [if_pos (by rfl)];constructor <;> omega)
 refine bodyPost_end (v:=.tuple #[]) (by simp [results,Tryz.results56,go_sem]) rfl ⟨⟨_,rfl⟩,_,hFG,?_,H5.out.2.trans hcl.2⟩
 exact fd_close hemp hFG.pos (by rfl) (by rfl) (by rfl) hcl.1
theorem field_fct (c0:Int) (ns:List Nm) (t:Ty) (tp0:Int) (tag:ByteArray) (hz:¬ tag.size=0) (ht:TyC t) (w:World) (B base pb:Nat) (g at_:List Int) (e:Int) (out:List Pl) (q:Option Addr) (c:Nat) (hp:PSt w base pb g at_ e out) (hin:Nd.In w B (.slice q (ns.length+1) c) (Fd.mk c0 ns t tp0 tag).nd) (hcc:1 < c) (hB:B≤base) (hb:Bnd at_ e out (Fd.mk c0 ns t tp0 tag).nd.size) (hs:(Fd.mk c0 ns t tp0 tag).nd.short) :
 Calls Tryz.prog 56 #[.pointer (some ⟨pb,0,none⟩),.agg #[.string ⟨#[102,105,101,108,100]⟩,.string tag,.slice q (ns.length+1) c],.bool false] w fun e' w'=>(∃ v,e'=.returned v)∧∃ d',FdG g at_ e false (Fd.mk c0 ns t tp0 tag) d'∧PSt w' base pb g (at_++d'.toks false) (ffin d'.t d'.tp d'.tag) (out++d'.pre)∧Kq base w w':=by
 have hbs:=hp.size
 have hL:=Nd.In_iff.1 hin
 simp only [Fd.nd,fdNd,Nd.l] at hL
 have HL:Hid (Ls w B (.slice q (ns.length+1) c) (t.nd::ns.map Nm.nd)):=hL
 simp only [Fd.nd,fdNd,Nd.size,Nd.sizeL,pnms_size,Bnd] at hb
 simp only [Fd.nd,fdNd,Nd.short,Nd.shortL,List.map_nil] at hs
 obtain ⟨he,b2,b3,b4⟩:=hb
 obtain ⟨htS,hts,hnsS0⟩:=hs
 have hnsS:=nms_short hnsS0
 obtain ⟨b,o,c',q',d,hee,hcl0,hbB,hi,k1,k2,k3,k4,k5⟩:=HL.out.get (i:=0) rfl
 simp only [lc_,ln_,lm_] at hee hcl0
 cases hee
 have HK:=hd_ k4
 simp only [Nat.zero_mul,Nat.add_zero] at k1 k2 k3
 have hbB:b < base:=by omega
 have HP:=hd_ hp
 have hgap:=gapOf_le g at_.length
 have htsz:=Nd.size_pos t.nd
 have HT:=hd_ ht
 clear ht
 clear hp hin hL k4 hi
 go_enter Tryz.func56,Tryz.ntmps56
 go_wp2_with fail
 have htz:=bs_ne hz
 obtain ⟨htz1,htz2⟩:=htz
 have hk0:Kp No w (w.alloc (.cells #[.string ⟨#[102,105,101,108,100]⟩,.string tag,.slice (some ⟨b,o,none⟩) (ns.length+1) c] 24 (0,0))):=(Kp.refl No w).alloc _
 refine (open_c _ base pb g at_ e out ⟨#[102,105,101,108,100]⟩ tag _ (HP.out.on hk0 (by simp)) (by omega) (by omega) (by omega) ⟨_,_,_,rfl⟩).mono ?_
 rintro e1 w1 ⟨rfl,hp1,hq1⟩
 have hx1:=hq1.kn w.heap.size _ _ _ (newOf w _) (by decide) (by decide) (by decide)
 have hq1:=(Kq.of_no hk0).trans hq1
 have zs1:=hq1.kp.size
 have xs1:=ltb hx1
 have x0:=cO hx1 0 _ rfl;have x1:=cO hx1 1 _ rfl;have x2:=cO hx1 2 _ rfl
 have H1:=a3_ hp1 hq1 hx1
 clear hp1 hq1 hx1 hk0
 go_wp2_with fail
 refine (commas_c ns w1 B base pb g at_ e _ _ H1.out.1 ((Ls.tailn HL.out).stay fun b hb=>H1.out.2.1.kp.block b (by omega) (by simp only [Fr];omega)) hB hnsS (by omega) (by omega) (by omega) (by simp only [la_,lc_,ln_,lm_];omega)).mono ?_
 rintro e2 w2 ⟨⟨v2,rfl⟩,l,f,hlg,hp2,hq2⟩
 have hx2:=hq2.kn w.heap.size _ _ _ H1.out.2.2 (by decide) (by decide) (by decide)
 have hq2:=H1.out.2.1.trans hq2
 have zs2:=hq2.kp.size
 have xs2:=ltb hx2
 have y0:=cO hx2 0 _ rfl;have y1:=cO hx2 1 _ rfl;have y2:=cO hx2 2 _ rfl
 obtain ⟨kk1,kk2,kk3⟩:=cellq hq2 hbB hbs k1 k2 k3
 have hlf:=hlg.fin;have hle:=hlg.le;have hlt:=hlg.tk;have hll:=hlg.len
 have hgp2:=gapOf_le g (at_++nmToks true l).length
 have H2:=a4_ hlg hp2 hq2 hx2
 clear hlg hp2 hq2 hx2 x0 x1 x2
 go_wp2_with fail
 refine (HT.out w2 B base pb g _ f _ _ H2.out.2.1 (HK.out.stay fun b hb=>H2.out.2.2.1.kp.block b (by omega) (by simp only [Fr];omega)) hB (by unfold Bnd;simp only [la_,lc_,ln_,lm_];refine ⟨by omega,by omega,by omega,by omega⟩) hts).mono ?_
 rintro e3 w3 ⟨⟨v3,rfl⟩,t',htg0,hp3,hq3⟩
 have htg:=htg0.z
 have hx3:=hq3.kn w.heap.size _ _ _ H2.out.2.2.2 (by decide) (by decide) (by decide)
 have hq3:=H2.out.2.2.1.trans hq3
 have xs3:=ltb hx3
 have z0:=cO hx3 0 _ rfl;have z1:=cO hx3 1 _ rfl;have z2:=cO hx3 2 _ rfl
 have htf:=htg.fin;have htl:=htg.le;have htp:=htg.pos;have htt:=htg.tk;have htq:=htg.pl
 have hgp3:=gapOf_le g ((at_++nmToks true l)++t'.toks false).length
 have H3:=a4_ htg hp3 hq3 hx3
 clear htg0 htg hp3 hq3 hx3 y0 y1 y2
 go_wp2_with fail
 refine (pliteral_c w3 tag).mono ?_
 rintro e4 wi ⟨rfl,hri⟩
 have HI:=a2_ (H3.out.2.1.on hri (by simp)) (H3.out.2.2.1.no hri)
 clear hri z0 z1 z2
 go_wp2_with fail
 refine (node_literal wi base pb g _ _ _ tag none 0 HI.out.1 (by omega) (by omega) (by simp only [la_,lc_,ln_,lm_];omega) (by simp only [la_,lc_,ln_,lm_];omega) htS).mono ?_
 rintro e5 w4 ⟨⟨v4,rfl⟩,tp,htpq,hp4,hq4⟩
 have hq4:=HI.out.2.trans hq4
 have htp1:t'.fin≤tp∧tp≤t'.fin+1000:=by rw [htpq];constructor <;> omega
 clear htpq
 have hp4:PSt w4 base pb g (at_++(nmToks true l++(t'.toks false++[tp]))) (tp+tag.size) (out++⟨⟨#[102,105,101,108,100]⟩,e+gapOf g at_.length,0⟩::(l.map Nm.pl++(t'.pre++[⟨⟨#[108,105,116,101,114,97,108]⟩,tp,tp+tag.size⟩]))):=by simpa [aa_] using hp4
 obtain ⟨gv,av,ov,hp5⟩:=hp4
 have hp5:PStx w4 base pb g (at_++(nmToks true l++(t'.toks false++[tp]))) (tp+tag.size) (out++⟨⟨#[102,105,101,108,100]⟩,e+gapOf g at_.length,0⟩::(l.map Nm.pl++(t'.pre++[⟨⟨#[108,105,116,101,114,97,108]⟩,tp,tp+tag.size⟩]))) gv av ov:=hp5
 obtain ⟨gb,cap,hov,_,_,hlt5,lgb,_,_,xx2⟩:=hp5.2.2.2.1.get (i:=out.length) (p:=⟨⟨#[102,105,101,108,100]⟩,e+gapOf g at_.length,0⟩) (by simp)
 obtain ⟨N,hN⟩:∃ N,N=(out++(⟨⟨#[102,105,101,108,100]⟩,e+gapOf g at_.length,0⟩:Pl)::(l.map Nm.pl++(t'.pre++[⟨⟨#[108,105,116,101,114,97,108]⟩,tp,tp+tag.size⟩]))).length:=⟨_,rfl⟩
 rw [← hN] at hov hlt5
 subst hov
 obtain ⟨_,cur,hgc⟩:=hp5.2.2.2.1.blk (g:=gb) rfl
 have c2:w4.cell? ⟨pb,2,none⟩=some (.int .i64 (tp+tag.size)):=cO hp5.1 2 _ rfl
 have c3:w4.cell? ⟨pb,3,none⟩=some (.slice (some ⟨gb,0,none⟩) N cap):=cO hp5.1 3 _ rfl
 have fx:=fO hgc (out.length*3+2)
 have lpb:=ltb hp5.1
 have ne1:pb≠gb:=ne_blk hp5.1 hgc (by simp)
 have ne2:gb≠pb:=ne1.symm
 have H5:=a2_ hp5 hq4
 clear hp5 hq4 hgc hN
 go_wp2_with fail
 go_region_held3 (fun w'=>w'.cell? ⟨pb,2,none⟩=some (.int .i64 (tp+tag.size))∧w'.cell? ⟨pb,3,none⟩=some (.slice (some ⟨gb,0,none⟩) N cap))
  (first | (go_keep;done))
  (fail)
 have hcl:=PStx.close (e2:=tp+tag.size) H5.out.1 ((Kp.refl No w4).drew)
 have hemp:(false && !l.isEmpty)=false:=by
  rfl
 have hemp2:(false && !(Fd.mk c0 ns t tp0 tag).ns.isEmpty)=false:=by
  rfl
 have hFG:=FdG.mk' (g:=g) (at_:=at_) (e:=e) (m:=false) (d:=⟨c0,ns,t,tp0,tag⟩) (l:=l) (t':=t') (tp:=tp) he (by simp only [Fd.nd,fdNd,Nd.size,Nd.sizeL,pnms_size];omega) H2.out.1 (by rw [hemp2];exact H3.out.1) htS (by show (if tag.size=0 then _ else _);rw [if_neg hz];constructor <;> omega)
 refine bodyPost_end (v:=.tuple #[]) (by simp [results,Tryz.results56,go_sem]) rfl ⟨⟨_,rfl⟩,_,hFG,?_,H5.out.2.trans hcl.2⟩
 exact fd_close hemp hFG.pos (if_neg hz) (if_neg hz) (if_neg hz) hcl.1
end
section
open Go Go.RowKit
theorem field_n1x (c0:Int) (t:Ty) (tp0:Int) (ht:TyC t) (w:World) (B base pb:Nat) (g at_:List Int) (e:Int) (out:List Pl) (q:Option Addr) (c:Nat) (hp:PSt w base pb g at_ e out) (hin:Nd.In w B (.slice q (1) c) (Fd.mk c0 [] t tp0 (⟨#[]⟩:ByteArray)).nd) (hcc:c=1) (hB:B≤base) (hb:Bnd at_ e out (Fd.mk c0 [] t tp0 (⟨#[]⟩:ByteArray)).nd.size) (hs:(Fd.mk c0 [] t tp0 (⟨#[]⟩:ByteArray)).nd.short) :
 Calls Tryz.prog 56 #[.pointer (some ⟨pb,0,none⟩),.agg #[.string ⟨#[102,105,101,108,100]⟩,.string ⟨#[]⟩,.slice q (1) c],.bool true] w fun e' w'=>(∃ v,e'=.returned v)∧∃ d',FdG g at_ e true (Fd.mk c0 [] t tp0 ⟨#[]⟩) d'∧PSt w' base pb g (at_++d'.toks true) (ffin d'.t d'.tp d'.tag) (out++d'.pre)∧Kq base w w':=by
 have hbs:=hp.size
 have hL:=Nd.In_iff.1 hin
 simp only [Fd.nd,fdNd,Nd.l,List.map_nil] at hL
 have HL:Hid (Ls w B (.slice q (1) c) (t.nd::[])):=hL
 simp only [Fd.nd,fdNd,Nd.size,Nd.sizeL,List.map_nil,Bnd] at hb
 simp only [Fd.nd,fdNd,Nd.short,Nd.shortL,List.map_nil] at hs
 obtain ⟨he,b2,b3,b4⟩:=hb
 obtain ⟨htS,hts,hnsS0⟩:=hs
 obtain ⟨b,o,c',q',d,hee,hcl0,hbB,hi,k1,k2,k3,k4,k5⟩:=HL.out.get (i:=0) rfl
 simp only [lc_,ln_,lm_] at hee hcl0
 cases hee
 have HK:=hd_ k4
 simp only [Nat.zero_mul,Nat.add_zero] at k1 k2 k3
 have hbB:b < base:=by omega
 have HP:=hd_ hp
 have hgap:=gapOf_le g at_.length
 have htsz:=Nd.size_pos t.nd
 have HT:=hd_ ht
 clear ht
 subst hcc
 clear hp hin hL k4 hi
 go_enter Tryz.func56,Tryz.ntmps56
 go_wp2_with fail
 have hk0:Kp No w (w.alloc (.cells #[.string ⟨#[102,105,101,108,100]⟩,.string ⟨#[]⟩,.slice (some ⟨b,o,none⟩) (1) 1] 24 (0,0))):=(Kp.refl No w).alloc _
 refine (open_c _ base pb g at_ e out ⟨#[102,105,101,108,100]⟩ ⟨#[]⟩ _ (HP.out.on hk0 (by simp)) (by omega) (by omega) (by omega) ⟨_,_,_,rfl⟩).mono ?_
 rintro e1 w1 ⟨rfl,hp1,hq1⟩
 have hx1:=hq1.kn w.heap.size _ _ _ (newOf w _) (by decide) (by decide) (by decide)
 have hq1:=(Kq.of_no hk0).trans hq1
 have zs1:=hq1.kp.size
 have xs1:=ltb hx1
 have x0:=cO hx1 0 _ rfl;have x1:=cO hx1 1 _ rfl;have x2:=cO hx1 2 _ rfl
 have H1:=a3_ hp1 hq1 hx1
 clear hp1 hq1 hx1 hk0
 go_wp2_with fail
 refine (commas_c [] w1 B base pb g at_ e _ _ H1.out.1 ⟨_,_,rfl,by simp,.inl rfl⟩ hB (by simp) (by omega) (by simp only [ln_];omega) (by simp only [ln_];omega) (by simp only [la_,lc_,ln_,lm_];omega)).mono ?_
 rintro e2 w2 ⟨⟨v2,rfl⟩,l,f,hlg,hp2,hq2⟩
 have hx2:=hq2.kn w.heap.size _ _ _ H1.out.2.2 (by decide) (by decide) (by decide)
 have hq2:=H1.out.2.1.trans hq2
 have zs2:=hq2.kp.size
 have xs2:=ltb hx2
 have y0:=cO hx2 0 _ rfl;have y1:=cO hx2 1 _ rfl;have y2:=cO hx2 2 _ rfl
 obtain ⟨kk1,kk2,kk3⟩:=cellq hq2 hbB hbs k1 k2 k3
 have hlf:=hlg.fin;have hle:=hlg.le;have hlt:=hlg.tk;have hll:=hlg.len
 have hgp2:=gapOf_le g (at_++nmToks true l).length
 have H2:=a4_ hlg hp2 hq2 hx2
 clear hlg hp2 hq2 hx2 x0 x1 x2
 simp only [ln_] at hlf hlt hll
 go_wp2_with fail
 refine (HT.out w2 B base pb g _ f _ _ H2.out.2.1 (HK.out.stay fun b hb=>H2.out.2.2.1.kp.block b (by omega) (by simp only [Fr];omega)) hB (by unfold Bnd;simp only [la_,lc_,ln_,lm_];refine ⟨by omega,by omega,by omega,by omega⟩) hts).mono ?_
 rintro e3 w3 ⟨⟨v3,rfl⟩,t',htg0,hp3,hq3⟩
 have htg:=htg0.z
 have hx3:=hq3.kn w.heap.size _ _ _ H2.out.2.2.2 (by decide) (by decide) (by decide)
 have hq3:=H2.out.2.2.1.trans hq3
 have xs3:=ltb hx3
 have z0:=cO hx3 0 _ rfl;have z1:=cO hx3 1 _ rfl;have z2:=cO hx3 2 _ rfl
 have htf:=htg.fin;have htl:=htg.le;have htp:=htg.pos;have htt:=htg.tk;have htq:=htg.pl
 have hgp3:=gapOf_le g ((at_++nmToks true l)++t'.toks false).length
 have H3:=a4_ htg hp3 hq3 hx3
 clear htg0 htg hp3 hq3 hx3 y0 y1 y2
 go_wp2_with fail
 have hp4:PSt w3 base pb g (at_++(nmToks true l++(t'.toks false++[]))) t'.fin (out++⟨⟨#[102,105,101,108,100]⟩,e+gapOf g at_.length,0⟩::(l.map Nm.pl++(t'.pre++[]))):=by simpa [aa_] using H3.out.2.1
 have hq4:=H3.out.2.2.1
 obtain ⟨gv,av,ov,hp5⟩:=hp4
 have hp5:PStx w3 base pb g (at_++(nmToks true l++(t'.toks false++[]))) (t'.fin) (out++⟨⟨#[102,105,101,108,100]⟩,e+gapOf g at_.length,0⟩::(l.map Nm.pl++(t'.pre++[]))) gv av ov:=hp5
 obtain ⟨gb,cap,hov,_,_,hlt5,lgb,_,_,xx2⟩:=hp5.2.2.2.1.get (i:=out.length) (p:=⟨⟨#[102,105,101,108,100]⟩,e+gapOf g at_.length,0⟩) (by simp)
 obtain ⟨N,hN⟩:∃ N,N=(out++(⟨⟨#[102,105,101,108,100]⟩,e+gapOf g at_.length,0⟩:Pl)::(l.map Nm.pl++(t'.pre++[]))).length:=⟨_,rfl⟩
 rw [← hN] at hov hlt5
 subst hov
 obtain ⟨_,cur,hgc⟩:=hp5.2.2.2.1.blk (g:=gb) rfl
 have c2:w3.cell? ⟨pb,2,none⟩=some (.int .i64 (t'.fin)):=cO hp5.1 2 _ rfl
 have c3:w3.cell? ⟨pb,3,none⟩=some (.slice (some ⟨gb,0,none⟩) N cap):=cO hp5.1 3 _ rfl
 have fx:=fO hgc (out.length*3+2)
 have lpb:=ltb hp5.1
 have ne1:pb≠gb:=ne_blk hp5.1 hgc (by simp)
 have ne2:gb≠pb:=ne1.symm
 have H5:=a2_ hp5 hq4
 clear hp5 hq4 hgc hN
 go_wp2_with fail
 go_region_held3 (fun w'=>w'.cell? ⟨pb,2,none⟩=some (.int .i64 (t'.fin))∧w'.cell? ⟨pb,3,none⟩=some (.slice (some ⟨gb,0,none⟩) N cap))
  (first | (go_keep;done))
  (fail)
 have hcl:=PStx.close (e2:=t'.fin) H5.out.1 ((Kp.refl No w3).drew)
 have hemp:(true && !l.isEmpty)=false:=by
  cases l with | nil=>rfl | cons _ _=>simp at hll
 have hemp2:(true && !(Fd.mk c0 [] t tp0 (⟨#[]⟩:ByteArray)).ns.isEmpty)=false:=by
  rfl
 have hFG:=FdG.mk' (g:=g) (at_:=at_) (e:=e) (m:=true) (d:=⟨c0,[],t,tp0,⟨#[]⟩⟩) (l:=l) (t':=t') (tp:=1) he (by simp only [Fd.nd,fdNd,Nd.size,Nd.sizeL,List.map_nil];omega) H2.out.1 (by rw [hemp2];exact H3.out.1) (by show (⟨#[]⟩:ByteArray).size≤1048576;decide) (by show (if (⟨#[]⟩:ByteArray).size=0 then Pk 1 else _);rw [if_pos (by rfl)];constructor <;> omega)
 refine bodyPost_end (v:=.tuple #[]) (by simp [results,Tryz.results56,go_sem]) rfl ⟨⟨_,rfl⟩,_,hFG,?_,H5.out.2.trans hcl.2⟩
 exact fd_close hemp hFG.pos (by rfl) (by rfl) (by rfl) hcl.1
theorem field_n1t (c0:Int) (t:Ty) (tp0:Int) (tag:ByteArray) (hz:¬ tag.size=0) (ht:TyC t) (w:World) (B base pb:Nat) (g at_:List Int) (e:Int) (out:List Pl) (q:Option Addr) (c:Nat) (hp:PSt w base pb g at_ e out) (hin:Nd.In w B (.slice q (1) c) (Fd.mk c0 [] t tp0 tag).nd) (hcc:c=1) (hB:B≤base) (hb:Bnd at_ e out (Fd.mk c0 [] t tp0 tag).nd.size) (hs:(Fd.mk c0 [] t tp0 tag).nd.short) :
 Calls Tryz.prog 56 #[.pointer (some ⟨pb,0,none⟩),.agg #[.string ⟨#[102,105,101,108,100]⟩,.string tag,.slice q (1) c],.bool true] w fun e' w'=>(∃ v,e'=.returned v)∧∃ d',FdG g at_ e true (Fd.mk c0 [] t tp0 tag) d'∧PSt w' base pb g (at_++d'.toks true) (ffin d'.t d'.tp d'.tag) (out++d'.pre)∧Kq base w w':=by
 have hbs:=hp.size
 have hL:=Nd.In_iff.1 hin
 simp only [Fd.nd,fdNd,Nd.l,List.map_nil] at hL
 have HL:Hid (Ls w B (.slice q (1) c) (t.nd::[])):=hL
 simp only [Fd.nd,fdNd,Nd.size,Nd.sizeL,List.map_nil,Bnd] at hb
 simp only [Fd.nd,fdNd,Nd.short,Nd.shortL,List.map_nil] at hs
 obtain ⟨he,b2,b3,b4⟩:=hb
 obtain ⟨htS,hts,hnsS0⟩:=hs
 obtain ⟨b,o,c',q',d,hee,hcl0,hbB,hi,k1,k2,k3,k4,k5⟩:=HL.out.get (i:=0) rfl
 simp only [lc_,ln_,lm_] at hee hcl0
 cases hee
 have HK:=hd_ k4
 simp only [Nat.zero_mul,Nat.add_zero] at k1 k2 k3
 have hbB:b < base:=by omega
 have HP:=hd_ hp
 have hgap:=gapOf_le g at_.length
 have htsz:=Nd.size_pos t.nd
 have HT:=hd_ ht
 clear ht
 subst hcc
 clear hp hin hL k4 hi
 go_enter Tryz.func56,Tryz.ntmps56
 go_wp2_with fail
 have htz:=bs_ne hz
 obtain ⟨htz1,htz2⟩:=htz
 have hk0:Kp No w (w.alloc (.cells #[.string ⟨#[102,105,101,108,100]⟩,.string tag,.slice (some ⟨b,o,none⟩) (1) 1] 24 (0,0))):=(Kp.refl No w).alloc _
 refine (open_c _ base pb g at_ e out ⟨#[102,105,101,108,100]⟩ tag _ (HP.out.on hk0 (by simp)) (by omega) (by omega) (by omega) ⟨_,_,_,rfl⟩).mono ?_
 rintro e1 w1 ⟨rfl,hp1,hq1⟩
 have hx1:=hq1.kn w.heap.size _ _ _ (newOf w _) (by decide) (by decide) (by decide)
 have hq1:=(Kq.of_no hk0).trans hq1
 have zs1:=hq1.kp.size
 have xs1:=ltb hx1
 have x0:=cO hx1 0 _ rfl;have x1:=cO hx1 1 _ rfl;have x2:=cO hx1 2 _ rfl
 have H1:=a3_ hp1 hq1 hx1
 clear hp1 hq1 hx1 hk0
 go_wp2_with fail
 refine (commas_c [] w1 B base pb g at_ e _ _ H1.out.1 ⟨_,_,rfl,by simp,.inl rfl⟩ hB (by simp) (by omega) (by simp only [ln_];omega) (by simp only [ln_];omega) (by simp only [la_,lc_,ln_,lm_];omega)).mono ?_
 rintro e2 w2 ⟨⟨v2,rfl⟩,l,f,hlg,hp2,hq2⟩
 have hx2:=hq2.kn w.heap.size _ _ _ H1.out.2.2 (by decide) (by decide) (by decide)
 have hq2:=H1.out.2.1.trans hq2
 have zs2:=hq2.kp.size
 have xs2:=ltb hx2
 have y0:=cO hx2 0 _ rfl;have y1:=cO hx2 1 _ rfl;have y2:=cO hx2 2 _ rfl
 obtain ⟨kk1,kk2,kk3⟩:=cellq hq2 hbB hbs k1 k2 k3
 have hlf:=hlg.fin;have hle:=hlg.le;have hlt:=hlg.tk;have hll:=hlg.len
 have hgp2:=gapOf_le g (at_++nmToks true l).length
 have H2:=a4_ hlg hp2 hq2 hx2
 clear hlg hp2 hq2 hx2 x0 x1 x2
 simp only [ln_] at hlf hlt hll
 go_wp2_with fail
 refine (HT.out w2 B base pb g _ f _ _ H2.out.2.1 (HK.out.stay fun b hb=>H2.out.2.2.1.kp.block b (by omega) (by simp only [Fr];omega)) hB (by unfold Bnd;simp only [la_,lc_,ln_,lm_];refine ⟨by omega,by omega,by omega,by omega⟩) hts).mono ?_
 rintro e3 w3 ⟨⟨v3,rfl⟩,t',htg0,hp3,hq3⟩
 have htg:=htg0.z
 have hx3:=hq3.kn w.heap.size _ _ _ H2.out.2.2.2 (by decide) (by decide) (by decide)
 have hq3:=H2.out.2.2.1.trans hq3
 have xs3:=ltb hx3
 have z0:=cO hx3 0 _ rfl;have z1:=cO hx3 1 _ rfl;have z2:=cO hx3 2 _ rfl
 have htf:=htg.fin;have htl:=htg.le;have htp:=htg.pos;have htt:=htg.tk;have htq:=htg.pl
 have hgp3:=gapOf_le g ((at_++nmToks true l)++t'.toks false).length
 have H3:=a4_ htg hp3 hq3 hx3
 clear htg0 htg hp3 hq3 hx3 y0 y1 y2
 go_wp2_with fail
 refine (pliteral_c w3 tag).mono ?_
 rintro e4 wi ⟨rfl,hri⟩
 have HI:=a2_ (H3.out.2.1.on hri (by simp)) (H3.out.2.2.1.no hri)
 clear hri z0 z1 z2
 go_wp2_with fail
 refine (node_literal wi base pb g _ _ _ tag none 0 HI.out.1 (by omega) (by omega) (by simp only [la_,lc_,ln_,lm_];omega) (by simp only [la_,lc_,ln_,lm_];omega) htS).mono ?_
 rintro e5 w4 ⟨⟨v4,rfl⟩,tp,htpq,hp4,hq4⟩
 have hq4:=HI.out.2.trans hq4
 have htp1:t'.fin≤tp∧tp≤t'.fin+1000:=by rw [htpq];constructor <;> omega
 clear htpq
 have hp4:PSt w4 base pb g (at_++(nmToks true l++(t'.toks false++[tp]))) (tp+tag.size) (out++⟨⟨#[102,105,101,108,100]⟩,e+gapOf g at_.length,0⟩::(l.map Nm.pl++(t'.pre++[⟨⟨#[108,105,116,101,114,97,108]⟩,tp,tp+tag.size⟩]))):=by simpa [aa_] using hp4
 obtain ⟨gv,av,ov,hp5⟩:=hp4
 have hp5:PStx w4 base pb g (at_++(nmToks true l++(t'.toks false++[tp]))) (tp+tag.size) (out++⟨⟨#[102,105,101,108,100]⟩,e+gapOf g at_.length,0⟩::(l.map Nm.pl++(t'.pre++[⟨⟨#[108,105,116,101,114,97,108]⟩,tp,tp+tag.size⟩]))) gv av ov:=hp5
 obtain ⟨gb,cap,hov,_,_,hlt5,lgb,_,_,xx2⟩:=hp5.2.2.2.1.get (i:=out.length) (p:=⟨⟨#[102,105,101,108,100]⟩,e+gapOf g at_.length,0⟩) (by simp)
 obtain ⟨N,hN⟩:∃ N,N=(out++(⟨⟨#[102,105,101,108,100]⟩,e+gapOf g at_.length,0⟩:Pl)::(l.map Nm.pl++(t'.pre++[⟨⟨#[108,105,116,101,114,97,108]⟩,tp,tp+tag.size⟩]))).length:=⟨_,rfl⟩
 rw [← hN] at hov hlt5
 subst hov
 obtain ⟨_,cur,hgc⟩:=hp5.2.2.2.1.blk (g:=gb) rfl
 have c2:w4.cell? ⟨pb,2,none⟩=some (.int .i64 (tp+tag.size)):=cO hp5.1 2 _ rfl
 have c3:w4.cell? ⟨pb,3,none⟩=some (.slice (some ⟨gb,0,none⟩) N cap):=cO hp5.1 3 _ rfl
 have fx:=fO hgc (out.length*3+2)
 have lpb:=ltb hp5.1
 have ne1:pb≠gb:=ne_blk hp5.1 hgc (by simp)
 have ne2:gb≠pb:=ne1.symm
 have H5:=a2_ hp5 hq4
 clear hp5 hq4 hgc hN
 go_wp2_with fail
 go_region_held3 (fun w'=>w'.cell? ⟨pb,2,none⟩=some (.int .i64 (tp+tag.size))∧w'.cell? ⟨pb,3,none⟩=some (.slice (some ⟨gb,0,none⟩) N cap))
  (first | (go_keep;done))
  (fail)
 have hcl:=PStx.close (e2:=tp+tag.size) H5.out.1 ((Kp.refl No w4).drew)
 have hemp:(true && !l.isEmpty)=false:=by
  cases l with | nil=>rfl | cons _ _=>simp at hll
 have hemp2:(true && !(Fd.mk c0 [] t tp0 tag).ns.isEmpty)=false:=by
  rfl
 have hFG:=FdG.mk' (g:=g) (at_:=at_) (e:=e) (m:=true) (d:=⟨c0,[],t,tp0,tag⟩) (l:=l) (t':=t') (tp:=tp) he (by simp only [Fd.nd,fdNd,Nd.size,Nd.sizeL,List.map_nil];omega) H2.out.1 (by rw [hemp2];exact H3.out.1) htS (by show (if tag.size=0 then _ else _);rw [if_neg hz];constructor <;> omega)
 refine bodyPost_end (v:=.tuple #[]) (by simp [results,Tryz.results56,go_sem]) rfl ⟨⟨_,rfl⟩,_,hFG,?_,H5.out.2.trans hcl.2⟩
 exact fd_close hemp hFG.pos (if_neg hz) (if_neg hz) (if_neg hz) hcl.1
end
section
open Go Go.RowKit
theorem field_ncx (c0:Int) (t:Ty) (tp0:Int) (ht:TyC t) (w:World) (B base pb:Nat) (g at_:List Int) (e:Int) (out:List Pl) (q:Option Addr) (c:Nat) (hp:PSt w base pb g at_ e out) (hin:Nd.In w B (.slice q (1) c) (Fd.mk c0 [] t tp0 (⟨#[]⟩:ByteArray)).nd) (hcc:1 < c) (hB:B≤base) (hb:Bnd at_ e out (Fd.mk c0 [] t tp0 (⟨#[]⟩:ByteArray)).nd.size) (hs:(Fd.mk c0 [] t tp0 (⟨#[]⟩:ByteArray)).nd.short) :
 Calls Tryz.prog 56 #[.pointer (some ⟨pb,0,none⟩),.agg #[.string ⟨#[102,105,101,108,100]⟩,.string ⟨#[]⟩,.slice q (1) c],.bool true] w fun e' w'=>(∃ v,e'=.returned v)∧∃ d',FdG g at_ e true (Fd.mk c0 [] t tp0 ⟨#[]⟩) d'∧PSt w' base pb g (at_++d'.toks true) (ffin d'.t d'.tp d'.tag) (out++d'.pre)∧Kq base w w':=by
 have hbs:=hp.size
 have hL:=Nd.In_iff.1 hin
 simp only [Fd.nd,fdNd,Nd.l,List.map_nil] at hL
 have HL:Hid (Ls w B (.slice q (1) c) (t.nd::[])):=hL
 simp only [Fd.nd,fdNd,Nd.size,Nd.sizeL,List.map_nil,Bnd] at hb
 simp only [Fd.nd,fdNd,Nd.short,Nd.shortL,List.map_nil] at hs
 obtain ⟨he,b2,b3,b4⟩:=hb
 obtain ⟨htS,hts,hnsS0⟩:=hs
 obtain ⟨b,o,c',q',d,hee,hcl0,hbB,hi,k1,k2,k3,k4,k5⟩:=HL.out.get (i:=0) rfl
 simp only [lc_,ln_,lm_] at hee hcl0
 cases hee
 have HK:=hd_ k4
 simp only [Nat.zero_mul,Nat.add_zero] at k1 k2 k3
 have hbB:b < base:=by omega
 have HP:=hd_ hp
 have hgap:=gapOf_le g at_.length
 have htsz:=Nd.size_pos t.nd
 have HT:=hd_ ht
 clear ht
 clear hp hin hL k4 hi
 go_enter Tryz.func56,Tryz.ntmps56
 go_wp2_with fail
 have hk0:Kp No w (w.alloc (.cells #[.string ⟨#[102,105,101,108,100]⟩,.string ⟨#[]⟩,.slice (some ⟨b,o,none⟩) (1) c] 24 (0,0))):=(Kp.refl No w).alloc _
 refine (open_c _ base pb g at_ e out ⟨#[102,105,101,108,100]⟩ ⟨#[]⟩ _ (HP.out.on hk0 (by simp)) (by omega) (by omega) (by omega) ⟨_,_,_,rfl⟩).mono ?_
 rintro e1 w1 ⟨rfl,hp1,hq1⟩
 have hx1:=hq1.kn w.heap.size _ _ _ (newOf w _) (by decide) (by decide) (by decide)
 have hq1:=(Kq.of_no hk0).trans hq1
 have zs1:=hq1.kp.size
 have xs1:=ltb hx1
 have x0:=cO hx1 0 _ rfl;have x1:=cO hx1 1 _ rfl;have x2:=cO hx1 2 _ rfl
 have H1:=a3_ hp1 hq1 hx1
 clear hp1 hq1 hx1 hk0
 go_wp2_with fail
 refine (commas_c [] w1 B base pb g at_ e _ _ H1.out.1 ⟨_,_,rfl,by simp,.inl rfl⟩ hB (by simp) (by omega) (by simp only [ln_];omega) (by simp only [ln_];omega) (by simp only [la_,lc_,ln_,lm_];omega)).mono ?_
 rintro e2 w2 ⟨⟨v2,rfl⟩,l,f,hlg,hp2,hq2⟩
 have hx2:=hq2.kn w.heap.size _ _ _ H1.out.2.2 (by decide) (by decide) (by decide)
 have hq2:=H1.out.2.1.trans hq2
 have zs2:=hq2.kp.size
 have xs2:=ltb hx2
 have y0:=cO hx2 0 _ rfl;have y1:=cO hx2 1 _ rfl;have y2:=cO hx2 2 _ rfl
 obtain ⟨kk1,kk2,kk3⟩:=cellq hq2 hbB hbs k1 k2 k3
 have hlf:=hlg.fin;have hle:=hlg.le;have hlt:=hlg.tk;have hll:=hlg.len
 have hgp2:=gapOf_le g (at_++nmToks true l).length
 have H2:=a4_ hlg hp2 hq2 hx2
 clear hlg hp2 hq2 hx2 x0 x1 x2
 simp only [ln_] at hlf hlt hll
 go_wp2_with fail
 refine (HT.out w2 B base pb g _ f _ _ H2.out.2.1 (HK.out.stay fun b hb=>H2.out.2.2.1.kp.block b (by omega) (by simp only [Fr];omega)) hB (by unfold Bnd;simp only [la_,lc_,ln_,lm_];refine ⟨by omega,by omega,by omega,by omega⟩) hts).mono ?_
 rintro e3 w3 ⟨⟨v3,rfl⟩,t',htg0,hp3,hq3⟩
 have htg:=htg0.z
 have hx3:=hq3.kn w.heap.size _ _ _ H2.out.2.2.2 (by decide) (by decide) (by decide)
 have hq3:=H2.out.2.2.1.trans hq3
 have xs3:=ltb hx3
 have z0:=cO hx3 0 _ rfl;have z1:=cO hx3 1 _ rfl;have z2:=cO hx3 2 _ rfl
 have htf:=htg.fin;have htl:=htg.le;have htp:=htg.pos;have htt:=htg.tk;have htq:=htg.pl
 have hgp3:=gapOf_le g ((at_++nmToks true l)++t'.toks false).length
 have H3:=a4_ htg hp3 hq3 hx3
 clear htg0 htg hp3 hq3 hx3 y0 y1 y2
 go_wp2_with fail
 have hp4:PSt w3 base pb g (at_++(nmToks true l++(t'.toks false++[]))) t'.fin (out++⟨⟨#[102,105,101,108,100]⟩,e+gapOf g at_.length,0⟩::(l.map Nm.pl++(t'.pre++[]))):=by simpa [aa_] using H3.out.2.1
 have hq4:=H3.out.2.2.1
 obtain ⟨gv,av,ov,hp5⟩:=hp4
 have hp5:PStx w3 base pb g (at_++(nmToks true l++(t'.toks false++[]))) (t'.fin) (out++⟨⟨#[102,105,101,108,100]⟩,e+gapOf g at_.length,0⟩::(l.map Nm.pl++(t'.pre++[]))) gv av ov:=hp5
 obtain ⟨gb,cap,hov,_,_,hlt5,lgb,_,_,xx2⟩:=hp5.2.2.2.1.get (i:=out.length) (p:=⟨⟨#[102,105,101,108,100]⟩,e+gapOf g at_.length,0⟩) (by simp)
 obtain ⟨N,hN⟩:∃ N,N=(out++(⟨⟨#[102,105,101,108,100]⟩,e+gapOf g at_.length,0⟩:Pl)::(l.map Nm.pl++(t'.pre++[]))).length:=⟨_,rfl⟩
 rw [← hN] at hov hlt5
 subst hov
 obtain ⟨_,cur,hgc⟩:=hp5.2.2.2.1.blk (g:=gb) rfl
 have c2:w3.cell? ⟨pb,2,none⟩=some (.int .i64 (t'.fin)):=cO hp5.1 2 _ rfl
 have c3:w3.cell? ⟨pb,3,none⟩=some (.slice (some ⟨gb,0,none⟩) N cap):=cO hp5.1 3 _ rfl
 have fx:=fO hgc (out.length*3+2)
 have lpb:=ltb hp5.1
 have ne1:pb≠gb:=ne_blk hp5.1 hgc (by simp)
 have ne2:gb≠pb:=ne1.symm
 have H5:=a2_ hp5 hq4
 clear hp5 hq4 hgc hN
 go_wp2_with fail
 go_region_held3 (fun w'=>w'.cell? ⟨pb,2,none⟩=some (.int .i64 (t'.fin))∧w'.cell? ⟨pb,3,none⟩=some (.slice (some ⟨gb,0,none⟩) N cap))
  (first | (go_keep;done))
  (fail)
 have hcl:=PStx.close (e2:=t'.fin) H5.out.1 ((Kp.refl No w3).drew)
 have hemp:(true && !l.isEmpty)=false:=by
  cases l with | nil=>rfl | cons _ _=>simp at hll
 have hemp2:(true && !(Fd.mk c0 [] t tp0 (⟨#[]⟩:ByteArray)).ns.isEmpty)=false:=by
  rfl
 have hFG:=FdG.mk' (g:=g) (at_:=at_) (e:=e) (m:=true) (d:=⟨c0,[],t,tp0,⟨#[]⟩⟩) (l:=l) (t':=t') (tp:=1) he (by simp only [Fd.nd,fdNd,Nd.size,Nd.sizeL,List.map_nil];omega) H2.out.1 (by rw [hemp2];exact H3.out.1) (by show (⟨#[]⟩:ByteArray).size≤1048576;decide) (by show (if (⟨#[]⟩:ByteArray).size=0 then Pk 1 else _);rw [if_pos (by rfl)];constructor <;> omega)
 refine bodyPost_end (v:=.tuple #[]) (by simp [results,Tryz.results56,go_sem]) rfl ⟨⟨_,rfl⟩,_,hFG,?_,H5.out.2.trans hcl.2⟩
 exact fd_close hemp hFG.pos (by rfl) (by rfl) (by rfl) hcl.1
theorem field_nct (c0:Int) (t:Ty) (tp0:Int) (tag:ByteArray) (hz:¬ tag.size=0) (ht:TyC t) (w:World) (B base pb:Nat) (g at_:List Int) (e:Int) (out:List Pl) (q:Option Addr) (c:Nat) (hp:PSt w base pb g at_ e out) (hin:Nd.In w B (.slice q (1) c) (Fd.mk c0 [] t tp0 tag).nd) (hcc:1 < c) (hB:B≤base) (hb:Bnd at_ e out (Fd.mk c0 [] t tp0 tag).nd.size) (hs:(Fd.mk c0 [] t tp0 tag).nd.short) :
 Calls Tryz.prog 56 #[.pointer (some ⟨pb,0,none⟩),.agg #[.string ⟨#[102,105,101,108,100]⟩,.string tag,.slice q (1) c],.bool true] w fun e' w'=>(∃ v,e'=.returned v)∧∃ d',FdG g at_ e true (Fd.mk c0 [] t tp0 tag) d'∧PSt w' base pb g (at_++d'.toks true) (ffin d'.t d'.tp d'.tag) (out++d'.pre)∧Kq base w w':=by
 have hbs:=hp.size
 have hL:=Nd.In_iff.1 hin
 simp only [Fd.nd,fdNd,Nd.l,List.map_nil] at hL
 have HL:Hid (Ls w B (.slice q (1) c) (t.nd::[])):=hL
 simp only [Fd.nd,fdNd,Nd.size,Nd.sizeL,List.map_nil,Bnd] at hb
 simp only [Fd.nd,fdNd,Nd.short,Nd.shortL,List.map_nil] at hs
 obtain ⟨he,b2,b3,b4⟩:=hb
 obtain ⟨htS,hts,hnsS0⟩:=hs
 obtain ⟨b,o,c',q',d,hee,hcl0,hbB,hi,k1,k2,k3,k4,k5⟩:=HL.out.get (i:=0) rfl
 simp only [lc_,ln_,lm_] at hee hcl0
 cases hee
 have HK:=hd_ k4
 simp only [Nat.zero_mul,Nat.add_zero] at k1 k2 k3
 have hbB:b < base:=by omega
 have HP:=hd_ hp
 have hgap:=gapOf_le g at_.length
 have htsz:=Nd.size_pos t.nd
 have HT:=hd_ ht
 clear ht
 clear hp hin hL k4 hi
 go_enter Tryz.func56,Tryz.ntmps56
 go_wp2_with fail
 have htz:=bs_ne hz
 obtain ⟨htz1,htz2⟩:=htz
 have hk0:Kp No w (w.alloc (.cells #[.string ⟨#[102,105,101,108,100]⟩,.string tag,.slice (some ⟨b,o,none⟩) (1) c] 24 (0,0))):=(Kp.refl No w).alloc _
 refine (open_c _ base pb g at_ e out ⟨#[102,105,101,108,100]⟩ tag _ (HP.out.on hk0 (by simp)) (by omega) (by omega) (by omega) ⟨_,_,_,rfl⟩).mono ?_
 rintro e1 w1 ⟨rfl,hp1,hq1⟩
 have hx1:=hq1.kn w.heap.size _ _ _ (newOf w _) (by decide) (by decide) (by decide)
 have hq1:=(Kq.of_no hk0).trans hq1
 have zs1:=hq1.kp.size
 have xs1:=ltb hx1
 have x0:=cO hx1 0 _ rfl;have x1:=cO hx1 1 _ rfl;have x2:=cO hx1 2 _ rfl
 have H1:=a3_ hp1 hq1 hx1
 clear hp1 hq1 hx1 hk0
 go_wp2_with fail
 refine (commas_c [] w1 B base pb g at_ e _ _ H1.out.1 ⟨_,_,rfl,by simp,.inl rfl⟩ hB (by simp) (by omega) (by simp only [ln_];omega) (by simp only [ln_];omega) (by simp only [la_,lc_,ln_,lm_];omega)).mono ?_
 rintro e2 w2 ⟨⟨v2,rfl⟩,l,f,hlg,hp2,hq2⟩
 have hx2:=hq2.kn w.heap.size _ _ _ H1.out.2.2 (by decide) (by decide) (by decide)
 have hq2:=H1.out.2.1.trans hq2
 have zs2:=hq2.kp.size
 have xs2:=ltb hx2
 have y0:=cO hx2 0 _ rfl;have y1:=cO hx2 1 _ rfl;have y2:=cO hx2 2 _ rfl
 obtain ⟨kk1,kk2,kk3⟩:=cellq hq2 hbB hbs k1 k2 k3
 have hlf:=hlg.fin;have hle:=hlg.le;have hlt:=hlg.tk;have hll:=hlg.len
 have hgp2:=gapOf_le g (at_++nmToks true l).length
 have H2:=a4_ hlg hp2 hq2 hx2
 clear hlg hp2 hq2 hx2 x0 x1 x2
 simp only [ln_] at hlf hlt hll
 go_wp2_with fail
 refine (HT.out w2 B base pb g _ f _ _ H2.out.2.1 (HK.out.stay fun b hb=>H2.out.2.2.1.kp.block b (by omega) (by simp only [Fr];omega)) hB (by unfold Bnd;simp only [la_,lc_,ln_,lm_];refine ⟨by omega,by omega,by omega,by omega⟩) hts).mono ?_
 rintro e3 w3 ⟨⟨v3,rfl⟩,t',htg0,hp3,hq3⟩
 have htg:=htg0.z
 have hx3:=hq3.kn w.heap.size _ _ _ H2.out.2.2.2 (by decide) (by decide) (by decide)
 have hq3:=H2.out.2.2.1.trans hq3
 have xs3:=ltb hx3
 have z0:=cO hx3 0 _ rfl;have z1:=cO hx3 1 _ rfl;have z2:=cO hx3 2 _ rfl
 have htf:=htg.fin;have htl:=htg.le;have htp:=htg.pos;have htt:=htg.tk;have htq:=htg.pl
 have hgp3:=gapOf_le g ((at_++nmToks true l)++t'.toks false).length
 have H3:=a4_ htg hp3 hq3 hx3
 clear htg0 htg hp3 hq3 hx3 y0 y1 y2
 go_wp2_with fail
 refine (pliteral_c w3 tag).mono ?_
 rintro e4 wi ⟨rfl,hri⟩
 have HI:=a2_ (H3.out.2.1.on hri (by simp)) (H3.out.2.2.1.no hri)
 clear hri z0 z1 z2
 go_wp2_with fail
 refine (node_literal wi base pb g _ _ _ tag none 0 HI.out.1 (by omega) (by omega) (by simp only [la_,lc_,ln_,lm_];omega) (by simp only [la_,lc_,ln_,lm_];omega) htS).mono ?_
 rintro e5 w4 ⟨⟨v4,rfl⟩,tp,htpq,hp4,hq4⟩
 have hq4:=HI.out.2.trans hq4
 have htp1:t'.fin≤tp∧tp≤t'.fin+1000:=by rw [htpq];constructor <;> omega
 clear htpq
 have hp4:PSt w4 base pb g (at_++(nmToks true l++(t'.toks false++[tp]))) (tp+tag.size) (out++⟨⟨#[102,105,101,108,100]⟩,e+gapOf g at_.length,0⟩::(l.map Nm.pl++(t'.pre++[⟨⟨#[108,105,116,101,114,97,108]⟩,tp,tp+tag.size⟩]))):=by simpa [aa_] using hp4
 obtain ⟨gv,av,ov,hp5⟩:=hp4
 have hp5:PStx w4 base pb g (at_++(nmToks true l++(t'.toks false++[tp]))) (tp+tag.size) (out++⟨⟨#[102,105,101,108,100]⟩,e+gapOf g at_.length,0⟩::(l.map Nm.pl++(t'.pre++[⟨⟨#[108,105,116,101,114,97,108]⟩,tp,tp+tag.size⟩]))) gv av ov:=hp5
 obtain ⟨gb,cap,hov,_,_,hlt5,lgb,_,_,xx2⟩:=hp5.2.2.2.1.get (i:=out.length) (p:=⟨⟨#[102,105,101,108,100]⟩,e+gapOf g at_.length,0⟩) (by simp)
 obtain ⟨N,hN⟩:∃ N,N=(out++(⟨⟨#[102,105,101,108,100]⟩,e+gapOf g at_.length,0⟩:Pl)::(l.map Nm.pl++(t'.pre++[⟨⟨#[108,105,116,101,114,97,108]⟩,tp,tp+tag.size⟩]))).length:=⟨_,rfl⟩
 rw [← hN] at hov hlt5
 subst hov
 obtain ⟨_,cur,hgc⟩:=hp5.2.2.2.1.blk (g:=gb) rfl
 have c2:w4.cell? ⟨pb,2,none⟩=some (.int .i64 (tp+tag.size)):=cO hp5.1 2 _ rfl
 have c3:w4.cell? ⟨pb,3,none⟩=some (.slice (some ⟨gb,0,none⟩) N cap):=cO hp5.1 3 _ rfl
 have fx:=fO hgc (out.length*3+2)
 have lpb:=ltb hp5.1
 have ne1:pb≠gb:=ne_blk hp5.1 hgc (by simp)
 have ne2:gb≠pb:=ne1.symm
 have H5:=a2_ hp5 hq4
 clear hp5 hq4 hgc hN
 go_wp2_with fail
 go_region_held3 (fun w'=>w'.cell? ⟨pb,2,none⟩=some (.int .i64 (tp+tag.size))∧w'.cell? ⟨pb,3,none⟩=some (.slice (some ⟨gb,0,none⟩) N cap))
  (first | (go_keep;done))
  (fail)
 have hcl:=PStx.close (e2:=tp+tag.size) H5.out.1 ((Kp.refl No w4).drew)
 have hemp:(true && !l.isEmpty)=false:=by
  cases l with | nil=>rfl | cons _ _=>simp at hll
 have hemp2:(true && !(Fd.mk c0 [] t tp0 tag).ns.isEmpty)=false:=by
  rfl
 have hFG:=FdG.mk' (g:=g) (at_:=at_) (e:=e) (m:=true) (d:=⟨c0,[],t,tp0,tag⟩) (l:=l) (t':=t') (tp:=tp) he (by simp only [Fd.nd,fdNd,Nd.size,Nd.sizeL,List.map_nil];omega) H2.out.1 (by rw [hemp2];exact H3.out.1) htS (by show (if tag.size=0 then _ else _);rw [if_neg hz];constructor <;> omega)
 refine bodyPost_end (v:=.tuple #[]) (by simp [results,Tryz.results56,go_sem]) rfl ⟨⟨_,rfl⟩,_,hFG,?_,H5.out.2.trans hcl.2⟩
 exact fd_close hemp hFG.pos (if_neg hz) (if_neg hz) (if_neg hz) hcl.1
end
end Go.Proofs.YtnkbglhdpmbgfaaGreatFmt
