/- A part of the proof; no condition: PlTns, PlTsn, PlTss, ShH, PlU, PlV. -/
import Derived.Test.YtnkbglhdpmbgfaaGreatFmtM
import Derived.Test.YtnkbglhdpmbgfaaGreatFmtM11
import Derived.Test.YtnkbglhdpmbgfaaGreatFmtM05
import Derived.Test.YtnkbglhdpmbgfaaGreatFmtM10
set_option linter.all false
set_option maxHeartbeats 16000000
set_option maxRecDepth 100000
namespace Go.Proofs.YtnkbglhdpmbgfaaGreatFmt
section
open Go Go.RowKit
theorem dc_funcns (tp:Int) (np:Int) (s0:ByteArray) (to:Int) (ps:Fs) (tc:Int) (b:Bool) (to':Int) (rs:Fs) (tc':Int) (bo bc:Int) (hps:FlC ps true false) (hrs:b=true→FlC rs true false):DcC (.func tp (none) np s0 to ps tc b to' rs tc' (some (bo,bc))):=by
 intro w B base pb g at_ e out s hp hin hB hb hs
 have hbs:=hp.size
 have hM:=hd_ hb.2.1
 simp only [Dc.nd,rvNd,bdNd] at hin hb hs ⊢
 obtain ⟨sn,hsn⟩:∃ sn,sn=(Ty.sig tp to ps tc b to' rs tc').nd:=⟨_,rfl⟩
 have hsz1:1≤sn.size:=Nd.size_pos _
 rw [← hsn] at hin hb hs ⊢
 have HSN:=hd_ hsn
 clear hsn
 simp only [Bnd,Nd.size,Nd.sizeL,Nd.miss,fl] at hb
 simp only [Nd.short,Nd.shortL,Nd.miss] at hs
 obtain ⟨b1,b2,b3,b4⟩:=hb
 have hLs:=hd_ (Nd.In_iff.1 hin)
 obtain ⟨q,c,rfl,hc⟩:=hin.form
 obtain ⟨bb0,o0,c0,q0,d0,he,_,hb0,hi,k01,k02,k03,k04,k05⟩:=hLs.out.get (i:=0) rfl
 cases he
 have HK0:=hd_ k04
 clear k04 hi
 simp only [Nat.zero_mul,Nat.one_mul,Nat.add_zero,Nat.reduceMul] at k01 k02 k03
 obtain ⟨bb1,o1,c1,q1,d1,he,_,hb1,hi,k11,k12,k13,k14,k15⟩:=hLs.out.get (i:=1) rfl
 cases he
 have HK1:=hd_ k14
 clear k14 hi
 simp only [Nat.zero_mul,Nat.one_mul,Nat.add_zero,Nat.reduceMul] at k11 k12 k13
 obtain ⟨bb2,o2,c2,q2,d2,he,_,hb2,hi,k21,k22,k23,k24,k25⟩:=hLs.out.get (i:=2) rfl
 cases he
 have HK2:=hd_ k24
 clear k24 hi
 simp only [Nd.k,Nd.t,Nd.l,ln_,Nat.zero_mul,Nat.one_mul,Nat.add_zero,Nat.reduceMul] at k21 k22 k23
 have HP:=hd_ hp
 clear hp hin hLs
 simp only [Nd.l,la_,lc_,ln_,lm_,Nat.zero_add,Nat.reduceAdd] at hc
 show Calls _ _ #[_,.agg #[.string ⟨#[102,117,110,99]⟩,.string s0,.slice (some ⟨bb0,o0,none⟩) 3 c]] _ _
 have HPS:=hd_ hps;have HRS:=hd_ hrs;have HST:=hd_ hs.2.2.1
 have hs0:=hs.1
 clear hps hrs hs
 have hgap:=gapOf_le g at_.length
 go_enter Tryz.func13,Tryz.ntmps13
 have hk0:Kp No w (w.alloc (.cells #[.string ⟨#[102,117,110,99]⟩,.string s0,.slice (some ⟨bb0,o0,none⟩) 3 c] 24 (0,0))):=(Kp.refl No w).alloc _
 have hq0:Kq base w _:=Kq.of_no hk0
 have hp0:=HP.out.on hk0 (by simp)
 have hx0:=newOf w (.cells #[.string ⟨#[102,117,110,99]⟩,.string s0,.slice (some ⟨bb0,o0,none⟩) 3 c] 24 (0,0))
 generalize hw0:w.alloc (.cells #[.string ⟨#[102,117,110,99]⟩,.string s0,.slice (some ⟨bb0,o0,none⟩) 3 c] 24 (0,0))=w0 at hk0 hq0 hp0 hx0
 obtain ⟨k01_0,k02_0,k03_0⟩:=cellq hq0 (by omega) hbs k01 k02 k03
 obtain ⟨k11_0,k12_0,k13_0⟩:=cellq hq0 (by omega) hbs k11 k12 k13
 obtain ⟨k21_0,k22_0,k23_0⟩:=cellq hq0 (by omega) hbs k21 k22 k23
 have xs0:=ltb hx0
 have x0_0:=cO hx0 0 _ rfl
 have x1_0:=cO hx0 1 _ rfl
 have x2_0:=cO hx0 2 _ rfl
 have HS0:=a3_ hp0 hq0 hx0
 clear hp0 hq0 hx0 hk0
 go_wp2_with fail
 try rw [hw0]
 clear hw0
 refine (open_c _ base pb g at_ e out ⟨#[102,117,110,99]⟩ s0 _ HS0.out.1 (by omega) (by omega) (by omega) ⟨_,_,_,rfl⟩).mono ?_
 rintro eo wo ⟨rfl,hpo,hro⟩
 have hqo:=HS0.out.2.1.trans hro
 have hxo:=hro.kn w.heap.size _ _ _ HS0.out.2.2 (by decide) (by decide) (by decide)
 clear hro HS0
 clear k01_0 k02_0 k03_0 k11_0 k12_0 k13_0 k21_0 k22_0 k23_0 x0_0 x1_0 x2_0
 obtain ⟨k01_o,k02_o,k03_o⟩:=cellq hqo (by omega) hbs k01 k02 k03
 obtain ⟨k11_o,k12_o,k13_o⟩:=cellq hqo (by omega) hbs k11 k12 k13
 obtain ⟨k21_o,k22_o,k23_o⟩:=cellq hqo (by omega) hbs k21 k22 k23
 have xso:=ltb hxo
 have x0_o:=cO hxo 0 _ rfl
 have x1_o:=cO hxo 1 _ rfl
 have x2_o:=cO hxo 2 _ rfl
 have zso:=hqo.kp.size
 obtain ⟨p,hpq⟩:∃ p,p=e+gapOf g at_.length:=⟨_,rfl⟩
 rw [← hpq] at hpo
 have hpb:e≤p∧p≤e+1000:=by omega
 obtain ⟨gv,av,ov,hpx⟩:=hpo
 have hpx:PStx wo base pb g at_ e (out++[⟨⟨#[102,117,110,99]⟩,p,0⟩]) gv av ov:=hpx
 obtain ⟨gb,cap,hov,_,_,hlt5,lgb,_,xx1,_⟩:=hpx.2.2.2.1.get (i:=out.length) (p:=⟨⟨#[102,117,110,99]⟩,p,0⟩) (by simp)
 obtain ⟨N,hN⟩:∃ N,N=(out++[(⟨⟨#[102,117,110,99]⟩,p,0⟩:Pl)]).length:=⟨_,rfl⟩
 rw [← hN] at hov hlt5
 subst hov
 obtain ⟨_,cur,hgc⟩:=hpx.2.2.2.1.blk (g:=gb) rfl
 have cc3:wo.cell? ⟨pb,3,none⟩=some (.slice (some ⟨gb,0,none⟩) N cap):=cO hpx.1 3 _ rfl
 have lpb:=ltb hpx.1
 have HO:=a3_ hpx hqo hxo
 have HPQ:=hd_ hpq
 clear hpx hqo hxo hgc hN hpq
 go_wp2_with fail
 have ka1:Kp No wo (wo.alloc (.cells #[.string ⟨#[102,117,110,99]⟩] 9 (0,0))):=(Kp.refl No wo).alloc _
 refine (tok1_c _ base pb _ 1 g _ _ _ ⟨#[102,117,110,99]⟩ (PSt.on ⟨gv,av,_,HO.out.1⟩ ka1 (by simp)) (newOf wo _) rfl (by decide) (by omega) (by omega) (by omega)).mono ?_
 rintro e1 w1 ⟨⟨v1,rfl⟩,p1,hp1q,hp1,hr1⟩
 have hz1:((⟨#[102,117,110,99]⟩:ByteArray)).size=4:=rfl
 have hpe:p1=p:=hp1q.trans HPQ.out.symm
 rw [hpe] at hp1
 clear hpe
 rw [hz1] at hp1
 have hq1:=(HO.out.2.1.no ka1).trans hr1
 have hx1:=hr1.kn w.heap.size _ _ _ (ka1.at HO.out.2.2 (by simp)) (by decide) (by decide) (by decide)
 clear hr1 ka1 cc3 xx1 hp1q
 clear k01_o k02_o k03_o k11_o k12_o k13_o k21_o k22_o k23_o x0_o x1_o x2_o
 obtain ⟨k01_1,k02_1,k03_1⟩:=cellq hq1 (by omega) hbs k01 k02 k03
 obtain ⟨k11_1,k12_1,k13_1⟩:=cellq hq1 (by omega) hbs k11 k12 k13
 obtain ⟨k21_1,k22_1,k23_1⟩:=cellq hq1 (by omega) hbs k21 k22 k23
 have xs1:=ltb hx1
 have x0_1:=cO hx1 0 _ rfl
 have x1_1:=cO hx1 1 _ rfl
 have x2_1:=cO hx1 2 _ rfl
 have zs1:=hq1.kp.size
 have HI1:=hd_ (HK0.out.stay (w':=w1) fun b hb=>hq1.kp.block b (by omega) (by simp only [Fr];omega))
 have HS1:=a3_ hp1 hq1 hx1
 clear hp1 hq1 hx1 HO
 go_wp2_with fail
 refine (miss_c .miss w1 B _ HI1.out).mono ?_
 rintro em wm ⟨bm,rfl,hkm,hpm⟩
 obtain rfl:bm=true:=hpm.2 rfl
 have hpm2:=HS1.out.1.on hkm (by simp)
 have hqm:=HS1.out.2.1.no hkm
 have hxm:=hkm.at HS1.out.2.2 (by simp)
 clear hkm hpm HS1 HI1
 clear k01_1 k02_1 k03_1 k11_1 k12_1 k13_1 k21_1 k22_1 k23_1 x0_1 x1_1 x2_1
 obtain ⟨k01_m,k02_m,k03_m⟩:=cellq hqm (by omega) hbs k01 k02 k03
 obtain ⟨k11_m,k12_m,k13_m⟩:=cellq hqm (by omega) hbs k11 k12 k13
 obtain ⟨k21_m,k22_m,k23_m⟩:=cellq hqm (by omega) hbs k21 k22 k23
 have xsm:=ltb hxm
 have x0_m:=cO hxm 0 _ rfl
 have x1_m:=cO hxm 1 _ rfl
 have x2_m:=cO hxm 2 _ rfl
 have zsm:=hqm.kp.size
 obtain ⟨w2,hw2⟩:∃ w2,w2=wm:=⟨_,rfl⟩
 rw [← hw2]
 have hp2:PSt w2 base pb g (at_++p::rvToks none) (p+4) (out++⟨⟨#[102,117,110,99]⟩,p,0⟩::rvPre none):=by rw [hw2];exact hpm2
 have hq2:Kq base w w2:=by rw [hw2];exact hqm
 have hx2:w2.heap[w.heap.size]?=some (.cells #[.string ⟨#[102,117,110,99]⟩,.string s0,.slice (some ⟨bb0,o0,none⟩) 3 c] 24 (0,0)):=by rw [hw2];exact hxm
 obtain ⟨rv',e2,hrv,hp2⟩:∃ rv' e2,RvG (p+4) none rv' e2∧PSt w2 base pb g (at_++p::rvToks rv') e2 (out++⟨⟨#[102,117,110,99]⟩,p,0⟩::rvPre rv'):=⟨_,_,RvG.none _,hp2⟩
 clear hpm2 hqm hxm
 clear k01_m k02_m k03_m k11_m k12_m k13_m k21_m k22_m k23_m x0_m x1_m x2_m
 clear hw2 xsm zsm
 obtain ⟨k01_2,k02_2,k03_2⟩:=cellq hq2 (by omega) hbs k01 k02 k03
 obtain ⟨k11_2,k12_2,k13_2⟩:=cellq hq2 (by omega) hbs k11 k12 k13
 obtain ⟨k21_2,k22_2,k23_2⟩:=cellq hq2 (by omega) hbs k21 k22 k23
 have xs2:=ltb hx2
 have x0_2:=cO hx2 0 _ rfl
 have x1_2:=cO hx2 1 _ rfl
 have x2_2:=cO hx2 2 _ rfl
 have zs2:=hq2.kp.size
 have r1:=hrv.le;have r2:=hrv.fin;have r3:=hrv.tk;have r4:=hrv.pl
 have hrz:(rvNd (none)).size≤1:=Nat.le_refl _
 have HRV:=hd_ hrv
 have HS2:=a3_ hp2 hq2 hx2
 clear hp2 hq2 hx2 hrv
 go_wp2_with fail
 refine (pident_c w2 s0).mono ?_
 rintro ei wi ⟨rfl,hri⟩
 have hpi:=HS2.out.1.on hri (by simp)
 have hqi:=HS2.out.2.1.no hri
 have hxi:=hri.at HS2.out.2.2 (by simp)
 have HI:=a3_ hpi hqi hxi
 clear hpi hqi hxi hri HS2
 clear k01_2 k02_2 k03_2 k11_2 k12_2 k13_2 k21_2 k22_2 k23_2 x0_2 x1_2 x2_2
 go_wp2_with fail
 refine (node_name wi base pb g _ _ _ s0 none 0 HI.out.1 (by omega) (by omega) (by simp only [la_,lc_,ln_,lm_];omega) (by simp only [la_,lc_,ln_,lm_];omega) hs0).mono ?_
 rintro e3 w3 ⟨⟨v3,rfl⟩,pn,gpn,hp3,hr3⟩
 have hgpn:=gapOf_le g (at_++p::rvToks rv').length
 have gpb:e2≤pn∧pn≤e2+1000:=by rw [gpn];constructor <;> omega
 have hq3:=HI.out.2.1.trans hr3
 have hx3:=hr3.kn w.heap.size _ _ _ HI.out.2.2 (by decide) (by decide) (by decide)
 clear hr3 gpn hgpn HI
 obtain ⟨k01_3,k02_3,k03_3⟩:=cellq hq3 (by omega) hbs k01 k02 k03
 obtain ⟨k11_3,k12_3,k13_3⟩:=cellq hq3 (by omega) hbs k11 k12 k13
 obtain ⟨k21_3,k22_3,k23_3⟩:=cellq hq3 (by omega) hbs k21 k22 k23
 have xs3:=ltb hx3
 have x0_3:=cO hx3 0 _ rfl
 have x1_3:=cO hx3 1 _ rfl
 have x2_3:=cO hx3 2 _ rfl
 have zs3:=hq3.kp.size
 have HI3:=hd_ (HK1.out.stay (w':=w3) fun b hb=>hq3.kp.block b (by omega) (by simp only [Fr];omega))
 have HS3:=a3_ hp3 hq3 hx3
 clear hp3 hq3 hx3
 have hsg:=@sig_any tp to ps tc b to' rs tc' HPS.out HRS.out
 rw [← HSN.out] at hsg
 have HSG:=hd_ hsg
 clear hsg
 go_wp2_with fail
 refine (HSG.out w3 B base pb g _ _ p _ _ HS3.out.1 HI3.out hB (by omega) (by omega) (by simp only [la_,lc_,ln_,lm_];omega) (by simp only [la_,lc_,ln_,lm_];omega) HST.out).mono ?_
 rintro e4 w4 ⟨⟨v4,rfl⟩,ps',so,sc,so',rs',sc',f,gs,hp4,hr4⟩
 have hk:=gs.ty (p0:=tp) (o0:=to) (c0:=tc) (o0':=to') (c0':=tc') (pp:=p) (z:=false) (by omega) (by rw [← HSN.out];omega) (by constructor <;> omega)
 rw [← HSN.out] at hk
 obtain ⟨_,_,_,_,_,_,j7,j8,j9,j10,j11⟩:=hk
 have hgps:=gapOf_le g (at_++p::rvToks rv'++[pn]).length
 have sgb:pn+s0.size≤f:=by omega
 clear j7 hgps
 have hq4:=HS3.out.2.1.trans hr4
 have hx4:=hr4.kn w.heap.size _ _ _ HS3.out.2.2 (by decide) (by decide) (by decide)
 have HGS:=hd_ gs
 clear hr4 gs HS3 HI3 HSG
 clear k01_3 k02_3 k03_3 k11_3 k12_3 k13_3 k21_3 k22_3 k23_3 x0_3 x1_3 x2_3
 obtain ⟨k01_4,k02_4,k03_4⟩:=cellq hq4 (by omega) hbs k01 k02 k03
 obtain ⟨k11_4,k12_4,k13_4⟩:=cellq hq4 (by omega) hbs k11 k12 k13
 obtain ⟨k21_4,k22_4,k23_4⟩:=cellq hq4 (by omega) hbs k21 k22 k23
 have xs4:=ltb hx4
 have x0_4:=cO hx4 0 _ rfl
 have x1_4:=cO hx4 1 _ rfl
 have x2_4:=cO hx4 2 _ rfl
 have zs4:=hq4.kp.size
 have HI4:=hd_ (HK2.out.stay (w':=w4) fun b hb=>hq4.kp.block b (by omega) (by simp only [Fr];omega))
 obtain ⟨sgT,hsgT⟩:∃ x,x=sgToks ps' so sc b so' rs' sc':=⟨_,rfl⟩
 obtain ⟨sgP,hsgP⟩:∃ x,x=sgPre ps' so sc b so' rs' sc':=⟨_,rfl⟩
 rw [← hsgT] at hp4 j10
 rw [← hsgP] at hp4 j11
 have HTP:=a2_ hsgT hsgP
 have HS4:=a3_ hp4 hq4 hx4
 clear hp4 hq4 hx4 hsgT hsgP
 go_wp2_with fail
 refine (miss_c (.mk ⟨#[98,111,100,121]⟩ ⟨#[]⟩ []) w4 B _ HI4.out).mono ?_
 rintro en wn ⟨bn,rfl,hkn,hpn⟩
 obtain rfl:bn=false:=by cases bn with | false=>rfl | true=>exact absurd (hpn.1 rfl) (by intro h;cases h)
 have hpn2:=HS4.out.1.on hkn (by simp)
 have hqn:=HS4.out.2.1.no hkn
 have hxn:=hkn.at HS4.out.2.2 (by simp)
 clear hkn hpn HS4 HI4
 clear k01_4 k02_4 k03_4 k11_4 k12_4 k13_4 k21_4 k22_4 k23_4 x0_4 x1_4 x2_4
 obtain ⟨k01_n,k02_n,k03_n⟩:=cellq hqn (by omega) hbs k01 k02 k03
 obtain ⟨k11_n,k12_n,k13_n⟩:=cellq hqn (by omega) hbs k11 k12 k13
 obtain ⟨k21_n,k22_n,k23_n⟩:=cellq hqn (by omega) hbs k21 k22 k23
 have xsn:=ltb hxn
 have x0_n:=cO hxn 0 _ rfl
 have x1_n:=cO hxn 1 _ rfl
 have x2_n:=cO hxn 2 _ rfl
 have zsn:=hqn.kp.size
 have HSN2:=a3_ hpn2 hqn hxn
 clear hpn2 hqn hxn
 go_wp2_with fail
 refine (node_body _ base pb g _ _ _ _ _ HSN2.out.1 (by omega) (by omega) (by simp only [la_,lc_,ln_,lm_];omega) (by simp only [la_,lc_,ln_,lm_];omega)).mono ?_
 rintro e5 w5 ⟨⟨v5,rfl⟩,bo',bc',hbo,hb1,hb2,hp5,hr5⟩
 have hgb:=gapOf_le g (at_++p::rvToks rv'++[pn]++sgT).length
 have hbo2:f≤bo'∧bo'≤f+1000:=by rw [hbo];constructor <;> omega
 have hbd0:=BdG.some (a:=bo) (b:=bc) hbo2 hb1 hb2
 have hq5:=HSN2.out.2.1.trans hr5
 have hx5:=hr5.kn w.heap.size _ _ _ HSN2.out.2.2 (by decide) (by decide) (by decide)
 obtain ⟨bd',e4,hbd,hp5⟩:∃ bd' e4,BdG f (some (bo,bc)) bd' e4∧PSt w5 base pb g (at_++(p::(rvToks rv'++pn::(sgT++bdToks bd')))) e4 (out++⟨⟨#[102,117,110,99]⟩,p,0⟩::(rvPre rv'++⟨⟨#[110,97,109,101]⟩,pn,pn+s0.size⟩::((⟨⟨#[115,105,103,110,97,116,117,114,101]⟩,p,f⟩::sgP)++bdPre bd'))):=⟨_,_,hbd0,by simpa [bdToks,bdPre,aa_] using hp5⟩
 clear hr5 HSN2 hbo hb1 hb2 hbd0 hgb hbo2
 clear k01_n k02_n k03_n k11_n k12_n k13_n k21_n k22_n k23_n x0_n x1_n x2_n
 have xs5:=ltb hx5
 have x0_5:=cO hx5 0 _ rfl
 have x1_5:=cO hx5 1 _ rfl
 have x2_5:=cO hx5 2 _ rfl
 have zs5:=hq5.kp.size
 have d1:=hbd.le;have d2:=hbd.fin;have d3:=hbd.tk;have d4:=hbd.pl
 have HBD:=hd_ hbd
 clear hbd hx5
 obtain ⟨gv5,av5,ov5,hp9⟩:=hp5
 have hp9:PStx w5 base pb g (at_++(p::(rvToks rv'++pn::(sgT++bdToks bd')))) e4 (out++⟨⟨#[102,117,110,99]⟩,p,0⟩::(rvPre rv'++⟨⟨#[110,97,109,101]⟩,pn,pn+s0.size⟩::((⟨⟨#[115,105,103,110,97,116,117,114,101]⟩,p,f⟩::sgP)++bdPre bd'))) gv5 av5 ov5:=hp9
 obtain ⟨gb5,cap5,hov5,_,_,hlt9,lgb9,_,_,xx9⟩:=hp9.2.2.2.1.get (i:=out.length) (p:=⟨⟨#[102,117,110,99]⟩,p,0⟩) (by simp)
 obtain ⟨N5,hN5⟩:∃ N,N=(out++(⟨⟨#[102,117,110,99]⟩,p,0⟩:Pl)::(rvPre rv'++⟨⟨#[110,97,109,101]⟩,pn,pn+s0.size⟩::((⟨⟨#[115,105,103,110,97,116,117,114,101]⟩,p,f⟩::sgP)++bdPre bd'))).length:=⟨_,rfl⟩
 rw [← hN5] at hov5 hlt9
 subst hov5
 obtain ⟨_,cur5,hgc5⟩:=hp9.2.2.2.1.blk (g:=gb5) rfl
 have cc2:w5.cell? ⟨pb,2,none⟩=some (.int .i64 e4):=cO hp9.1 2 _ rfl
 have cc3:w5.cell? ⟨pb,3,none⟩=some (.slice (some ⟨gb5,0,none⟩) N5 cap5):=cO hp9.1 3 _ rfl
 have fx:=fO hgc5 (out.length*3+2)
 have lpb5:=ltb hp9.1
 have ne1:pb≠gb5:=ne_blk hp9.1 hgc5 (by simp)
 have ne2:gb5≠pb:=ne1.symm
 have H5:=a2_ hp9 hq5
 clear hp9 hgc5 hN5 hq5
 go_wp2_with fail
 go_region_held3 (fun w'=>w'.cell? ⟨pb,2,none⟩=some (.int .i64 e4)∧w'.cell? ⟨pb,3,none⟩=some (.slice (some ⟨gb5,0,none⟩) N5 cap5))
  (first | (go_keep;done))
  (fail)
 have hcl:=PStx.close (e2:=e4) H5.out.1 ((Kp.refl No w5).drew)
 obtain ⟨g1,g2,g3,g4⟩:=func_g (p0:=tp) (np0:=np) (o0:=to) (c0:=tc) (o0':=to') (c0':=tc') b1 HPQ.out HRV.out gpb hs0 HGS.out HBD.out hM.out
 refine bodyPost_end (v:=.tuple #[]) (by simp [results,Tryz.results13,go_sem]) rfl ⟨⟨_,rfl⟩,_,g1,?_,H5.out.2.trans hcl.2⟩
 rw [g2,g3,g4,← HTP.out.1,← HTP.out.2]
 exact hcl.1
end
section
open Go Go.RowKit
theorem dc_funcsn (tp:Int) (ro:Int) (rf:Fs) (rc:Int) (hrf:FlC rf true false) (np:Int) (s0:ByteArray) (to:Int) (ps:Fs) (tc:Int) (b:Bool) (to':Int) (rs:Fs) (tc':Int) (hps:FlC ps true false) (hrs:b=true→FlC rs true false):DcC (.func tp (some (ro,rf,rc)) np s0 to ps tc b to' rs tc' (none)):=by
 intro w B base pb g at_ e out s hp hin hB hb hs
 have hbs:=hp.size
 have hM:=hd_ hb.2.1
 simp only [Dc.nd,rvNd,bdNd] at hin hb hs ⊢
 obtain ⟨sn,hsn⟩:∃ sn,sn=(Ty.sig tp to ps tc b to' rs tc').nd:=⟨_,rfl⟩
 have hsz1:1≤sn.size:=Nd.size_pos _
 rw [← hsn] at hin hb hs ⊢
 have HSN:=hd_ hsn
 clear hsn
 simp only [Bnd,Nd.size,Nd.sizeL,Nd.miss,fl] at hb
 simp only [Nd.short,Nd.shortL,Nd.miss] at hs
 obtain ⟨b1,b2,b3,b4⟩:=hb
 have hLs:=hd_ (Nd.In_iff.1 hin)
 obtain ⟨q,c,rfl,hc⟩:=hin.form
 obtain ⟨bb0,o0,c0,q0,d0,he,_,hb0,hi,k01,k02,k03,k04,k05⟩:=hLs.out.get (i:=0) rfl
 cases he
 have HK0:=hd_ k04
 clear k04 hi
 simp only [Nat.zero_mul,Nat.one_mul,Nat.add_zero,Nat.reduceMul] at k01 k02 k03
 obtain ⟨bb1,o1,c1,q1,d1,he,_,hb1,hi,k11,k12,k13,k14,k15⟩:=hLs.out.get (i:=1) rfl
 cases he
 have HK1:=hd_ k14
 clear k14 hi
 simp only [Nat.zero_mul,Nat.one_mul,Nat.add_zero,Nat.reduceMul] at k11 k12 k13
 obtain ⟨bb2,o2,c2,q2,d2,he,_,hb2,hi,k21,k22,k23,k24,k25⟩:=hLs.out.get (i:=2) rfl
 cases he
 have HK2:=hd_ k24
 clear k24 hi
 simp only [Nat.zero_mul,Nat.one_mul,Nat.add_zero,Nat.reduceMul] at k21 k22 k23
 have HP:=hd_ hp
 clear hp hin hLs
 simp only [Nd.l,la_,lc_,ln_,lm_,Nat.zero_add,Nat.reduceAdd] at hc
 show Calls _ _ #[_,.agg #[.string ⟨#[102,117,110,99]⟩,.string s0,.slice (some ⟨bb0,o0,none⟩) 3 c]] _ _
 have HPS:=hd_ hps;have HRS:=hd_ hrs;have HST:=hd_ hs.2.2.1
 have hs0:=hs.1
 have HRF:=hd_ hrf;have HSR:=hd_ hs.2.1
 clear hps hrs hs hrf
 have hgap:=gapOf_le g at_.length
 go_enter Tryz.func13,Tryz.ntmps13
 have hk0:Kp No w (w.alloc (.cells #[.string ⟨#[102,117,110,99]⟩,.string s0,.slice (some ⟨bb0,o0,none⟩) 3 c] 24 (0,0))):=(Kp.refl No w).alloc _
 have hq0:Kq base w _:=Kq.of_no hk0
 have hp0:=HP.out.on hk0 (by simp)
 have hx0:=newOf w (.cells #[.string ⟨#[102,117,110,99]⟩,.string s0,.slice (some ⟨bb0,o0,none⟩) 3 c] 24 (0,0))
 generalize hw0:w.alloc (.cells #[.string ⟨#[102,117,110,99]⟩,.string s0,.slice (some ⟨bb0,o0,none⟩) 3 c] 24 (0,0))=w0 at hk0 hq0 hp0 hx0
 obtain ⟨k01_0,k02_0,k03_0⟩:=cellq hq0 (by omega) hbs k01 k02 k03
 obtain ⟨k11_0,k12_0,k13_0⟩:=cellq hq0 (by omega) hbs k11 k12 k13
 obtain ⟨k21_0,k22_0,k23_0⟩:=cellq hq0 (by omega) hbs k21 k22 k23
 have xs0:=ltb hx0
 have x0_0:=cO hx0 0 _ rfl
 have x1_0:=cO hx0 1 _ rfl
 have x2_0:=cO hx0 2 _ rfl
 have HS0:=a3_ hp0 hq0 hx0
 clear hp0 hq0 hx0 hk0
 go_wp2_with fail
 try rw [hw0]
 clear hw0
 refine (open_c _ base pb g at_ e out ⟨#[102,117,110,99]⟩ s0 _ HS0.out.1 (by omega) (by omega) (by omega) ⟨_,_,_,rfl⟩).mono ?_
 rintro eo wo ⟨rfl,hpo,hro⟩
 have hqo:=HS0.out.2.1.trans hro
 have hxo:=hro.kn w.heap.size _ _ _ HS0.out.2.2 (by decide) (by decide) (by decide)
 clear hro HS0
 clear k01_0 k02_0 k03_0 k11_0 k12_0 k13_0 k21_0 k22_0 k23_0 x0_0 x1_0 x2_0
 obtain ⟨k01_o,k02_o,k03_o⟩:=cellq hqo (by omega) hbs k01 k02 k03
 obtain ⟨k11_o,k12_o,k13_o⟩:=cellq hqo (by omega) hbs k11 k12 k13
 obtain ⟨k21_o,k22_o,k23_o⟩:=cellq hqo (by omega) hbs k21 k22 k23
 have xso:=ltb hxo
 have x0_o:=cO hxo 0 _ rfl
 have x1_o:=cO hxo 1 _ rfl
 have x2_o:=cO hxo 2 _ rfl
 have zso:=hqo.kp.size
 obtain ⟨p,hpq⟩:∃ p,p=e+gapOf g at_.length:=⟨_,rfl⟩
 rw [← hpq] at hpo
 have hpb:e≤p∧p≤e+1000:=by omega
 obtain ⟨gv,av,ov,hpx⟩:=hpo
 have hpx:PStx wo base pb g at_ e (out++[⟨⟨#[102,117,110,99]⟩,p,0⟩]) gv av ov:=hpx
 obtain ⟨gb,cap,hov,_,_,hlt5,lgb,_,xx1,_⟩:=hpx.2.2.2.1.get (i:=out.length) (p:=⟨⟨#[102,117,110,99]⟩,p,0⟩) (by simp)
 obtain ⟨N,hN⟩:∃ N,N=(out++[(⟨⟨#[102,117,110,99]⟩,p,0⟩:Pl)]).length:=⟨_,rfl⟩
 rw [← hN] at hov hlt5
 subst hov
 obtain ⟨_,cur,hgc⟩:=hpx.2.2.2.1.blk (g:=gb) rfl
 have cc3:wo.cell? ⟨pb,3,none⟩=some (.slice (some ⟨gb,0,none⟩) N cap):=cO hpx.1 3 _ rfl
 have lpb:=ltb hpx.1
 have HO:=a3_ hpx hqo hxo
 have HPQ:=hd_ hpq
 clear hpx hqo hxo hgc hN hpq
 go_wp2_with fail
 have ka1:Kp No wo (wo.alloc (.cells #[.string ⟨#[102,117,110,99]⟩] 9 (0,0))):=(Kp.refl No wo).alloc _
 refine (tok1_c _ base pb _ 1 g _ _ _ ⟨#[102,117,110,99]⟩ (PSt.on ⟨gv,av,_,HO.out.1⟩ ka1 (by simp)) (newOf wo _) rfl (by decide) (by omega) (by omega) (by omega)).mono ?_
 rintro e1 w1 ⟨⟨v1,rfl⟩,p1,hp1q,hp1,hr1⟩
 have hz1:((⟨#[102,117,110,99]⟩:ByteArray)).size=4:=rfl
 have hpe:p1=p:=hp1q.trans HPQ.out.symm
 rw [hpe] at hp1
 clear hpe
 rw [hz1] at hp1
 have hq1:=(HO.out.2.1.no ka1).trans hr1
 have hx1:=hr1.kn w.heap.size _ _ _ (ka1.at HO.out.2.2 (by simp)) (by decide) (by decide) (by decide)
 clear hr1 ka1 cc3 xx1 hp1q
 clear k01_o k02_o k03_o k11_o k12_o k13_o k21_o k22_o k23_o x0_o x1_o x2_o
 obtain ⟨k01_1,k02_1,k03_1⟩:=cellq hq1 (by omega) hbs k01 k02 k03
 obtain ⟨k11_1,k12_1,k13_1⟩:=cellq hq1 (by omega) hbs k11 k12 k13
 obtain ⟨k21_1,k22_1,k23_1⟩:=cellq hq1 (by omega) hbs k21 k22 k23
 have xs1:=ltb hx1
 have x0_1:=cO hx1 0 _ rfl
 have x1_1:=cO hx1 1 _ rfl
 have x2_1:=cO hx1 2 _ rfl
 have zs1:=hq1.kp.size
 have HI1:=hd_ (HK0.out.stay (w':=w1) fun b hb=>hq1.kp.block b (by omega) (by simp only [Fr];omega))
 have HS1:=a3_ hp1 hq1 hx1
 clear hp1 hq1 hx1 HO
 go_wp2_with fail
 refine (miss_c (fl rf.nds) w1 B _ HI1.out).mono ?_
 rintro em wm ⟨bm,rfl,hkm,hpm⟩
 obtain rfl:bm=false:=by cases bm with | false=>rfl | true=>exact absurd (hpm.1 rfl) (fl_not_miss _)
 have hpm2:=HS1.out.1.on hkm (by simp)
 have hqm:=HS1.out.2.1.no hkm
 have hxm:=hkm.at HS1.out.2.2 (by simp)
 clear hkm hpm HS1 HI1
 clear k01_1 k02_1 k03_1 k11_1 k12_1 k13_1 k21_1 k22_1 k23_1 x0_1 x1_1 x2_1
 obtain ⟨k01_m,k02_m,k03_m⟩:=cellq hqm (by omega) hbs k01 k02 k03
 obtain ⟨k11_m,k12_m,k13_m⟩:=cellq hqm (by omega) hbs k11 k12 k13
 obtain ⟨k21_m,k22_m,k23_m⟩:=cellq hqm (by omega) hbs k21 k22 k23
 have xsm:=ltb hxm
 have x0_m:=cO hxm 0 _ rfl
 have x1_m:=cO hxm 1 _ rfl
 have x2_m:=cO hxm 2 _ rfl
 have zsm:=hqm.kp.size
 have HIM:=hd_ (HK0.out.stay (w':=wm) fun b hb=>hqm.kp.block b (by omega) (by simp only [Fr];omega))
 have HSM:=a3_ hpm2 hqm hxm
 clear hpm2 hqm hxm
 go_wp2_with fail
 refine (HRF.out _ B base pb g _ _ _ _ HSM.out.1 HIM.out hB (by unfold Bnd;simp only [la_,lc_,ln_,lm_];refine ⟨by omega,by omega,by omega,by omega⟩) HSR.out).mono ?_
 rintro e2 w2 ⟨⟨v2,rfl⟩,rf',ro',rc',gf,hp2,hr2⟩
 have hrv0:=RvG.some (o0:=ro) (c0:=rc) gf (by omega) (by omega)
 have hq2:=HSM.out.2.1.trans hr2
 have hx2:=hr2.kn w.heap.size _ _ _ HSM.out.2.2 (by decide) (by decide) (by decide)
 obtain ⟨rv',e2,hrv,hp2⟩:∃ rv' e2,RvG (p+4) (some (ro,rf,rc)) rv' e2∧PSt w2 base pb g (at_++p::rvToks rv') e2 (out++⟨⟨#[102,117,110,99]⟩,p,0⟩::rvPre rv'):=⟨_,_,hrv0,by simpa [rvToks,rvPre,aa_] using hp2⟩
 clear hr2 HSM HIM gf hrv0
 clear k01_m k02_m k03_m k11_m k12_m k13_m k21_m k22_m k23_m x0_m x1_m x2_m
 obtain ⟨k01_2,k02_2,k03_2⟩:=cellq hq2 (by omega) hbs k01 k02 k03
 obtain ⟨k11_2,k12_2,k13_2⟩:=cellq hq2 (by omega) hbs k11 k12 k13
 obtain ⟨k21_2,k22_2,k23_2⟩:=cellq hq2 (by omega) hbs k21 k22 k23
 have xs2:=ltb hx2
 have x0_2:=cO hx2 0 _ rfl
 have x1_2:=cO hx2 1 _ rfl
 have x2_2:=cO hx2 2 _ rfl
 have zs2:=hq2.kp.size
 have r1:=hrv.le;have r2:=hrv.fin;have r3:=hrv.tk;have r4:=hrv.pl
 have hrz:(rvNd (some (ro,rf,rc))).size≤1+Nd.sizeL rf.nds:=Nat.le_refl _
 have HRV:=hd_ hrv
 have HS2:=a3_ hp2 hq2 hx2
 clear hp2 hq2 hx2 hrv
 go_wp2_with fail
 refine (pident_c w2 s0).mono ?_
 rintro ei wi ⟨rfl,hri⟩
 have hpi:=HS2.out.1.on hri (by simp)
 have hqi:=HS2.out.2.1.no hri
 have hxi:=hri.at HS2.out.2.2 (by simp)
 have HI:=a3_ hpi hqi hxi
 clear hpi hqi hxi hri HS2
 clear k01_2 k02_2 k03_2 k11_2 k12_2 k13_2 k21_2 k22_2 k23_2 x0_2 x1_2 x2_2
 go_wp2_with fail
 refine (node_name wi base pb g _ _ _ s0 none 0 HI.out.1 (by omega) (by omega) (by simp only [la_,lc_,ln_,lm_];omega) (by simp only [la_,lc_,ln_,lm_];omega) hs0).mono ?_
 rintro e3 w3 ⟨⟨v3,rfl⟩,pn,gpn,hp3,hr3⟩
 have hgpn:=gapOf_le g (at_++p::rvToks rv').length
 have gpb:e2≤pn∧pn≤e2+1000:=by rw [gpn];constructor <;> omega
 have hq3:=HI.out.2.1.trans hr3
 have hx3:=hr3.kn w.heap.size _ _ _ HI.out.2.2 (by decide) (by decide) (by decide)
 clear hr3 gpn hgpn HI
 obtain ⟨k01_3,k02_3,k03_3⟩:=cellq hq3 (by omega) hbs k01 k02 k03
 obtain ⟨k11_3,k12_3,k13_3⟩:=cellq hq3 (by omega) hbs k11 k12 k13
 obtain ⟨k21_3,k22_3,k23_3⟩:=cellq hq3 (by omega) hbs k21 k22 k23
 have xs3:=ltb hx3
 have x0_3:=cO hx3 0 _ rfl
 have x1_3:=cO hx3 1 _ rfl
 have x2_3:=cO hx3 2 _ rfl
 have zs3:=hq3.kp.size
 have HI3:=hd_ (HK1.out.stay (w':=w3) fun b hb=>hq3.kp.block b (by omega) (by simp only [Fr];omega))
 have HS3:=a3_ hp3 hq3 hx3
 clear hp3 hq3 hx3
 have hsg:=@sig_any tp to ps tc b to' rs tc' HPS.out HRS.out
 rw [← HSN.out] at hsg
 have HSG:=hd_ hsg
 clear hsg
 go_wp2_with fail
 refine (HSG.out w3 B base pb g _ _ p _ _ HS3.out.1 HI3.out hB (by omega) (by omega) (by simp only [la_,lc_,ln_,lm_];omega) (by simp only [la_,lc_,ln_,lm_];omega) HST.out).mono ?_
 rintro e4 w4 ⟨⟨v4,rfl⟩,ps',so,sc,so',rs',sc',f,gs,hp4,hr4⟩
 have hk:=gs.ty (p0:=tp) (o0:=to) (c0:=tc) (o0':=to') (c0':=tc') (pp:=p) (z:=false) (by omega) (by rw [← HSN.out];omega) (by constructor <;> omega)
 rw [← HSN.out] at hk
 obtain ⟨_,_,_,_,_,_,j7,j8,j9,j10,j11⟩:=hk
 have hgps:=gapOf_le g (at_++p::rvToks rv'++[pn]).length
 have sgb:pn+s0.size≤f:=by omega
 clear j7 hgps
 have hq4:=HS3.out.2.1.trans hr4
 have hx4:=hr4.kn w.heap.size _ _ _ HS3.out.2.2 (by decide) (by decide) (by decide)
 have HGS:=hd_ gs
 clear hr4 gs HS3 HI3 HSG
 clear k01_3 k02_3 k03_3 k11_3 k12_3 k13_3 k21_3 k22_3 k23_3 x0_3 x1_3 x2_3
 obtain ⟨k01_4,k02_4,k03_4⟩:=cellq hq4 (by omega) hbs k01 k02 k03
 obtain ⟨k11_4,k12_4,k13_4⟩:=cellq hq4 (by omega) hbs k11 k12 k13
 obtain ⟨k21_4,k22_4,k23_4⟩:=cellq hq4 (by omega) hbs k21 k22 k23
 have xs4:=ltb hx4
 have x0_4:=cO hx4 0 _ rfl
 have x1_4:=cO hx4 1 _ rfl
 have x2_4:=cO hx4 2 _ rfl
 have zs4:=hq4.kp.size
 have HI4:=hd_ (HK2.out.stay (w':=w4) fun b hb=>hq4.kp.block b (by omega) (by simp only [Fr];omega))
 obtain ⟨sgT,hsgT⟩:∃ x,x=sgToks ps' so sc b so' rs' sc':=⟨_,rfl⟩
 obtain ⟨sgP,hsgP⟩:∃ x,x=sgPre ps' so sc b so' rs' sc':=⟨_,rfl⟩
 rw [← hsgT] at hp4 j10
 rw [← hsgP] at hp4 j11
 have HTP:=a2_ hsgT hsgP
 have HS4:=a3_ hp4 hq4 hx4
 clear hp4 hq4 hx4 hsgT hsgP
 go_wp2_with fail
 refine (miss_c .miss w4 B _ HI4.out).mono ?_
 rintro en wn ⟨bn,rfl,hkn,hpn⟩
 obtain rfl:bn=true:=hpn.2 rfl
 have hpn2:=HS4.out.1.on hkn (by simp)
 have hqn:=HS4.out.2.1.no hkn
 have hxn:=hkn.at HS4.out.2.2 (by simp)
 clear hkn hpn HS4 HI4
 clear k01_4 k02_4 k03_4 k11_4 k12_4 k13_4 k21_4 k22_4 k23_4 x0_4 x1_4 x2_4
 obtain ⟨k01_n,k02_n,k03_n⟩:=cellq hqn (by omega) hbs k01 k02 k03
 obtain ⟨k11_n,k12_n,k13_n⟩:=cellq hqn (by omega) hbs k11 k12 k13
 obtain ⟨k21_n,k22_n,k23_n⟩:=cellq hqn (by omega) hbs k21 k22 k23
 have xsn:=ltb hxn
 have x0_n:=cO hxn 0 _ rfl
 have x1_n:=cO hxn 1 _ rfl
 have x2_n:=cO hxn 2 _ rfl
 have zsn:=hqn.kp.size
 obtain ⟨w5,hw5⟩:∃ w5,w5=wn:=⟨_,rfl⟩
 rw [← hw5]
 have hp5:PSt w5 base pb g (at_++(p::(rvToks rv'++pn::(sgT++bdToks none)))) f (out++⟨⟨#[102,117,110,99]⟩,p,0⟩::(rvPre rv'++⟨⟨#[110,97,109,101]⟩,pn,pn+s0.size⟩::((⟨⟨#[115,105,103,110,97,116,117,114,101]⟩,p,f⟩::sgP)++bdPre none))):=by rw [hw5];simpa [bdToks,bdPre,aa_] using hpn2
 have hq5:Kq base w w5:=by rw [hw5];exact hqn
 have hx5:w5.heap[w.heap.size]?=some (.cells #[.string ⟨#[102,117,110,99]⟩,.string s0,.slice (some ⟨bb0,o0,none⟩) 3 c] 24 (0,0)):=by rw [hw5];exact hxn
 obtain ⟨bd',e4,hbd,hp5⟩:∃ bd' e4,BdG f none bd' e4∧PSt w5 base pb g (at_++(p::(rvToks rv'++pn::(sgT++bdToks bd')))) e4 (out++⟨⟨#[102,117,110,99]⟩,p,0⟩::(rvPre rv'++⟨⟨#[110,97,109,101]⟩,pn,pn+s0.size⟩::((⟨⟨#[115,105,103,110,97,116,117,114,101]⟩,p,f⟩::sgP)++bdPre bd'))):=⟨_,_,BdG.none _,hp5⟩
 clear hpn2 hqn hxn hw5 xsn zsn
 clear k01_n k02_n k03_n k11_n k12_n k13_n k21_n k22_n k23_n x0_n x1_n x2_n
 have xs5:=ltb hx5
 have x0_5:=cO hx5 0 _ rfl
 have x1_5:=cO hx5 1 _ rfl
 have x2_5:=cO hx5 2 _ rfl
 have zs5:=hq5.kp.size
 have d1:=hbd.le;have d2:=hbd.fin;have d3:=hbd.tk;have d4:=hbd.pl
 have HBD:=hd_ hbd
 clear hbd hx5
 obtain ⟨gv5,av5,ov5,hp9⟩:=hp5
 have hp9:PStx w5 base pb g (at_++(p::(rvToks rv'++pn::(sgT++bdToks bd')))) e4 (out++⟨⟨#[102,117,110,99]⟩,p,0⟩::(rvPre rv'++⟨⟨#[110,97,109,101]⟩,pn,pn+s0.size⟩::((⟨⟨#[115,105,103,110,97,116,117,114,101]⟩,p,f⟩::sgP)++bdPre bd'))) gv5 av5 ov5:=hp9
 obtain ⟨gb5,cap5,hov5,_,_,hlt9,lgb9,_,_,xx9⟩:=hp9.2.2.2.1.get (i:=out.length) (p:=⟨⟨#[102,117,110,99]⟩,p,0⟩) (by simp)
 obtain ⟨N5,hN5⟩:∃ N,N=(out++(⟨⟨#[102,117,110,99]⟩,p,0⟩:Pl)::(rvPre rv'++⟨⟨#[110,97,109,101]⟩,pn,pn+s0.size⟩::((⟨⟨#[115,105,103,110,97,116,117,114,101]⟩,p,f⟩::sgP)++bdPre bd'))).length:=⟨_,rfl⟩
 rw [← hN5] at hov5 hlt9
 subst hov5
 obtain ⟨_,cur5,hgc5⟩:=hp9.2.2.2.1.blk (g:=gb5) rfl
 have cc2:w5.cell? ⟨pb,2,none⟩=some (.int .i64 e4):=cO hp9.1 2 _ rfl
 have cc3:w5.cell? ⟨pb,3,none⟩=some (.slice (some ⟨gb5,0,none⟩) N5 cap5):=cO hp9.1 3 _ rfl
 have fx:=fO hgc5 (out.length*3+2)
 have lpb5:=ltb hp9.1
 have ne1:pb≠gb5:=ne_blk hp9.1 hgc5 (by simp)
 have ne2:gb5≠pb:=ne1.symm
 have H5:=a2_ hp9 hq5
 clear hp9 hgc5 hN5 hq5
 go_wp2_with fail
 go_region_held3 (fun w'=>w'.cell? ⟨pb,2,none⟩=some (.int .i64 e4)∧w'.cell? ⟨pb,3,none⟩=some (.slice (some ⟨gb5,0,none⟩) N5 cap5))
  (first | (go_keep;done))
  (fail)
 have hcl:=PStx.close (e2:=e4) H5.out.1 ((Kp.refl No w5).drew)
 obtain ⟨g1,g2,g3,g4⟩:=func_g (p0:=tp) (np0:=np) (o0:=to) (c0:=tc) (o0':=to') (c0':=tc') b1 HPQ.out HRV.out gpb hs0 HGS.out HBD.out hM.out
 refine bodyPost_end (v:=.tuple #[]) (by simp [results,Tryz.results13,go_sem]) rfl ⟨⟨_,rfl⟩,_,g1,?_,H5.out.2.trans hcl.2⟩
 rw [g2,g3,g4,← HTP.out.1,← HTP.out.2]
 exact hcl.1
end
section
open Go Go.RowKit
theorem dc_funcss (tp:Int) (ro:Int) (rf:Fs) (rc:Int) (hrf:FlC rf true false) (np:Int) (s0:ByteArray) (to:Int) (ps:Fs) (tc:Int) (b:Bool) (to':Int) (rs:Fs) (tc':Int) (bo bc:Int) (hps:FlC ps true false) (hrs:b=true→FlC rs true false):DcC (.func tp (some (ro,rf,rc)) np s0 to ps tc b to' rs tc' (some (bo,bc))):=by
 intro w B base pb g at_ e out s hp hin hB hb hs
 have hbs:=hp.size
 have hM:=hd_ hb.2.1
 simp only [Dc.nd,rvNd,bdNd] at hin hb hs ⊢
 obtain ⟨sn,hsn⟩:∃ sn,sn=(Ty.sig tp to ps tc b to' rs tc').nd:=⟨_,rfl⟩
 have hsz1:1≤sn.size:=Nd.size_pos _
 rw [← hsn] at hin hb hs ⊢
 have HSN:=hd_ hsn
 clear hsn
 simp only [Bnd,Nd.size,Nd.sizeL,Nd.miss,fl] at hb
 simp only [Nd.short,Nd.shortL,Nd.miss] at hs
 obtain ⟨b1,b2,b3,b4⟩:=hb
 have hLs:=hd_ (Nd.In_iff.1 hin)
 obtain ⟨q,c,rfl,hc⟩:=hin.form
 obtain ⟨bb0,o0,c0,q0,d0,he,_,hb0,hi,k01,k02,k03,k04,k05⟩:=hLs.out.get (i:=0) rfl
 cases he
 have HK0:=hd_ k04
 clear k04 hi
 simp only [Nat.zero_mul,Nat.one_mul,Nat.add_zero,Nat.reduceMul] at k01 k02 k03
 obtain ⟨bb1,o1,c1,q1,d1,he,_,hb1,hi,k11,k12,k13,k14,k15⟩:=hLs.out.get (i:=1) rfl
 cases he
 have HK1:=hd_ k14
 clear k14 hi
 simp only [Nat.zero_mul,Nat.one_mul,Nat.add_zero,Nat.reduceMul] at k11 k12 k13
 obtain ⟨bb2,o2,c2,q2,d2,he,_,hb2,hi,k21,k22,k23,k24,k25⟩:=hLs.out.get (i:=2) rfl
 cases he
 have HK2:=hd_ k24
 clear k24 hi
 simp only [Nd.k,Nd.t,Nd.l,ln_,Nat.zero_mul,Nat.one_mul,Nat.add_zero,Nat.reduceMul] at k21 k22 k23
 have HP:=hd_ hp
 clear hp hin hLs
 simp only [Nd.l,la_,lc_,ln_,lm_,Nat.zero_add,Nat.reduceAdd] at hc
 show Calls _ _ #[_,.agg #[.string ⟨#[102,117,110,99]⟩,.string s0,.slice (some ⟨bb0,o0,none⟩) 3 c]] _ _
 have HPS:=hd_ hps;have HRS:=hd_ hrs;have HST:=hd_ hs.2.2.1
 have hs0:=hs.1
 have HRF:=hd_ hrf;have HSR:=hd_ hs.2.1
 clear hps hrs hs hrf
 have hgap:=gapOf_le g at_.length
 go_enter Tryz.func13,Tryz.ntmps13
 have hk0:Kp No w (w.alloc (.cells #[.string ⟨#[102,117,110,99]⟩,.string s0,.slice (some ⟨bb0,o0,none⟩) 3 c] 24 (0,0))):=(Kp.refl No w).alloc _
 have hq0:Kq base w _:=Kq.of_no hk0
 have hp0:=HP.out.on hk0 (by simp)
 have hx0:=newOf w (.cells #[.string ⟨#[102,117,110,99]⟩,.string s0,.slice (some ⟨bb0,o0,none⟩) 3 c] 24 (0,0))
 generalize hw0:w.alloc (.cells #[.string ⟨#[102,117,110,99]⟩,.string s0,.slice (some ⟨bb0,o0,none⟩) 3 c] 24 (0,0))=w0 at hk0 hq0 hp0 hx0
 obtain ⟨k01_0,k02_0,k03_0⟩:=cellq hq0 (by omega) hbs k01 k02 k03
 obtain ⟨k11_0,k12_0,k13_0⟩:=cellq hq0 (by omega) hbs k11 k12 k13
 obtain ⟨k21_0,k22_0,k23_0⟩:=cellq hq0 (by omega) hbs k21 k22 k23
 have xs0:=ltb hx0
 have x0_0:=cO hx0 0 _ rfl
 have x1_0:=cO hx0 1 _ rfl
 have x2_0:=cO hx0 2 _ rfl
 have HS0:=a3_ hp0 hq0 hx0
 clear hp0 hq0 hx0 hk0
 go_wp2_with fail
 try rw [hw0]
 clear hw0
 refine (open_c _ base pb g at_ e out ⟨#[102,117,110,99]⟩ s0 _ HS0.out.1 (by omega) (by omega) (by omega) ⟨_,_,_,rfl⟩).mono ?_
 rintro eo wo ⟨rfl,hpo,hro⟩
 have hqo:=HS0.out.2.1.trans hro
 have hxo:=hro.kn w.heap.size _ _ _ HS0.out.2.2 (by decide) (by decide) (by decide)
 clear hro HS0
 clear k01_0 k02_0 k03_0 k11_0 k12_0 k13_0 k21_0 k22_0 k23_0 x0_0 x1_0 x2_0
 obtain ⟨k01_o,k02_o,k03_o⟩:=cellq hqo (by omega) hbs k01 k02 k03
 obtain ⟨k11_o,k12_o,k13_o⟩:=cellq hqo (by omega) hbs k11 k12 k13
 obtain ⟨k21_o,k22_o,k23_o⟩:=cellq hqo (by omega) hbs k21 k22 k23
 have xso:=ltb hxo
 have x0_o:=cO hxo 0 _ rfl
 have x1_o:=cO hxo 1 _ rfl
 have x2_o:=cO hxo 2 _ rfl
 have zso:=hqo.kp.size
 obtain ⟨p,hpq⟩:∃ p,p=e+gapOf g at_.length:=⟨_,rfl⟩
 rw [← hpq] at hpo
 have hpb:e≤p∧p≤e+1000:=by omega
 obtain ⟨gv,av,ov,hpx⟩:=hpo
 have hpx:PStx wo base pb g at_ e (out++[⟨⟨#[102,117,110,99]⟩,p,0⟩]) gv av ov:=hpx
 obtain ⟨gb,cap,hov,_,_,hlt5,lgb,_,xx1,_⟩:=hpx.2.2.2.1.get (i:=out.length) (p:=⟨⟨#[102,117,110,99]⟩,p,0⟩) (by simp)
 obtain ⟨N,hN⟩:∃ N,N=(out++[(⟨⟨#[102,117,110,99]⟩,p,0⟩:Pl)]).length:=⟨_,rfl⟩
 rw [← hN] at hov hlt5
 subst hov
 obtain ⟨_,cur,hgc⟩:=hpx.2.2.2.1.blk (g:=gb) rfl
 have cc3:wo.cell? ⟨pb,3,none⟩=some (.slice (some ⟨gb,0,none⟩) N cap):=cO hpx.1 3 _ rfl
 have lpb:=ltb hpx.1
 have HO:=a3_ hpx hqo hxo
 have HPQ:=hd_ hpq
 clear hpx hqo hxo hgc hN hpq
 go_wp2_with fail
 have ka1:Kp No wo (wo.alloc (.cells #[.string ⟨#[102,117,110,99]⟩] 9 (0,0))):=(Kp.refl No wo).alloc _
 refine (tok1_c _ base pb _ 1 g _ _ _ ⟨#[102,117,110,99]⟩ (PSt.on ⟨gv,av,_,HO.out.1⟩ ka1 (by simp)) (newOf wo _) rfl (by decide) (by omega) (by omega) (by omega)).mono ?_
 rintro e1 w1 ⟨⟨v1,rfl⟩,p1,hp1q,hp1,hr1⟩
 have hz1:((⟨#[102,117,110,99]⟩:ByteArray)).size=4:=rfl
 have hpe:p1=p:=hp1q.trans HPQ.out.symm
 rw [hpe] at hp1
 clear hpe
 rw [hz1] at hp1
 have hq1:=(HO.out.2.1.no ka1).trans hr1
 have hx1:=hr1.kn w.heap.size _ _ _ (ka1.at HO.out.2.2 (by simp)) (by decide) (by decide) (by decide)
 clear hr1 ka1 cc3 xx1 hp1q
 clear k01_o k02_o k03_o k11_o k12_o k13_o k21_o k22_o k23_o x0_o x1_o x2_o
 obtain ⟨k01_1,k02_1,k03_1⟩:=cellq hq1 (by omega) hbs k01 k02 k03
 obtain ⟨k11_1,k12_1,k13_1⟩:=cellq hq1 (by omega) hbs k11 k12 k13
 obtain ⟨k21_1,k22_1,k23_1⟩:=cellq hq1 (by omega) hbs k21 k22 k23
 have xs1:=ltb hx1
 have x0_1:=cO hx1 0 _ rfl
 have x1_1:=cO hx1 1 _ rfl
 have x2_1:=cO hx1 2 _ rfl
 have zs1:=hq1.kp.size
 have HI1:=hd_ (HK0.out.stay (w':=w1) fun b hb=>hq1.kp.block b (by omega) (by simp only [Fr];omega))
 have HS1:=a3_ hp1 hq1 hx1
 clear hp1 hq1 hx1 HO
 go_wp2_with fail
 refine (miss_c (fl rf.nds) w1 B _ HI1.out).mono ?_
 rintro em wm ⟨bm,rfl,hkm,hpm⟩
 obtain rfl:bm=false:=by cases bm with | false=>rfl | true=>exact absurd (hpm.1 rfl) (fl_not_miss _)
 have hpm2:=HS1.out.1.on hkm (by simp)
 have hqm:=HS1.out.2.1.no hkm
 have hxm:=hkm.at HS1.out.2.2 (by simp)
 clear hkm hpm HS1 HI1
 clear k01_1 k02_1 k03_1 k11_1 k12_1 k13_1 k21_1 k22_1 k23_1 x0_1 x1_1 x2_1
 obtain ⟨k01_m,k02_m,k03_m⟩:=cellq hqm (by omega) hbs k01 k02 k03
 obtain ⟨k11_m,k12_m,k13_m⟩:=cellq hqm (by omega) hbs k11 k12 k13
 obtain ⟨k21_m,k22_m,k23_m⟩:=cellq hqm (by omega) hbs k21 k22 k23
 have xsm:=ltb hxm
 have x0_m:=cO hxm 0 _ rfl
 have x1_m:=cO hxm 1 _ rfl
 have x2_m:=cO hxm 2 _ rfl
 have zsm:=hqm.kp.size
 have HIM:=hd_ (HK0.out.stay (w':=wm) fun b hb=>hqm.kp.block b (by omega) (by simp only [Fr];omega))
 have HSM:=a3_ hpm2 hqm hxm
 clear hpm2 hqm hxm
 go_wp2_with fail
 refine (HRF.out _ B base pb g _ _ _ _ HSM.out.1 HIM.out hB (by unfold Bnd;simp only [la_,lc_,ln_,lm_];refine ⟨by omega,by omega,by omega,by omega⟩) HSR.out).mono ?_
 rintro e2 w2 ⟨⟨v2,rfl⟩,rf',ro',rc',gf,hp2,hr2⟩
 have hrv0:=RvG.some (o0:=ro) (c0:=rc) gf (by omega) (by omega)
 have hq2:=HSM.out.2.1.trans hr2
 have hx2:=hr2.kn w.heap.size _ _ _ HSM.out.2.2 (by decide) (by decide) (by decide)
 obtain ⟨rv',e2,hrv,hp2⟩:∃ rv' e2,RvG (p+4) (some (ro,rf,rc)) rv' e2∧PSt w2 base pb g (at_++p::rvToks rv') e2 (out++⟨⟨#[102,117,110,99]⟩,p,0⟩::rvPre rv'):=⟨_,_,hrv0,by simpa [rvToks,rvPre,aa_] using hp2⟩
 clear hr2 HSM HIM gf hrv0
 clear k01_m k02_m k03_m k11_m k12_m k13_m k21_m k22_m k23_m x0_m x1_m x2_m
 obtain ⟨k01_2,k02_2,k03_2⟩:=cellq hq2 (by omega) hbs k01 k02 k03
 obtain ⟨k11_2,k12_2,k13_2⟩:=cellq hq2 (by omega) hbs k11 k12 k13
 obtain ⟨k21_2,k22_2,k23_2⟩:=cellq hq2 (by omega) hbs k21 k22 k23
 have xs2:=ltb hx2
 have x0_2:=cO hx2 0 _ rfl
 have x1_2:=cO hx2 1 _ rfl
 have x2_2:=cO hx2 2 _ rfl
 have zs2:=hq2.kp.size
 have r1:=hrv.le;have r2:=hrv.fin;have r3:=hrv.tk;have r4:=hrv.pl
 have hrz:(rvNd (some (ro,rf,rc))).size≤1+Nd.sizeL rf.nds:=Nat.le_refl _
 have HRV:=hd_ hrv
 have HS2:=a3_ hp2 hq2 hx2
 clear hp2 hq2 hx2 hrv
 go_wp2_with fail
 refine (pident_c w2 s0).mono ?_
 rintro ei wi ⟨rfl,hri⟩
 have hpi:=HS2.out.1.on hri (by simp)
 have hqi:=HS2.out.2.1.no hri
 have hxi:=hri.at HS2.out.2.2 (by simp)
 have HI:=a3_ hpi hqi hxi
 clear hpi hqi hxi hri HS2
 clear k01_2 k02_2 k03_2 k11_2 k12_2 k13_2 k21_2 k22_2 k23_2 x0_2 x1_2 x2_2
 go_wp2_with fail
 refine (node_name wi base pb g _ _ _ s0 none 0 HI.out.1 (by omega) (by omega) (by simp only [la_,lc_,ln_,lm_];omega) (by simp only [la_,lc_,ln_,lm_];omega) hs0).mono ?_
 rintro e3 w3 ⟨⟨v3,rfl⟩,pn,gpn,hp3,hr3⟩
 have hgpn:=gapOf_le g (at_++p::rvToks rv').length
 have gpb:e2≤pn∧pn≤e2+1000:=by rw [gpn];constructor <;> omega
 have hq3:=HI.out.2.1.trans hr3
 have hx3:=hr3.kn w.heap.size _ _ _ HI.out.2.2 (by decide) (by decide) (by decide)
 clear hr3 gpn hgpn HI
 obtain ⟨k01_3,k02_3,k03_3⟩:=cellq hq3 (by omega) hbs k01 k02 k03
 obtain ⟨k11_3,k12_3,k13_3⟩:=cellq hq3 (by omega) hbs k11 k12 k13
 obtain ⟨k21_3,k22_3,k23_3⟩:=cellq hq3 (by omega) hbs k21 k22 k23
 have xs3:=ltb hx3
 have x0_3:=cO hx3 0 _ rfl
 have x1_3:=cO hx3 1 _ rfl
 have x2_3:=cO hx3 2 _ rfl
 have zs3:=hq3.kp.size
 have HI3:=hd_ (HK1.out.stay (w':=w3) fun b hb=>hq3.kp.block b (by omega) (by simp only [Fr];omega))
 have HS3:=a3_ hp3 hq3 hx3
 clear hp3 hq3 hx3
 have hsg:=@sig_any tp to ps tc b to' rs tc' HPS.out HRS.out
 rw [← HSN.out] at hsg
 have HSG:=hd_ hsg
 clear hsg
 go_wp2_with fail
 refine (HSG.out w3 B base pb g _ _ p _ _ HS3.out.1 HI3.out hB (by omega) (by omega) (by simp only [la_,lc_,ln_,lm_];omega) (by simp only [la_,lc_,ln_,lm_];omega) HST.out).mono ?_
 rintro e4 w4 ⟨⟨v4,rfl⟩,ps',so,sc,so',rs',sc',f,gs,hp4,hr4⟩
 have hk:=gs.ty (p0:=tp) (o0:=to) (c0:=tc) (o0':=to') (c0':=tc') (pp:=p) (z:=false) (by omega) (by rw [← HSN.out];omega) (by constructor <;> omega)
 rw [← HSN.out] at hk
 obtain ⟨_,_,_,_,_,_,j7,j8,j9,j10,j11⟩:=hk
 have hgps:=gapOf_le g (at_++p::rvToks rv'++[pn]).length
 have sgb:pn+s0.size≤f:=by omega
 clear j7 hgps
 have hq4:=HS3.out.2.1.trans hr4
 have hx4:=hr4.kn w.heap.size _ _ _ HS3.out.2.2 (by decide) (by decide) (by decide)
 have HGS:=hd_ gs
 clear hr4 gs HS3 HI3 HSG
 clear k01_3 k02_3 k03_3 k11_3 k12_3 k13_3 k21_3 k22_3 k23_3 x0_3 x1_3 x2_3
 obtain ⟨k01_4,k02_4,k03_4⟩:=cellq hq4 (by omega) hbs k01 k02 k03
 obtain ⟨k11_4,k12_4,k13_4⟩:=cellq hq4 (by omega) hbs k11 k12 k13
 obtain ⟨k21_4,k22_4,k23_4⟩:=cellq hq4 (by omega) hbs k21 k22 k23
 have xs4:=ltb hx4
 have x0_4:=cO hx4 0 _ rfl
 have x1_4:=cO hx4 1 _ rfl
 have x2_4:=cO hx4 2 _ rfl
 have zs4:=hq4.kp.size
 have HI4:=hd_ (HK2.out.stay (w':=w4) fun b hb=>hq4.kp.block b (by omega) (by simp only [Fr];omega))
 obtain ⟨sgT,hsgT⟩:∃ x,x=sgToks ps' so sc b so' rs' sc':=⟨_,rfl⟩
 obtain ⟨sgP,hsgP⟩:∃ x,x=sgPre ps' so sc b so' rs' sc':=⟨_,rfl⟩
 rw [← hsgT] at hp4 j10
 rw [← hsgP] at hp4 j11
 have HTP:=a2_ hsgT hsgP
 have HS4:=a3_ hp4 hq4 hx4
 clear hp4 hq4 hx4 hsgT hsgP
 go_wp2_with fail
 refine (miss_c (.mk ⟨#[98,111,100,121]⟩ ⟨#[]⟩ []) w4 B _ HI4.out).mono ?_
 rintro en wn ⟨bn,rfl,hkn,hpn⟩
 obtain rfl:bn=false:=by cases bn with | false=>rfl | true=>exact absurd (hpn.1 rfl) (by intro h;cases h)
 have hpn2:=HS4.out.1.on hkn (by simp)
 have hqn:=HS4.out.2.1.no hkn
 have hxn:=hkn.at HS4.out.2.2 (by simp)
 clear hkn hpn HS4 HI4
 clear k01_4 k02_4 k03_4 k11_4 k12_4 k13_4 k21_4 k22_4 k23_4 x0_4 x1_4 x2_4
 obtain ⟨k01_n,k02_n,k03_n⟩:=cellq hqn (by omega) hbs k01 k02 k03
 obtain ⟨k11_n,k12_n,k13_n⟩:=cellq hqn (by omega) hbs k11 k12 k13
 obtain ⟨k21_n,k22_n,k23_n⟩:=cellq hqn (by omega) hbs k21 k22 k23
 have xsn:=ltb hxn
 have x0_n:=cO hxn 0 _ rfl
 have x1_n:=cO hxn 1 _ rfl
 have x2_n:=cO hxn 2 _ rfl
 have zsn:=hqn.kp.size
 have HSN2:=a3_ hpn2 hqn hxn
 clear hpn2 hqn hxn
 go_wp2_with fail
 refine (node_body _ base pb g _ _ _ _ _ HSN2.out.1 (by omega) (by omega) (by simp only [la_,lc_,ln_,lm_];omega) (by simp only [la_,lc_,ln_,lm_];omega)).mono ?_
 rintro e5 w5 ⟨⟨v5,rfl⟩,bo',bc',hbo,hb1,hb2,hp5,hr5⟩
 have hgb:=gapOf_le g (at_++p::rvToks rv'++[pn]++sgT).length
 have hbo2:f≤bo'∧bo'≤f+1000:=by rw [hbo];constructor <;> omega
 have hbd0:=BdG.some (a:=bo) (b:=bc) hbo2 hb1 hb2
 have hq5:=HSN2.out.2.1.trans hr5
 have hx5:=hr5.kn w.heap.size _ _ _ HSN2.out.2.2 (by decide) (by decide) (by decide)
 obtain ⟨bd',e4,hbd,hp5⟩:∃ bd' e4,BdG f (some (bo,bc)) bd' e4∧PSt w5 base pb g (at_++(p::(rvToks rv'++pn::(sgT++bdToks bd')))) e4 (out++⟨⟨#[102,117,110,99]⟩,p,0⟩::(rvPre rv'++⟨⟨#[110,97,109,101]⟩,pn,pn+s0.size⟩::((⟨⟨#[115,105,103,110,97,116,117,114,101]⟩,p,f⟩::sgP)++bdPre bd'))):=⟨_,_,hbd0,by simpa [bdToks,bdPre,aa_] using hp5⟩
 clear hr5 HSN2 hbo hb1 hb2 hbd0 hgb hbo2
 clear k01_n k02_n k03_n k11_n k12_n k13_n k21_n k22_n k23_n x0_n x1_n x2_n
 have xs5:=ltb hx5
 have x0_5:=cO hx5 0 _ rfl
 have x1_5:=cO hx5 1 _ rfl
 have x2_5:=cO hx5 2 _ rfl
 have zs5:=hq5.kp.size
 have d1:=hbd.le;have d2:=hbd.fin;have d3:=hbd.tk;have d4:=hbd.pl
 have HBD:=hd_ hbd
 clear hbd hx5
 obtain ⟨gv5,av5,ov5,hp9⟩:=hp5
 have hp9:PStx w5 base pb g (at_++(p::(rvToks rv'++pn::(sgT++bdToks bd')))) e4 (out++⟨⟨#[102,117,110,99]⟩,p,0⟩::(rvPre rv'++⟨⟨#[110,97,109,101]⟩,pn,pn+s0.size⟩::((⟨⟨#[115,105,103,110,97,116,117,114,101]⟩,p,f⟩::sgP)++bdPre bd'))) gv5 av5 ov5:=hp9
 obtain ⟨gb5,cap5,hov5,_,_,hlt9,lgb9,_,_,xx9⟩:=hp9.2.2.2.1.get (i:=out.length) (p:=⟨⟨#[102,117,110,99]⟩,p,0⟩) (by simp)
 obtain ⟨N5,hN5⟩:∃ N,N=(out++(⟨⟨#[102,117,110,99]⟩,p,0⟩:Pl)::(rvPre rv'++⟨⟨#[110,97,109,101]⟩,pn,pn+s0.size⟩::((⟨⟨#[115,105,103,110,97,116,117,114,101]⟩,p,f⟩::sgP)++bdPre bd'))).length:=⟨_,rfl⟩
 rw [← hN5] at hov5 hlt9
 subst hov5
 obtain ⟨_,cur5,hgc5⟩:=hp9.2.2.2.1.blk (g:=gb5) rfl
 have cc2:w5.cell? ⟨pb,2,none⟩=some (.int .i64 e4):=cO hp9.1 2 _ rfl
 have cc3:w5.cell? ⟨pb,3,none⟩=some (.slice (some ⟨gb5,0,none⟩) N5 cap5):=cO hp9.1 3 _ rfl
 have fx:=fO hgc5 (out.length*3+2)
 have lpb5:=ltb hp9.1
 have ne1:pb≠gb5:=ne_blk hp9.1 hgc5 (by simp)
 have ne2:gb5≠pb:=ne1.symm
 have H5:=a2_ hp9 hq5
 clear hp9 hgc5 hN5 hq5
 go_wp2_with fail
 go_region_held3 (fun w'=>w'.cell? ⟨pb,2,none⟩=some (.int .i64 e4)∧w'.cell? ⟨pb,3,none⟩=some (.slice (some ⟨gb5,0,none⟩) N5 cap5))
  (first | (go_keep;done))
  (fail)
 have hcl:=PStx.close (e2:=e4) H5.out.1 ((Kp.refl No w5).drew)
 obtain ⟨g1,g2,g3,g4⟩:=func_g (p0:=tp) (np0:=np) (o0:=to) (c0:=tc) (o0':=to') (c0':=tc') b1 HPQ.out HRV.out gpb hs0 HGS.out HBD.out hM.out
 refine bodyPost_end (v:=.tuple #[]) (by simp [results,Tryz.results13,go_sem]) rfl ⟨⟨_,rfl⟩,_,g1,?_,H5.out.2.trans hcl.2⟩
 rw [g2,g3,g4,← HTP.out.1,← HTP.out.2]
 exact hcl.1
end
section
open Go Go.RowKit
def Dc.shp:Dc→Prop
 | .gen _ _ it=>it.shp
 | .group _ _ _ its _=>∀ it∈its,it.shp
 | .func p rv _ _ o ps c b o' rs c' _=>(∀ o f c,rv=some (o,f,c)→f.shp false)∧(Ty.sig p o ps c b o' rs c').shp false
def DeclQ (n:Nd):Prop:=(n.k=⟨#[102,117,110,99]⟩∧∃ d:Dc,d.nd=n∧d.shp)∨∃ (wd:Wd) (its:List It),n.k=wd.kind∧n.l=its.map It.nd∧∀ it∈its,it.shp
theorem its_of:∀ (l:List Nd),(∀ (i:Nat) (n:Nd),l[i]?=some n→∃ it:It,it.nd=n∧it.shp)→∃ its:List It,its.map It.nd=l∧∀ it∈its,it.shp
 | [],_=>⟨[],rfl,by simp⟩
 | n::l,h=>by
  obtain ⟨its,hv,hs⟩:=its_of l fun i m hm=>h (i+1) m (by simpa using hm)
  obtain ⟨t,rfl,ht⟩:=h 0 n rfl
  refine ⟨t::its,by simp [hv],?_⟩
  intro v hv
  rcases List.mem_cons.1 hv with rfl | hv
  ·exact ht
  ·exact hs v hv
theorem q_gen (wd:Wd) {t:ByteArray} {l:List Nd} (h:∀ (i:Nat) (n:Nd),l[i]?=some n→∃ it:It,it.nd=n∧it.shp):DeclQ (.mk wd.kind t l):=by
 obtain ⟨its,rfl,hs⟩:=its_of l h
 exact .inr ⟨wd,its,rfl,rfl,hs⟩
theorem q_func {t:ByteArray} {x y z:Nd} (h1:x=.miss∨PrmQ TyQ x) (h2:y.k=⟨#[115,105,103,110,97,116,117,114,101]⟩) (h3:TyQ y) (h4:z=.miss∨z=.mk ⟨#[98,111,100,121]⟩ ⟨#[]⟩ []):DeclQ (.mk ⟨#[102,117,110,99]⟩ t [x,y,z]):=by
 refine .inl ⟨rfl,?_⟩
 obtain ⟨T,rfl,hT⟩:=h3
 rw [Ty.nd_k] at h2
 cases T <;> simp [Ty.kind] at h2
 rename_i p o ps c b o' rs c'
 have key:∀ bd:Option (Int × Int),bdNd bd=z→∃ d:Dc,d.nd=.mk ⟨#[102,117,110,99]⟩ t [x,(Ty.sig p o ps c b o' rs c').nd,z]∧d.shp:=by
  intro bd hbd
  rcases h1 with rfl | h1
  ·exact ⟨.func p none 0 t o ps c b o' rs c' bd,by simp [Dc.nd,rvNd,hbd],by simp [Dc.shp],hT⟩
  ·obtain ⟨f,rfl,hf⟩:=prm_of h1
   refine ⟨.func p (some (0,f,0)) 0 t o ps c b o' rs c' bd,by simp [Dc.nd,rvNd,hbd],?_,hT⟩
   intro o f' c he
   cases he
   exact hf
 rcases h4 with rfl | rfl
 ·exact key none rfl
 ·exact key (some (0,0)) rfl
theorem shdecl_imp (t:ByteArray) (l:List Nd) (w:World) (B:Nat) (s:Value) (h:(Nd.mk ⟨#[100,101,99,108,97,114,101,32,105,109,112,111,114,116]⟩ t l).In w B s) (hB:B≤w.heap.size) (hn:(Nd.mk ⟨#[100,101,99,108,97,114,101,32,105,109,112,111,114,116]⟩ t l).size≤400) :
 Calls Tryz.prog 12 #[ndv (Nd.mk ⟨#[100,101,99,108,97,114,101,32,105,109,112,111,114,116]⟩ t l) s] w (Says w (DeclQ (Nd.mk ⟨#[100,101,99,108,97,114,101,32,105,109,112,111,114,116]⟩ t l))):=by
 have hLs:=hd_ (Nd.In_iff.1 h)
 obtain ⟨q,c,rfl,hc⟩:=h.form
 have HN:=hd_ hn
 have hl4:l.length≤400:=by have:=Nd.length_le l;simp only [Nd.size] at hn;omega
 clear h hn
 simp only [Nd.l] at hc
 show Calls _ _ #[.agg #[.string ⟨#[100,101,99,108,97,114,101,32,105,109,112,111,114,116]⟩,.string t,.slice q l.length c]] _ _
 have hLs:Hid (Ls w B (.slice q l.length c) l):=hLs
 go_enter Tryz.func12,Tryz.ntmps12
 go_wp2_with fail
 refine (every_c _ B 19 #[] l PathQ _ (hLs.out.stay fun b hb=>Below.heap_alloc _ _ _ (by omega)) (by simp;omega) (Ask.fn Tryz.func19 (by kernel_rfl) rfl (by simp;omega) fun w' i m s hm hs hB'=>shpath_c m w' B s hs hB' (by have h1:=Nd.sizeL_get l i m hm;have h2:=HN.out;simp only [Nd.size] at h2;omega)) hl4).mono ?_
 rintro e w2 ⟨b2,rfl,hk2,hp⟩
 have hk2:Kp No w w2:=((Kp.refl No w).alloc _).trans' hk2
 have hks:=hk2.size
 have H2:=a2_ hk2 hp
 clear hk2 hp
 go_wp2_with fail
 go_ret
 exact ⟨_,rfl,H2.out.1,fun h=>q_gen .imp (H2.out.2 (by simpa using h))⟩
theorem shdecl_con (t:ByteArray) (l:List Nd) (w:World) (B:Nat) (s:Value) (h:(Nd.mk ⟨#[100,101,99,108,97,114,101,32,99,111,110,115,116]⟩ t l).In w B s) (hB:B≤w.heap.size) (hn:(Nd.mk ⟨#[100,101,99,108,97,114,101,32,99,111,110,115,116]⟩ t l).size≤400) :
 Calls Tryz.prog 12 #[ndv (Nd.mk ⟨#[100,101,99,108,97,114,101,32,99,111,110,115,116]⟩ t l) s] w (Says w (DeclQ (Nd.mk ⟨#[100,101,99,108,97,114,101,32,99,111,110,115,116]⟩ t l))):=by
 have hLs:=hd_ (Nd.In_iff.1 h)
 obtain ⟨q,c,rfl,hc⟩:=h.form
 have HN:=hd_ hn
 have hl4:l.length≤400:=by have:=Nd.length_le l;simp only [Nd.size] at hn;omega
 clear h hn
 simp only [Nd.l] at hc
 show Calls _ _ #[.agg #[.string ⟨#[100,101,99,108,97,114,101,32,99,111,110,115,116]⟩,.string t,.slice q l.length c]] _ _
 have hLs:Hid (Ls w B (.slice q l.length c) l):=hLs
 go_enter Tryz.func12,Tryz.ntmps12
 go_wp2_with fail
 refine (every_c _ B 20 #[] l ValueQ _ (hLs.out.stay fun b hb=>Below.heap_alloc _ _ _ (by omega)) (by simp;omega) (Ask.fn Tryz.func20 (by kernel_rfl) rfl (by simp;omega) fun w' i m s hm hs hB'=>shvalue_c m w' B s hs hB' (by have h1:=Nd.sizeL_get l i m hm;have h2:=HN.out;simp only [Nd.size] at h2;omega)) hl4).mono ?_
 rintro e w2 ⟨b2,rfl,hk2,hp⟩
 have hk2:Kp No w w2:=((Kp.refl No w).alloc _).trans' hk2
 have hks:=hk2.size
 have H2:=a2_ hk2 hp
 clear hk2 hp
 go_wp2_with fail
 go_ret
 exact ⟨_,rfl,H2.out.1,fun h=>q_gen .con (H2.out.2 (by simpa using h))⟩
theorem shdecl_var (t:ByteArray) (l:List Nd) (w:World) (B:Nat) (s:Value) (h:(Nd.mk ⟨#[100,101,99,108,97,114,101,32,118,97,114]⟩ t l).In w B s) (hB:B≤w.heap.size) (hn:(Nd.mk ⟨#[100,101,99,108,97,114,101,32,118,97,114]⟩ t l).size≤400) :
 Calls Tryz.prog 12 #[ndv (Nd.mk ⟨#[100,101,99,108,97,114,101,32,118,97,114]⟩ t l) s] w (Says w (DeclQ (Nd.mk ⟨#[100,101,99,108,97,114,101,32,118,97,114]⟩ t l))):=by
 have hLs:=hd_ (Nd.In_iff.1 h)
 obtain ⟨q,c,rfl,hc⟩:=h.form
 have HN:=hd_ hn
 have hl4:l.length≤400:=by have:=Nd.length_le l;simp only [Nd.size] at hn;omega
 clear h hn
 simp only [Nd.l] at hc
 show Calls _ _ #[.agg #[.string ⟨#[100,101,99,108,97,114,101,32,118,97,114]⟩,.string t,.slice q l.length c]] _ _
 have hLs:Hid (Ls w B (.slice q l.length c) l):=hLs
 go_enter Tryz.func12,Tryz.ntmps12
 go_wp2_with fail
 refine (every_c _ B 20 #[] l ValueQ _ (hLs.out.stay fun b hb=>Below.heap_alloc _ _ _ (by omega)) (by simp;omega) (Ask.fn Tryz.func20 (by kernel_rfl) rfl (by simp;omega) fun w' i m s hm hs hB'=>shvalue_c m w' B s hs hB' (by have h1:=Nd.sizeL_get l i m hm;have h2:=HN.out;simp only [Nd.size] at h2;omega)) hl4).mono ?_
 rintro e w2 ⟨b2,rfl,hk2,hp⟩
 have hk2:Kp No w w2:=((Kp.refl No w).alloc _).trans' hk2
 have hks:=hk2.size
 have H2:=a2_ hk2 hp
 clear hk2 hp
 go_wp2_with fail
 go_ret
 exact ⟨_,rfl,H2.out.1,fun h=>q_gen .var (H2.out.2 (by simpa using h))⟩
theorem shdecl_typ (t:ByteArray) (l:List Nd) (w:World) (B:Nat) (s:Value) (h:(Nd.mk ⟨#[100,101,99,108,97,114,101,32,116,121,112,101]⟩ t l).In w B s) (hB:B≤w.heap.size) (hn:(Nd.mk ⟨#[100,101,99,108,97,114,101,32,116,121,112,101]⟩ t l).size≤400) :
 Calls Tryz.prog 12 #[ndv (Nd.mk ⟨#[100,101,99,108,97,114,101,32,116,121,112,101]⟩ t l) s] w (Says w (DeclQ (Nd.mk ⟨#[100,101,99,108,97,114,101,32,116,121,112,101]⟩ t l))):=by
 have hLs:=hd_ (Nd.In_iff.1 h)
 obtain ⟨q,c,rfl,hc⟩:=h.form
 have HN:=hd_ hn
 have hl4:l.length≤400:=by have:=Nd.length_le l;simp only [Nd.size] at hn;omega
 clear h hn
 simp only [Nd.l] at hc
 show Calls _ _ #[.agg #[.string ⟨#[100,101,99,108,97,114,101,32,116,121,112,101]⟩,.string t,.slice q l.length c]] _ _
 have hLs:Hid (Ls w B (.slice q l.length c) l):=hLs
 go_enter Tryz.func12,Tryz.ntmps12
 go_wp2_with fail
 refine (every_c _ B 21 #[] l TypeQ _ (hLs.out.stay fun b hb=>Below.heap_alloc _ _ _ (by omega)) (by simp;omega) (Ask.fn Tryz.func21 (by kernel_rfl) rfl (by simp;omega) fun w' i m s hm hs hB'=>shtype_c m w' B s hs hB' (by have h1:=Nd.sizeL_get l i m hm;have h2:=HN.out;simp only [Nd.size] at h2;omega)) hl4).mono ?_
 rintro e w2 ⟨b2,rfl,hk2,hp⟩
 have hk2:Kp No w w2:=((Kp.refl No w).alloc _).trans' hk2
 have hks:=hk2.size
 have H2:=a2_ hk2 hp
 clear hk2 hp
 go_wp2_with fail
 go_ret
 exact ⟨_,rfl,H2.out.1,fun h=>q_gen .typ (H2.out.2 (by simpa using h))⟩
theorem shdecl_func (t:ByteArray) (l:List Nd) (w:World) (B:Nat) (s:Value) (h:(Nd.mk ⟨#[102,117,110,99]⟩ t l).In w B s) (hB:B≤w.heap.size) (hn:(Nd.mk ⟨#[102,117,110,99]⟩ t l).size≤400) :
 Calls Tryz.prog 12 #[ndv (Nd.mk ⟨#[102,117,110,99]⟩ t l) s] w (Says w (DeclQ (Nd.mk ⟨#[102,117,110,99]⟩ t l))):=by
 have hLs:=hd_ (Nd.In_iff.1 h)
 obtain ⟨q,c,rfl,hc⟩:=h.form
 have HN:=hd_ hn
 have hl4:l.length≤400:=by have:=Nd.length_le l;simp only [Nd.size] at hn;omega
 clear h hn
 simp only [Nd.l] at hc
 show Calls _ _ #[.agg #[.string ⟨#[102,117,110,99]⟩,.string t,.slice q l.length c]] _ _
 have hLs:Hid (Ls w B (.slice q l.length c) l):=hLs
 by_cases hl:l.length=3
 ·obtain ⟨x,y,z,rfl⟩:=len3 hl
  clear hl hl4
  have hsx:x.size≤400:=by
   have:=HN.out
   simp only [Nd.size,Nd.sizeL] at *
   omega
  have HSx:=hd_ hsx
  clear hsx
  obtain ⟨b0,o0,c0,q0,d0,he,_,hb0,hi,g1,g2,g3,g4,g5⟩:=hLs.out.get (i:=0) rfl
  cases he
  have Hx:=hd_ g4
  clear g4 hi
  simp only [Nat.zero_mul,Nat.one_mul,Nat.add_zero,Nat.reduceMul] at g1 g2 g3
  have hsy:y.size≤400:=by
   have:=HN.out
   simp only [Nd.size,Nd.sizeL] at *
   omega
  have HSy:=hd_ hsy
  clear hsy
  obtain ⟨b1,o1,c1,q1,d1,he,_,hb1,hi,k1,k2,k3,k4,k5⟩:=hLs.out.get (i:=1) rfl
  cases he
  have Hy:=hd_ k4
  clear k4 hi
  simp only [Nat.zero_mul,Nat.one_mul,Nat.add_zero,Nat.reduceMul] at k1 k2 k3
  have hsz:z.size≤400:=by
   have:=HN.out
   simp only [Nd.size,Nd.sizeL] at *
   omega
  have HSz:=hd_ hsz
  clear hsz
  obtain ⟨b2,o2,c2,q2,d2,he,_,hb2,hi,m1,m2,m3,m4,m5⟩:=hLs.out.get (i:=2) rfl
  cases he
  have Hz:=hd_ m4
  clear m4 hi
  simp only [Nat.zero_mul,Nat.one_mul,Nat.add_zero,Nat.reduceMul] at m1 m2 m3
  simp only [lc_,ln_,Nat.zero_add,Nat.reduceAdd] at hc
  obtain ⟨ky,ty,ly⟩:=y
  simp only [Nd.k,Nd.t,Nd.l] at k1 k2 k3
  go_enter Tryz.func12,Tryz.ntmps12
  go_wp2_with fail
  refine (or_c _ B 23 #[] x (PrmQ TyQ) _ (Hx.out.stay fun b hb=>Below.heap_alloc _ _ _ (by omega)) (by simp;omega) (Ask.fn1 Tryz.func23 (by kernel_rfl) rfl (by simp;omega) fun w' s hs hB'=>prms_c TyQ x w' B s hs hB' HSx.out (fun i f hi z hz=>she_c z.size z (Nat.le_refl _) (by have:=Nd.kids_le hi;have:=Nd.kids_le hz;have:=HSx.out;omega)))).mono ?_
  rintro e w2 ⟨b2,rfl,hk2,hp⟩
  have hk2:Kp No w w2:=((Kp.refl No w).alloc _).trans' hk2
  have hks:=hk2.size
  obtain ⟨n1,n2,n3⟩:=cell3 hk2 k5 k1 k2 k3
  have H2:=a2_ hk2 hp
  clear hk2 hp
  cases b2
  ·go_wp2_with fail
   go_ret
   exact says_no _ _ _ H2.out.1
  by_cases hyk:ky=⟨#[115,105,103,110,97,116,117,114,101]⟩
  ·subst hyk
   go_wp2_with fail
   refine (she_c _ (.mk ⟨#[115,105,103,110,97,116,117,114,101]⟩ ty ly) (Nat.le_refl _) HSy.out w2 B _ (Hy.out.stay fun b hb=>H2.out.1.block b (by omega) (by simp)) (by omega)).mono ?_
   rintro e w3 ⟨b3,rfl,hk3,hp3⟩
   have hk3:Kp No w w3:=H2.out.1.trans' hk3
   have hks3:=hk3.size
   obtain ⟨r1,r2,r3⟩:=cell3 hk3 m5 m1 m2 m3
   have H3:=a2_ hk3 hp3
   clear hk3 hp3
   cases b3
   ·go_wp2_with fail
    go_ret
    exact says_no _ _ _ H3.out.1
   go_wp2_with fail
   refine (miss_c z w3 B _ (Hz.out.stay fun b hb=>H3.out.1.block b (by omega) (by simp))).mono ?_
   rintro e w4 ⟨b4,rfl,hk4,hp4⟩
   have hk4:Kp No w w4:=H3.out.1.trans' hk4
   have hks4:=hk4.size
   obtain ⟨u1,u2,u3⟩:=cell3 hk4 m5 m1 m2 m3
   have H4:=a2_ hk4 hp4
   clear hk4 hp4
   cases b4
   ·obtain ⟨kz,tz,lz⟩:=z
    simp only [Nd.k,Nd.t,Nd.l] at u1 u2 u3
    clear g1 g2 g3 k1 k2 k3 m1 m2 m3 n1 n2 n3 r1 r2 r3
    by_cases hzk:kz=⟨#[98,111,100,121]⟩
    ·subst hzk
     by_cases hzl:lz.length=0
     ·obtain rfl:=List.eq_nil_of_length_eq_zero hzl
      clear hzl
      by_cases hzt:tz=⟨#[]⟩
      ·subst hzt
       go_wp2_with fail
       go_ret
       exact ⟨_,rfl,H4.out.1,fun _=>q_func (H2.out.2 (by trivial)) rfl (H3.out.2 (by trivial)) (.inr rfl)⟩
      ·obtain ⟨hzt,hzte⟩:=bs_ne2 hzt
       go_wp2_with fail
       go_ret
       exact says_no _ _ _ H4.out.1
     ·have d:((lz.length:Int) == 0)=false:=by rw [beq_eq_false_iff_ne];omega
      go_wp2_with fail
      go_ret
      exact says_no _ _ _ H4.out.1
    ·have hzk:=bs_bne hzk
     simp only at hzk
     go_wp2_with fail
     go_ret
     exact says_no _ _ _ H4.out.1
   ·go_wp2_with fail
    go_ret
    exact ⟨_,rfl,H4.out.1,fun _=>q_func (H2.out.2 (by trivial)) rfl (H3.out.2 (by trivial)) (.inl (H4.out.2.1 (by trivial)))⟩
  ·have hyk:=bs_bne hyk
   simp only at hyk
   go_wp2_with fail
   go_ret
   exact says_no _ _ _ H2.out.1
 ·have d:((l.length:Int) == 3)=false:=by rw [beq_eq_false_iff_ne];omega
  go_enter Tryz.func12,Tryz.ntmps12
  go_wp2_with fail
  go_ret
  exact says_no _ _ _ ((Kp.refl No w).alloc _)
theorem shdecl_c (n:Nd) (w:World) (B:Nat) (s:Value) (h:n.In w B s) (hB:B≤w.heap.size) (hn:n.size≤400) :
 Calls Tryz.prog 12 #[ndv n s] w (Says w (DeclQ n)):=by
 obtain ⟨k,t,l⟩:=n
 by_cases h0:k=⟨#[100,101,99,108,97,114,101,32,105,109,112,111,114,116]⟩
 ·subst h0
  exact shdecl_imp t l w B s h hB hn
 by_cases h1:k=⟨#[100,101,99,108,97,114,101,32,99,111,110,115,116]⟩
 ·subst h1
  exact shdecl_con t l w B s h hB hn
 by_cases h2:k=⟨#[100,101,99,108,97,114,101,32,118,97,114]⟩
 ·subst h2
  exact shdecl_var t l w B s h hB hn
 by_cases h3:k=⟨#[100,101,99,108,97,114,101,32,116,121,112,101]⟩
 ·subst h3
  exact shdecl_typ t l w B s h hB hn
 by_cases h4:k=⟨#[102,117,110,99]⟩
 ·subst h4
  exact shdecl_func t l w B s h hB hn
 obtain ⟨q,c,rfl,hc⟩:=h.form
 clear h
 have h0:=bs_bne h0
 have h1:=bs_bne h1
 have h2:=bs_bne h2
 have h3:=bs_bne h3
 have h4:=bs_bne h4
 simp only at h0 h1 h2 h3 h4
 show Calls _ _ #[.agg #[.string k,.string t,.slice q l.length c]] _ _
 go_enter Tryz.func12,Tryz.ntmps12
 go_wp2_with fail
 go_ret
 exact says_no _ _ _ ((Kp.refl No w).alloc _)
def ShapedQ (n:Nd):Prop:=∃ d:Dc,d.nd=n∧d.shp∧n.size≤400∧n.short
theorem wd_func (wd:Wd):wd.kind≠⟨#[102,117,110,99]⟩:=by cases wd <;> simp [Wd.kind]
theorem q_shaped {n:Nd} (h1:n.size≤400) (h2:n.short) (h3:DeclQ n) (h4:n.k=⟨#[102,117,110,99]⟩∨n.t=⟨#[103,114,111,117,112]⟩∨n.t=⟨#[]⟩∧n.l.length=1):ShapedQ n:=by
 rcases h3 with ⟨_,d,hd,hs⟩ | ⟨wd,its,hk,hl,hs⟩
 ·exact ⟨d,hd,hs,h1,h2⟩
 ·have hf:n.k≠⟨#[102,117,110,99]⟩:=by rw [hk];exact wd_func wd
  rcases h4 with h4 | h4 | ⟨h4,h5⟩
  ·exact absurd h4 hf
  ·refine ⟨.group wd 0 0 its 0,?_,hs,h1,h2⟩
   obtain ⟨k,t,l⟩:=n
   simp only [Nd.k,Nd.t,Nd.l] at hk hl h4
   subst hk;subst hl;subst h4
   rfl
  ·obtain ⟨x,hx⟩:∃ x,its=[x]:=by
    rw [hl,lm_] at h5
    match its,h5 with
    | [x],_=>exact ⟨x,rfl⟩
   subst hx
   refine ⟨.gen wd 0 x,?_,hs x (by simp),h1,h2⟩
   obtain ⟨k,t,l⟩:=n
   simp only [Nd.k,Nd.t,Nd.l] at hk hl h4
   subst hk;subst hl;subst h4
   rfl
theorem shaped_c (n:Nd) (w:World) (B:Nat) (s:Value) (h:n.In w B s) (hB:B≤w.heap.size) :
 Calls Tryz.prog 6 #[ndv n s] w (Says w (ShapedQ n)):=by
 have HI:=hd_ h
 obtain ⟨q,c,rfl,hc⟩:=h.form
 clear h
 go_enter Tryz.func6,Tryz.ntmps6
 go_wp2_with fail
 refine (few_c n _ B _ (HI.out.stay fun b hb=>Below.heap_alloc _ _ _ (by omega)) (by simp;omega)).mono ?_
 rintro e w2 ⟨b2,rfl,hk2,hp2⟩
 obtain ⟨x0,x1,x2⟩:=nbox hk2
 have hw2:=World.block_lt_of_cell? w2 _ x0
 have hk2:Kp No w w2:=((Kp.refl No w).alloc _).trans' hk2
 have hks2:=hk2.size
 have H2:=a2_ hk2 hp2
 clear hk2 hp2
 cases b2
 ·go_wp2_with fail
  go_ret
  exact says_no _ _ _ H2.out.1
 have h400:Hid (n.size≤400):=H2.out.2 (by trivial)
 go_wp2_with fail
 refine (short_c n.size n (Nat.le_refl _) h400.out w2 B _ (HI.out.stay fun b hb=>H2.out.1.block b (by omega) (by simp)) (by omega)).mono ?_
 rintro e w3 ⟨b3,rfl,hk3,hp3⟩
 have y0:=(hk3.cell hw2 (by simp)).trans x0
 have y1:=(hk3.cell hw2 (by simp)).trans x1
 have y2:=(hk3.cell hw2 (by simp)).trans x2
 have hw3:=World.block_lt_of_cell? w3 _ y0
 have hk3:Kp No w w3:=H2.out.1.trans' hk3
 have hks3:=hk3.size
 have H3:=a2_ hk3 hp3
 clear hk3 hp3
 cases b3
 ·go_wp2_with fail
  go_ret
  exact says_no _ _ _ H3.out.1
 go_wp2_with fail
 refine (shdecl_c n w3 B _ (HI.out.stay fun b hb=>H3.out.1.block b (by omega) (by simp)) (by omega) h400.out).mono ?_
 rintro e w4 ⟨b4,rfl,hk4,hp4⟩
 have z0:=(hk4.cell hw3 (by simp)).trans y0
 have z1:=(hk4.cell hw3 (by simp)).trans y1
 have z2:=(hk4.cell hw3 (by simp)).trans y2
 have hk4:Kp No w w4:=H3.out.1.trans' hk4
 have H4:=a2_ hk4 hp4
 clear hk4 hp4 x0 x1 x2 y0 y1 y2 hw2 hw3
 cases b4
 ·go_wp2_with fail
  go_ret
  exact says_no _ _ _ H4.out.1
 have HQ:Hid ((n.k=⟨#[102,117,110,99]⟩∨n.t=⟨#[103,114,111,117,112]⟩∨n.t=⟨#[]⟩∧n.l.length=1)→ShapedQ n):=q_shaped h400.out (H3.out.2 (by trivial)) (H4.out.2 (by trivial))
 obtain ⟨k,t,l⟩:=n
 simp only [Nd.k,Nd.t,Nd.l] at z0 z1 z2
 by_cases hk:k=⟨#[102,117,110,99]⟩
 ·subst hk
  go_wp2_with fail
  go_ret
  exact ⟨_,rfl,H4.out.1,fun _=>HQ.out (.inl rfl)⟩
 have hk:=bs_bne hk
 simp only at hk
 by_cases ht:t=⟨#[103,114,111,117,112]⟩
 ·subst ht
  go_wp2_with fail
  go_ret
  exact ⟨_,rfl,H4.out.1,fun _=>HQ.out (.inr (.inl rfl))⟩
 have ht:=bs_bne ht
 simp only at ht
 by_cases ht2:t=⟨#[]⟩
 ·subst ht2
  clear ht
  go_wp2_with fail
  go_ret
  exact ⟨_,rfl,H4.out.1,fun h=>HQ.out (.inr (.inr ⟨rfl,by simp at h;simp only [Nd.l];omega⟩))⟩
 obtain ⟨ht2,ht3⟩:=bs_ne2 ht2
 go_wp2_with fail
 go_ret
 exact says_no _ _ _ H4.out.1
end
section
open Go Go.RowKit
theorem gen_g {g at_:List Int} {e p f p0 n:Int} {wd:Wd} {it:It} {l:List It} (he:1≤e) (hn:1≤n∧n≤100) (hp:p=e+gapOf g at_.length) (h:ItsG (p+n) [it] l f) (hM:e+16777216*(Dc.gen wd p0 it).nd.size≤1125899906842624) :
 ∃ d',DcG g at_ e (.gen wd p0 it) d'∧d'.fin=f∧d'.toks=p::itsToks l∧d'.pre=⟨wd.kind,p,f⟩::itsPre l:=by
 have hl:=h.len
 obtain ⟨it',rfl⟩:∃ x,l=[x]:=by
  match l,hl with
  | [x],_=>exact ⟨x,rfl⟩
 have hgp:=gapOf_le g at_.length
 have h1:=h.le;have h2:=h.fin;have h3:=h.tk;have h4:=h.pl
 have hla:=h.last it' rfl
 have hnd:it'.nd=it.nd:=by simpa using h.nd
 have hok:=h.ok it' (by simp)
 have hns:=h.nest
 simp only [itsToks,itsPre,List.append_nil,List.map_cons,List.map_nil,Nd.sizeL,Nat.add_zero] at h2 h3 h4 hns ⊢
 simp only [Dc.nd,Nd.size,Nd.sizeL] at hM
 refine ⟨.gen wd p it',⟨?_,?_,hp,?_,?_,?_,?_,?_⟩,hla,rfl,by simp only [Dc.pre,hla]⟩
 ·simp only [Dc.nd,hnd]
 ·exact ⟨by constructor <;> omega,hok⟩
 ·simp only [Dc.pos,Dc.fin,hla];omega
 ·simp only [Dc.pos,Dc.fin,Dc.pre,hla];exact (hns.mono (by omega) (Int.le_refl _)).cons (by omega) _
 ·simp only [Dc.fin,hla,Dc.nd,Nd.size,Nd.sizeL];omega
 ·simp only [Dc.toks,lc_,Dc.nd,Nd.size,Nd.sizeL];omega
 ·simp only [Dc.pre,lc_,Dc.nd,Nd.size,Nd.sizeL];omega
theorem group_g {g at_:List Int} {e p o c f p0 o0 c0:Int} {wd:Wd} {its l:List It} (he:1≤e) (hp:p=e+gapOf g at_.length) (ho:p+1≤o) (ho2:o≤p+1100) (h:ItsG (o+1) its l f) (hc:f≤c) (hc2:c≤f+1000) (hM:e+16777216*(Dc.group wd p0 o0 its c0).nd.size≤1125899906842624) :
 DcG g at_ e (.group wd p0 o0 its c0) (.group wd p o l c):=by
 have hgp:=gapOf_le g at_.length
 have h1:=h.le;have h2:=h.fin;have h3:=h.tk;have h4:=h.pl
 simp only [Dc.nd,Nd.size] at hM
 refine ⟨?_,?_,hp,?_,?_,?_,?_,?_⟩
 ·simp only [Dc.nd,h.nd]
 ·exact ⟨by constructor <;> omega,by constructor <;> omega,h.ok,by constructor <;> omega⟩
 ·simp only [Dc.pos,Dc.fin];omega
 ·simp only [Dc.pos,Dc.fin,Dc.pre];exact (h.nest.mono (by omega) (by omega)).cons (by omega) _
 ·simp only [Dc.fin,Dc.nd,Nd.size];omega
 ·simp only [Dc.toks,lc_,la_,ln_,Dc.nd,Nd.size];omega
 ·simp only [Dc.pre,lc_,Dc.nd,Nd.size];omega
theorem dcc_gen (wd:Wd) (p0:Int) (it:It) (hi:ItC it):DcC (.gen wd p0 it):=by
 intro w B base pb g at_ e out s hp hin hB hb hs
 obtain ⟨q,c,rfl,hc⟩:=hin.form
 have hL:=Nd.In_iff.1 hin
 obtain ⟨b1,b2,b3,b4⟩:=hb
 have hM:=b2
 simp only [Dc.nd,Nd.size] at b2 b3 b4
 have hF:∀ d∈[it],ItC d:=by intro d hd;simp only [List.mem_singleton] at hd;subst hd;exact hi
 simp only [Dc.nd,Nd.short] at hs
 cases wd
 ·refine (node_impo [it] hF w B base pb g at_ e out q c hp hL hB b1 b2 b3 b4 hs.2).mono ?_
  rintro e' w' ⟨hv,p,l,f,hpq,hg,hp',hq⟩
  obtain ⟨d',k1,k2,k3,k4⟩:=gen_g (wd:=.imp) (p0:=p0) b1 (by decide) hpq hg hM
  refine ⟨hv,d',k1,?_,hq⟩
  rw [k2,k3,k4];exact hp'
 ·refine (node_cono [it] hF w B base pb g at_ e out q c hp hL hB b1 b2 b3 b4 hs.2).mono ?_
  rintro e' w' ⟨hv,p,l,f,hpq,hg,hp',hq⟩
  obtain ⟨d',k1,k2,k3,k4⟩:=gen_g (wd:=.con) (p0:=p0) b1 (by decide) hpq hg hM
  refine ⟨hv,d',k1,?_,hq⟩
  rw [k2,k3,k4];exact hp'
 ·refine (node_varo [it] hF w B base pb g at_ e out q c hp hL hB b1 b2 b3 b4 hs.2).mono ?_
  rintro e' w' ⟨hv,p,l,f,hpq,hg,hp',hq⟩
  obtain ⟨d',k1,k2,k3,k4⟩:=gen_g (wd:=.var) (p0:=p0) b1 (by decide) hpq hg hM
  refine ⟨hv,d',k1,?_,hq⟩
  rw [k2,k3,k4];exact hp'
 ·refine (node_typo [it] hF w B base pb g at_ e out q c hp hL hB b1 b2 b3 b4 hs.2).mono ?_
  rintro e' w' ⟨hv,p,l,f,hpq,hg,hp',hq⟩
  obtain ⟨d',k1,k2,k3,k4⟩:=gen_g (wd:=.typ) (p0:=p0) b1 (by decide) hpq hg hM
  refine ⟨hv,d',k1,?_,hq⟩
  rw [k2,k3,k4];exact hp'
theorem dcc_group (wd:Wd) (p0 o0:Int) (its:List It) (c0:Int) (hF:∀ d∈its,ItC d):DcC (.group wd p0 o0 its c0):=by
 intro w B base pb g at_ e out s hp hin hB hb hs
 obtain ⟨q,c,rfl,hc⟩:=hin.form
 have hL:=Nd.In_iff.1 hin
 have hln:(Dc.group wd p0 o0 its c0).nd.l.length=its.length:=by simp only [Dc.nd,Nd.l,lm_]
 rw [hln] at hL ⊢
 obtain ⟨b1,b2,b3,b4⟩:=hb
 have hM:=b2
 simp only [Dc.nd,Nd.size] at b2 b3 b4
 simp only [Dc.nd,Nd.short] at hs
 cases wd
 ·refine (node_impg its hF w B base pb g at_ e out q c hp hL hB b1 b2 b3 b4 hs.2).mono ?_
  rintro e' w' ⟨hv,p,o,l,f,cc,hpq,ho,ho2,hg,hc1,hc2,hp',hq⟩
  exact ⟨hv,_,group_g (wd:=.imp) (p0:=p0) (o0:=o0) (c0:=c0) b1 hpq ho ho2 hg hc1 hc2 hM,hp',hq⟩
 ·refine (node_cong its hF w B base pb g at_ e out q c hp hL hB b1 b2 b3 b4 hs.2).mono ?_
  rintro e' w' ⟨hv,p,o,l,f,cc,hpq,ho,ho2,hg,hc1,hc2,hp',hq⟩
  exact ⟨hv,_,group_g (wd:=.con) (p0:=p0) (o0:=o0) (c0:=c0) b1 hpq ho ho2 hg hc1 hc2 hM,hp',hq⟩
 ·refine (node_varg its hF w B base pb g at_ e out q c hp hL hB b1 b2 b3 b4 hs.2).mono ?_
  rintro e' w' ⟨hv,p,o,l,f,cc,hpq,ho,ho2,hg,hc1,hc2,hp',hq⟩
  exact ⟨hv,_,group_g (wd:=.var) (p0:=p0) (o0:=o0) (c0:=c0) b1 hpq ho ho2 hg hc1 hc2 hM,hp',hq⟩
 ·refine (node_typg its hF w B base pb g at_ e out q c hp hL hB b1 b2 b3 b4 hs.2).mono ?_
  rintro e' w' ⟨hv,p,o,l,f,cc,hpq,ho,ho2,hg,hc1,hc2,hp',hq⟩
  exact ⟨hv,_,group_g (wd:=.typ) (p0:=p0) (o0:=o0) (c0:=c0) b1 hpq ho ho2 hg hc1 hc2 hM,hp',hq⟩
theorem its_size:∀ (its:List It),∀ it∈its,it.nd.size≤Nd.sizeL (its.map It.nd)
 | [],_,h=>by simp at h
 | x::l,it,h=>by
  simp only [List.map_cons,Nd.sizeL]
  rcases List.mem_cons.1 h with rfl | h
  ·omega
  ·have:=its_size l it h;omega
theorem dc_c (d:Dc) (h:d.shp) (hn:d.nd.size≤400):DcC d:=by
 cases d with
 | gen wd p it =>
  simp only [Dc.nd,Nd.size,Nd.sizeL] at hn
  exact dcc_gen wd p it (it_c it h (by omega))
 | group wd p o its c =>
  simp only [Dc.nd,Nd.size] at hn
  exact dcc_group wd p o its c fun it hi=>it_c it (h it hi) (by have:=its_size its it hi;omega)
 | func p rv np s o ps c b o' rs c' bd =>
  obtain ⟨h1,h2⟩:=h
  simp only [Ty.shp] at h2
  have hps:=fl_c ps true false h2.1
  have hrs:b=true→FlC rs true false:=by
   intro hb
   subst hb
   exact fl_c rs true false (by simpa using h2.2)
  rcases rv with _ | ⟨ro,rf,rc⟩ <;> rcases bd with _ | ⟨bo,bc⟩
  ·exact dc_funcnn p np s o ps c b o' rs c' hps hrs
  ·exact dc_funcns p np s o ps c b o' rs c' bo bc hps hrs
  ·exact dc_funcsn p ro rf rc (fl_c rf true false (h1 _ _ _ rfl)) np s o ps c b o' rs c' hps hrs
  ·exact dc_funcss p ro rf rc (fl_c rf true false (h1 _ _ _ rfl)) np s o ps c b o' rs c' bo bc hps hrs
end
section
open Go Go.RowKit
theorem splaces_c (d:Dc) (hd:DcC d) (w:World) (B:Nat) (s gv:Value) (g:List Int) (hin:d.nd.In w B s) (hB:B≤w.heap.size) (hg:Ints w w.heap.size gv g) (hsz:d.nd.size≤400) (hs:d.nd.short) :
 Calls Tryz.prog 7 #[ndv d.nd s,gv] w fun e w'=>∃ d' av ov,e=.returned (.tuple #[av,ov])∧DcG g [] 1 d d'∧Row w' (Fr w.heap.size) 3 av (d'.toks.map fun q=>.int .i64 q)∧PlRow w' w.heap.size ov d'.pre∧Kp No w w':=by
 obtain ⟨q,c,rfl,hc⟩:=hin.form
 have HG:=hd_ hg
 obtain ⟨gp,gc,rfl,hgc,_⟩:=hg
 have HIN:=hd_ hin;have HD:=hd_ hd;have HS:=hd_ hs;have HSZ:=hd_ hsz
 clear hin hd hs hsz hc hgc
 go_enter Tryz.func7,Tryz.ntmps7
 have hk0:Kp No w ((w.alloc (.cells #[.string d.nd.k,.string d.nd.t,.slice q d.nd.l.length c] 24 (0,0))).alloc (.cells #[.slice gp g.length gc,.slice none 0 0,.int .i64 1,.slice none 0 0] 37 (0,0))):=((Kp.refl No w).alloc _).alloc _
 have hx1:((w.alloc (.cells #[.string d.nd.k,.string d.nd.t,.slice q d.nd.l.length c] 24 (0,0))).alloc (.cells #[.slice gp g.length gc,.slice none 0 0,.int .i64 1,.slice none 0 0] 37 (0,0))).heap[w.heap.size+1]?=some (.cells #[.slice gp g.length gc,.slice none 0 0,.int .i64 1,.slice none 0 0] 37 (0,0)):=by
  simpa using newOf (w.alloc (.cells #[.string d.nd.k,.string d.nd.t,.slice q d.nd.l.length c] 24 (0,0))) (.cells #[.slice gp g.length gc,.slice none 0 0,.int .i64 1,.slice none 0 0] 37 (0,0))
 have HK:=a2_ hk0 hx1
 clear hk0 hx1
 go_wp2_with fail
 refine (HD.out _ B w.heap.size (w.heap.size+1) g [] 1 [] (.slice q d.nd.l.length c) ⟨_,_,_,HK.out.2,HG.out.stay fun b hb=>HK.out.1.block b hb (by simp),.inl ⟨rfl,rfl⟩,PlRow.nil _ _,by omega,HK.out.1.size⟩ (HIN.out.stay fun b hb=>HK.out.1.block b (by omega) (by simp)) hB ?_ HS.out).mono ?_
 ·have:=HSZ.out
  unfold Bnd
  simp only [ln_]
  refine ⟨by omega,by omega,by omega,by omega⟩
 rintro e1 w1 ⟨⟨v1,rfl⟩,d',hdg,hp,hq⟩
 obtain ⟨gv2,av,ov,hp1,hp2,hp3,hp4,hp5,hp6⟩:=hp
 have c1:w1.cell? ⟨w.heap.size+1,1,none⟩=some av:=cO hp1 1 _ rfl
 have c3:w1.cell? ⟨w.heap.size+1,3,none⟩=some ov:=cO hp1 3 _ rfl
 have hk:Kp No w w1:=⟨hq.kp.os.trans HK.out.1.os,hq.kp.tape.trans HK.out.1.tape,hq.kp.output.trans HK.out.1.output,Nat.le_trans HK.out.1.size hq.kp.size,fun k hk _=>(hq.kp.block k (by have:=HK.out.1.size;omega) (by simp only [Fr];omega)).trans (HK.out.1.block k hk (by simp))⟩
 have H1:=a4_ hdg hp3 hp4 hk
 clear hdg hp2 hp3 hp4 hk hq
 go_wp2_with fail
 go_region_held3 (fun w'=>w'.cell? ⟨w.heap.size+1,1,none⟩=some av∧w'.cell? ⟨w.heap.size+1,3,none⟩=some ov)
  (first | (go_keep;done))
  (fail)
 go_wp2_with fail
 go_ret2
 refine ⟨d',av,ov,rfl,H1.out.1,?_,?_,H1.out.2.2.2.drew⟩
 ·exact H1.out.2.1.stay fun b hb hF=>⟨rfl,hF⟩
 ·exact H1.out.2.2.1
end
end Go.Proofs.YtnkbglhdpmbgfaaGreatFmt
