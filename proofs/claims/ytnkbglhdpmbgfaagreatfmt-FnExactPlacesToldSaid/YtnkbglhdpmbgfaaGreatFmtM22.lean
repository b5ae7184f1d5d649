/- A part of the proof; no condition: WalkC, WalkE, Walk, Round, Pre. -/
import Derived.Test.YtnkbglhdpmbgfaaGreatFmtM
import Derived.Test.YtnkbglhdpmbgfaaGreatFmtM21
import Derived.OrdersIn
import Derived.RegionIn
import Derived.RangeFuncIn
import Derived.RangeFuncRecord
import Derived.TacticsIn
set_option linter.all false
set_option maxHeartbeats 16000000
set_option maxRecDepth 100000
namespace Go.Proofs.YtnkbglhdpmbgfaaGreatFmt
section
open Go Go.RowKit
theorem walk_fl (o:Int) (f:Fs) (c:Int) (hf:∀ d∈f.fds,WalkP (.fd d)):WalkP (.fl o f c):=by
 intro cap F S Inv hV w l u hI h hok hN
 have HLEN:=hd_ hN;clear hN
 have hself:=h
 obtain ⟨s,us,⟨b0,rfl,hF0,hb⟩,hr,hat⟩:=h
 rw [Fs.at_fds] at hat
 have hul:=hat.length
 obtain ⟨sp,sc,rfl⟩:=hr.form
 have HR:=hd_ hr;have HA:=hd_ (FdsAt.lat _ _ hat)
 have hlen:us.length≤400:=by have h1:=hok.2.2.2;rw [Fs.nds_fds] at h1;have:=Nd.sizeL_length (f.fds.map Fd.nd);simp at this;omega
 have hoks:Hid (∀ x∈f.fds.map Th.fd,WalkP x∧x.ok∧x.ty'=92):=by
  intro x hx
  obtain ⟨d,hd,rfl⟩:=List.mem_map.1 hx
  obtain ⟨_,_,⟨m,hm⟩,hs⟩:=hok
  rw [Fs.ok_fds] at hm
  rw [Fs.nds_fds] at hs
  obtain ⟨_,h2,h3,h4,h5⟩:=hm d hd
  exact ⟨hf d hd,⟨⟨h2,⟨_,h3⟩,h4,h5⟩,Nat.le_trans (Nd.sizeL_mem (List.mem_map_of_mem (f:=Fd.nd) hd)) hs⟩,rfl⟩
 clear hr hat hf hul
 have lb:=ltb hb
 have c1:=cO hb 1 _ rfl
 have ha:=hV.apart
 have nS:¬ S b0:=hV.apart b0 hF0
 have HV:=hd_ hV;have HSELF:=hd_ hself;have HI:=hd_ hI;have HOK:=hd_ hok
 clear hV hself hI hok hb
 have nv:=nv_Visit;have mv:=mv_Visit
 simp only [Th.ty',Ty.ty,It.ty,Dc.ty]
 go_enter Tryz.func57,Tryz.ntmps57
 go_wp2_with fail
 refine (HV.out.node w l (.fl o f c) (.pointer (some ⟨b0,0,none⟩)) HI.out HSELF.out HOK.out (by have hN:=HLEN.out;simp only [Th.pre,Ty.pre,It.pre,Dc.pre,tyPre,rvPre,bdPre,tagPl,itsPre,thsPre_nms,thsPre_fds,thsPre_vls,thsPre_its,la_,lc_,ln_,lm_,if_true,Bool.false_eq_true,if_false] at hN ⊢;omega)).mono ?_
 rintro e w1 ⟨rfl,hI1,hK1⟩
 have ks1:Kp S w w1:=hK1
 have d1_1:=(ks1.cell lb nS).trans c1
 have lb1:b0 < w1.heap.size:=Nat.lt_of_lt_of_le lb ks1.size
 have HI1:=hd_ hI1;have HK1:=hd_ ks1;clear hI1 hK1 ks1
 go_wp2_with fail
 refine (wlfd_c (f.fds.map Th.fd) hoks.out cap F S Inv HV.out w1 _ (.slice sp us.length sc) us (HR.out.on HK1.out ha) (HA.out.pton HK1.out ha) HI1.out hlen (by have hN:=HLEN.out;simp only [Th.pre,Ty.pre,It.pre,Dc.pre,tyPre,rvPre,bdPre,tagPl,itsPre,thsPre_nms,thsPre_fds,thsPre_vls,thsPre_its,la_,lc_,ln_,lm_,if_true,Bool.false_eq_true,if_false] at hN ⊢;omega)).mono ?_
 rintro e w2 ⟨⟨v2,rfl⟩,hI2,hK2⟩
 have ks2:Kp S w w2:=HK1.out.trans' hK2
 have d2_1:=(ks2.cell lb nS).trans c1
 have lb2:b0 < w2.heap.size:=Nat.lt_of_lt_of_le lb ks2.size
 have HI2:=hd_ hI2;have HK2:=hd_ ks2;clear hI2 hK2 ks2
 go_wp2_with fail
 refine (HV.out.nil w2 _ HI2.out).mono ?_
 rintro e w3 ⟨⟨vn,rfl⟩,hI3,hK3⟩
 have ks3:Kp S w w3:=HK2.out.trans' hK3
 have d3_1:=(ks3.cell lb nS).trans c1
 have lb3:b0 < w3.heap.size:=Nat.lt_of_lt_of_le lb ks3.size
 have HI3:=hd_ hI3;have HK3:=hd_ ks3;clear hI3 hK3 ks3
 go_wp2_with fail
 refine bodyPost_end (v:=.tuple #[]) (by simp [results,Tryz.results57,go_sem]) rfl ⟨⟨_,rfl⟩,?_,HK3.out⟩
 have hfin:=HI3.out
 try simp only [aa_] at hfin
 rw [thsPre_fds] at hfin
 simpa [Th.pre,Th.pl,Th.kind,Th.pos,Th.fin,Ty.pre,Ty.kind,Ty.pos,Ty.fin] using hfin
theorem walk_fdx (d:Fd) (hx:WalkP (.ty d.t)) (ht:d.tag.size=0):WalkP (.fd d):=by
 intro cap F S Inv hV w l u hI h hok hN
 have HLEN:=hd_ hN;clear hN
 have hself:=h
 obtain ⟨s,us,v,g,⟨b0,rfl,hF0,hb⟩,hr,hn,hat,hg⟩:=h
 rw [if_pos ht] at hg
 subst hg
 have hul:=hn.length
 obtain ⟨sp,sc,rfl⟩:=hr.form
 obtain ⟨vb,rfl⟩:=hat.ptr
 have HAT:=hd_ hat;clear hat
 have HX:=hd_ hx;clear hx
 have HR:=hd_ hr;have HN:=hd_ (NmsAt.lat _ _ hn)
 have hlen:us.length≤400:=by have h1:=hok.2;have:=Nd.sizeL_length (d.ns.map Nm.nd);simp only [Fd.nd,fdNd,Nd.size,Nd.sizeL,lm_] at h1 this;omega
 have hoks:Hid (∀ x∈d.ns.map nmTh,WalkP x∧x.ok∧x.ty'=70):=by
  intro x hx
  obtain ⟨n,hn,rfl⟩:=List.mem_map.1 hx
  exact ⟨walk_name n.p n.s,nmTh_ok (hok.1.1 n hn),rfl⟩
 have hokx:(Th.ty d.t).ok:=⟨hok.1.2.1,by have h1:=hok.2;simp only [Fd.nd,fdNd,Nd.size,Nd.sizeL] at h1;omega⟩
 clear hr hn hul
 have lb:=ltb hb
 have c0:=cO hb 0 _ rfl
 have c1:=cO hb 1 _ rfl
 have c2:=cO hb 2 _ rfl
 have c3:=cO hb 3 _ rfl
 have c4:=cO hb 4 _ rfl
 have ha:=hV.apart
 have nS:¬ S b0:=hV.apart b0 hF0
 have HV:=hd_ hV;have HSELF:=hd_ hself;have HI:=hd_ hI;have HOK:=hd_ hok
 clear hV hself hI hok hb
 have nv:=nv_Visit;have mv:=mv_Visit
 simp only [Th.ty',Ty.ty,It.ty,Dc.ty]
 go_enter Tryz.func57,Tryz.ntmps57
 go_wp2_with fail
 refine (HV.out.node w l (.fd d) (.pointer (some ⟨b0,0,none⟩)) HI.out HSELF.out HOK.out (by have hN:=HLEN.out;simp only [Th.pre,Ty.pre,It.pre,Dc.pre,tyPre,rvPre,bdPre,tagPl,itsPre,thsPre_nms,thsPre_fds,thsPre_vls,thsPre_its,la_,lc_,ln_,lm_,if_pos ht,if_true,Bool.false_eq_true,if_false] at hN ⊢;omega)).mono ?_
 rintro e w1 ⟨rfl,hI1,hK1⟩
 have ks1:Kp S w w1:=hK1
 have d1_0:=(ks1.cell lb nS).trans c0
 have d1_1:=(ks1.cell lb nS).trans c1
 have d1_2:=(ks1.cell lb nS).trans c2
 have d1_3:=(ks1.cell lb nS).trans c3
 have d1_4:=(ks1.cell lb nS).trans c4
 have lb1:b0 < w1.heap.size:=Nat.lt_of_lt_of_le lb ks1.size
 have HI1:=hd_ hI1;have HK1:=hd_ ks1;clear hI1 hK1 ks1
 go_wp2_with fail
 refine (wlid_c (d.ns.map nmTh) hoks.out cap F S Inv HV.out w1 _ (.slice sp us.length sc) us (HR.out.on HK1.out ha) (HN.out.pton HK1.out ha) HI1.out hlen (by have hN:=HLEN.out;simp only [Th.pre,Ty.pre,It.pre,Dc.pre,tyPre,rvPre,bdPre,tagPl,itsPre,thsPre_nms,thsPre_fds,thsPre_vls,thsPre_its,la_,lc_,ln_,lm_,if_pos ht,if_true,Bool.false_eq_true,if_false] at hN ⊢;omega)).mono ?_
 rintro e w2 ⟨⟨v2,rfl⟩,hI2,hK2⟩
 have ks2:Kp S w w2:=HK1.out.trans' hK2
 have d2_0:=(ks2.cell lb nS).trans c0
 have d2_1:=(ks2.cell lb nS).trans c1
 have d2_2:=(ks2.cell lb nS).trans c2
 have d2_3:=(ks2.cell lb nS).trans c3
 have d2_4:=(ks2.cell lb nS).trans c4
 have lb2:b0 < w2.heap.size:=Nat.lt_of_lt_of_le lb ks2.size
 have HI2:=hd_ hI2;have HK2:=hd_ ks2;clear hI2 hK2 ks2
 go_wp2_with fail
 refine (HX.out cap F S Inv HV.out w2 _ (.pointer (some ⟨vb,0,none⟩)) HI2.out (Th.At.on (show Th.At w F (.ty d.t) _ from HAT.out) HK2.out ha) hokx (by have hN:=HLEN.out;simp only [Th.pre,Ty.pre,It.pre,Dc.pre,tyPre,rvPre,bdPre,tagPl,itsPre,thsPre_nms,thsPre_fds,thsPre_vls,thsPre_its,la_,lc_,ln_,lm_,if_pos ht,if_true,Bool.false_eq_true,if_false] at hN ⊢;omega)).mono ?_
 rintro e w3 ⟨⟨v3,rfl⟩,hI3,hK3⟩
 have ks3:Kp S w w3:=HK2.out.trans' hK3
 have d3_0:=(ks3.cell lb nS).trans c0
 have d3_1:=(ks3.cell lb nS).trans c1
 have d3_2:=(ks3.cell lb nS).trans c2
 have d3_3:=(ks3.cell lb nS).trans c3
 have d3_4:=(ks3.cell lb nS).trans c4
 have lb3:b0 < w3.heap.size:=Nat.lt_of_lt_of_le lb ks3.size
 have HI3:=hd_ hI3;have HK3:=hd_ ks3;clear hI3 hK3 ks3
 go_wp2_with fail
 refine (HV.out.nil w3 _ HI3.out).mono ?_
 rintro e w4 ⟨⟨vn,rfl⟩,hI4,hK4⟩
 have ks4:Kp S w w4:=HK3.out.trans' hK4
 have d4_0:=(ks4.cell lb nS).trans c0
 have d4_1:=(ks4.cell lb nS).trans c1
 have d4_2:=(ks4.cell lb nS).trans c2
 have d4_3:=(ks4.cell lb nS).trans c3
 have d4_4:=(ks4.cell lb nS).trans c4
 have lb4:b0 < w4.heap.size:=Nat.lt_of_lt_of_le lb ks4.size
 have HI4:=hd_ hI4;have HK4:=hd_ ks4;clear hI4 hK4 ks4
 go_wp2_with fail
 refine bodyPost_end (v:=.tuple #[]) (by simp [results,Tryz.results57,go_sem]) rfl ⟨⟨_,rfl⟩,?_,HK4.out⟩
 have hfin:=HI4.out
 try simp only [aa_] at hfin
 rw [thsPre_nms] at hfin
 simp only [Th.pre,tagPl]
 rw [if_pos ht]
 simpa [Th.pre,Th.pl,Th.kind,Th.pos,Th.fin,Ty.pre,Ty.kind,Ty.pos,Ty.fin] using hfin
theorem walk_fdt (d:Fd) (hx:WalkP (.ty d.t)) (ht:d.tag.size≠0):WalkP (.fd d):=by
 intro cap F S Inv hV w l u hI h hok hN
 have HLEN:=hd_ hN;clear hN
 have hself:=h
 obtain ⟨s,us,v,g,⟨b0,rfl,hF0,hb⟩,hr,hn,hat,hg⟩:=h
 rw [if_neg ht] at hg
 have hul:=hn.length
 obtain ⟨sp,sc,rfl⟩:=hr.form
 obtain ⟨vb,rfl⟩:=hat.ptr
 have HAT:=hd_ hat;clear hat
 have HX:=hd_ hx;clear hx
 have HR:=hd_ hr;have HN:=hd_ (NmsAt.lat _ _ hn)
 have hlen:us.length≤400:=by have h1:=hok.2;have:=Nd.sizeL_length (d.ns.map Nm.nd);simp only [Fd.nd,fdNd,Nd.size,Nd.sizeL,lm_] at h1 this;omega
 have hoks:Hid (∀ x∈d.ns.map nmTh,WalkP x∧x.ok∧x.ty'=70):=by
  intro x hx
  obtain ⟨n,hn,rfl⟩:=List.mem_map.1 hx
  exact ⟨walk_name n.p n.s,nmTh_ok (hok.1.1 n hn),rfl⟩
 have hokx:(Th.ty d.t).ok:=⟨hok.1.2.1,by have h1:=hok.2;simp only [Fd.nd,fdNd,Nd.size,Nd.sizeL] at h1;omega⟩
 obtain ⟨gb,rfl⟩:=hg.ptr
 have HG:Hid (Th.At w F (.ty (.lit d.tp d.tag)) (.pointer (some ⟨gb,0,none⟩))):=hg;clear hg
 have hokg:(Th.ty (.lit d.tp d.tag)).ok:=⟨⟨false,by simp only [Ty.ok];exact ⟨trivial,hok.1.2.2.1,hok.1.2.2.2⟩⟩,by simp [Ty.nd,Nd.lit,Nd.size,Nd.sizeL]⟩
 clear hr hn hul
 have lb:=ltb hb
 have c0:=cO hb 0 _ rfl
 have c1:=cO hb 1 _ rfl
 have c2:=cO hb 2 _ rfl
 have c3:=cO hb 3 _ rfl
 have c4:=cO hb 4 _ rfl
 have ha:=hV.apart
 have nS:¬ S b0:=hV.apart b0 hF0
 have HV:=hd_ hV;have HSELF:=hd_ hself;have HI:=hd_ hI;have HOK:=hd_ hok
 clear hV hself hI hok hb
 have nv:=nv_Visit;have mv:=mv_Visit
 simp only [Th.ty',Ty.ty,It.ty,Dc.ty]
 go_enter Tryz.func57,Tryz.ntmps57
 go_wp2_with fail
 refine (HV.out.node w l (.fd d) (.pointer (some ⟨b0,0,none⟩)) HI.out HSELF.out HOK.out (by have hN:=HLEN.out;simp only [Th.pre,Ty.pre,It.pre,Dc.pre,tyPre,rvPre,bdPre,tagPl,itsPre,thsPre_nms,thsPre_fds,thsPre_vls,thsPre_its,la_,lc_,ln_,lm_,if_neg ht,if_true,Bool.false_eq_true,if_false] at hN ⊢;omega)).mono ?_
 rintro e w1 ⟨rfl,hI1,hK1⟩
 have ks1:Kp S w w1:=hK1
 have d1_0:=(ks1.cell lb nS).trans c0
 have d1_1:=(ks1.cell lb nS).trans c1
 have d1_2:=(ks1.cell lb nS).trans c2
 have d1_3:=(ks1.cell lb nS).trans c3
 have d1_4:=(ks1.cell lb nS).trans c4
 have lb1:b0 < w1.heap.size:=Nat.lt_of_lt_of_le lb ks1.size
 have HI1:=hd_ hI1;have HK1:=hd_ ks1;clear hI1 hK1 ks1
 go_wp2_with fail
 refine (wlid_c (d.ns.map nmTh) hoks.out cap F S Inv HV.out w1 _ (.slice sp us.length sc) us (HR.out.on HK1.out ha) (HN.out.pton HK1.out ha) HI1.out hlen (by have hN:=HLEN.out;simp only [Th.pre,Ty.pre,It.pre,Dc.pre,tyPre,rvPre,bdPre,tagPl,itsPre,thsPre_nms,thsPre_fds,thsPre_vls,thsPre_its,la_,lc_,ln_,lm_,if_neg ht,if_true,Bool.false_eq_true,if_false] at hN ⊢;omega)).mono ?_
 rintro e w2 ⟨⟨v2,rfl⟩,hI2,hK2⟩
 have ks2:Kp S w w2:=HK1.out.trans' hK2
 have d2_0:=(ks2.cell lb nS).trans c0
 have d2_1:=(ks2.cell lb nS).trans c1
 have d2_2:=(ks2.cell lb nS).trans c2
 have d2_3:=(ks2.cell lb nS).trans c3
 have d2_4:=(ks2.cell lb nS).trans c4
 have lb2:b0 < w2.heap.size:=Nat.lt_of_lt_of_le lb ks2.size
 have HI2:=hd_ hI2;have HK2:=hd_ ks2;clear hI2 hK2 ks2
 go_wp2_with fail
 refine (HX.out cap F S Inv HV.out w2 _ (.pointer (some ⟨vb,0,none⟩)) HI2.out (Th.At.on (show Th.At w F (.ty d.t) _ from HAT.out) HK2.out ha) hokx (by have hN:=HLEN.out;simp only [Th.pre,Ty.pre,It.pre,Dc.pre,tyPre,rvPre,bdPre,tagPl,itsPre,thsPre_nms,thsPre_fds,thsPre_vls,thsPre_its,la_,lc_,ln_,lm_,if_neg ht,if_true,Bool.false_eq_true,if_false] at hN ⊢;omega)).mono ?_
 rintro e w3 ⟨⟨v3,rfl⟩,hI3,hK3⟩
 have ks3:Kp S w w3:=HK2.out.trans' hK3
 have d3_0:=(ks3.cell lb nS).trans c0
 have d3_1:=(ks3.cell lb nS).trans c1
 have d3_2:=(ks3.cell lb nS).trans c2
 have d3_3:=(ks3.cell lb nS).trans c3
 have d3_4:=(ks3.cell lb nS).trans c4
 have lb3:b0 < w3.heap.size:=Nat.lt_of_lt_of_le lb ks3.size
 have HI3:=hd_ hI3;have HK3:=hd_ ks3;clear hI3 hK3 ks3
 go_wp2_with fail
 refine (walk_lit d.tp d.tag cap F S Inv HV.out w3 _ (.pointer (some ⟨gb,0,none⟩)) HI3.out (Th.At.on HG.out HK3.out ha) hokg (by have hN:=HLEN.out;simp only [Th.pre,Ty.pre,It.pre,Dc.pre,tyPre,rvPre,bdPre,tagPl,itsPre,thsPre_nms,thsPre_fds,thsPre_vls,thsPre_its,la_,lc_,ln_,lm_,if_neg ht,if_true,Bool.false_eq_true,if_false] at hN ⊢;omega)).mono ?_
 rintro e w4 ⟨⟨v4,rfl⟩,hI4,hK4⟩
 have ks4:Kp S w w4:=HK3.out.trans' hK4
 have d4_0:=(ks4.cell lb nS).trans c0
 have d4_1:=(ks4.cell lb nS).trans c1
 have d4_2:=(ks4.cell lb nS).trans c2
 have d4_3:=(ks4.cell lb nS).trans c3
 have d4_4:=(ks4.cell lb nS).trans c4
 have lb4:b0 < w4.heap.size:=Nat.lt_of_lt_of_le lb ks4.size
 have HI4:=hd_ hI4;have HK4:=hd_ ks4;clear hI4 hK4 ks4
 go_wp2_with fail
 refine (HV.out.nil w4 _ HI4.out).mono ?_
 rintro e w5 ⟨⟨vn,rfl⟩,hI5,hK5⟩
 have ks5:Kp S w w5:=HK4.out.trans' hK5
 have d5_0:=(ks5.cell lb nS).trans c0
 have d5_1:=(ks5.cell lb nS).trans c1
 have d5_2:=(ks5.cell lb nS).trans c2
 have d5_3:=(ks5.cell lb nS).trans c3
 have d5_4:=(ks5.cell lb nS).trans c4
 have lb5:b0 < w5.heap.size:=Nat.lt_of_lt_of_le lb ks5.size
 have HI5:=hd_ hI5;have HK5:=hd_ ks5;clear hI5 hK5 ks5
 go_wp2_with fail
 refine bodyPost_end (v:=.tuple #[]) (by simp [results,Tryz.results57,go_sem]) rfl ⟨⟨_,rfl⟩,?_,HK5.out⟩
 have hfin:=HI5.out
 try simp only [aa_] at hfin
 rw [thsPre_nms] at hfin
 simp only [Th.pre,tagPl]
 rw [if_neg ht]
 simpa [Th.pre,Th.pl,Th.kind,Th.pos,Th.fin,Ty.pre,Ty.kind,Ty.pos,Ty.fin] using hfin
theorem walk_bd (o c:Int) :WalkP (.bd o c):=by
 intro cap F S Inv hV w l u hI h hok hN
 have HLEN:=hd_ hN;clear hN
 have hself:=h
 obtain ⟨b0,rfl,hF0,hb⟩:=h
 have lb:=ltb hb
 have c1:=cO hb 1 _ rfl
 have ha:=hV.apart
 have nS:¬ S b0:=hV.apart b0 hF0
 have HV:=hd_ hV;have HSELF:=hd_ hself;have HI:=hd_ hI;have HOK:=hd_ hok
 clear hV hself hI hok hb
 have nv:=nv_Visit;have mv:=mv_Visit
 simp only [Th.ty',Ty.ty,It.ty,Dc.ty]
 go_enter Tryz.func57,Tryz.ntmps57
 go_wp2_with fail
 refine (HV.out.node w l (.bd o c) (.pointer (some ⟨b0,0,none⟩)) HI.out HSELF.out HOK.out (by have hN:=HLEN.out;simp only [Th.pre,Ty.pre,It.pre,Dc.pre,tyPre,rvPre,bdPre,tagPl,itsPre,thsPre_nms,thsPre_fds,thsPre_vls,thsPre_its,la_,lc_,ln_,lm_,if_true,Bool.false_eq_true,if_false] at hN ⊢;omega)).mono ?_
 rintro e w1 ⟨rfl,hI1,hK1⟩
 have ks1:Kp S w w1:=hK1
 have d1_1:=(ks1.cell lb nS).trans c1
 have lb1:b0 < w1.heap.size:=Nat.lt_of_lt_of_le lb ks1.size
 have HI1:=hd_ hI1;have HK1:=hd_ ks1;clear hI1 hK1 ks1
 go_wp2_with fail
 refine (wlst_c cap w1).mono ?_
 rintro e wq ⟨⟨vq,rfl⟩,hwq⟩
 rw [hwq]
 clear hwq wq
 go_wp2_with fail
 refine (HV.out.nil w1 _ HI1.out).mono ?_
 rintro e w2 ⟨⟨vn,rfl⟩,hI2,hK2⟩
 have ks2:Kp S w w2:=HK1.out.trans' hK2
 have d2_1:=(ks2.cell lb nS).trans c1
 have lb2:b0 < w2.heap.size:=Nat.lt_of_lt_of_le lb ks2.size
 have HI2:=hd_ hI2;have HK2:=hd_ ks2;clear hI2 hK2 ks2
 go_wp2_with fail
 refine bodyPost_end (v:=.tuple #[]) (by simp [results,Tryz.results57,go_sem]) rfl ⟨⟨_,rfl⟩,?_,HK2.out⟩
 have hfin:=HI2.out
 try simp only [aa_] at hfin
 simpa [Th.pre,Th.pl,Th.kind,Th.pos,Th.fin,Ty.pre,Ty.kind,Ty.pos,Ty.fin] using hfin
end
section
open Go Go.RowKit
theorem walk_gen (wd:Wd) (p:Int) (it:It) (hvs:∀ v∈[it],WalkP (.it v)):WalkP (.dc (.gen wd p it)):=by
 intro cap F S Inv hV w l u hI h hok hN
 have HLEN:=hd_ hN;clear hN
 have hself:=h
 obtain ⟨z,x0,⟨b0,rfl,hF0,hb⟩,hr,hx0⟩:=h
 have hv:LAt ItAt w F [it] [x0]:=⟨x0,[],rfl,hx0,rfl⟩
 generalize hzs:[x0]=zs at *
 obtain ⟨zp,zc,rfl⟩:=hr.form
 have hzl:=LAt.length _ _ hv
 have HZ:=hd_ hr;have HVV:=hd_ (LAt.its _ _ hv)
 have hlenz:zs.length≤400:=by have h1:=hok.2;have:=Nd.sizeL_length ([it].map It.nd);simp only [Dc.nd,Nd.size,Nd.sizeL,lm_,lc_,ln_] at h1 this hzl;omega
 have hokz:Hid (∀ x∈[it].map Th.it,WalkP x∧x.ok):=by
  intro x hx
  obtain ⟨v,hv,rfl⟩:=List.mem_map.1 hx
  have h1:=hok.2
  simp only [Dc.nd,Nd.size] at h1
  exact ⟨hvs v hv,by simp only [List.mem_singleton] at hv;subst hv;exact hok.1.2,Nat.le_trans (Nd.sizeL_mem (List.mem_map_of_mem (f:=It.nd) hv)) (by simp only [List.map_cons,List.map_nil];omega)⟩
 clear hr hv hzl hvs hx0 hzs
 have lb:=ltb hb
 have c0:=cO hb 0 _ rfl
 have c4:=cO hb 4 _ rfl
 have ha:=hV.apart
 have nS:¬ S b0:=hV.apart b0 hF0
 have HV:=hd_ hV;have HSELF:=hd_ hself;have HI:=hd_ hI;have HOK:=hd_ hok
 clear hV hself hI hok hb
 have nv:=nv_Visit;have mv:=mv_Visit
 simp only [Th.ty',Ty.ty,It.ty,Dc.ty]
 go_enter Tryz.func57,Tryz.ntmps57
 go_wp2_with fail
 refine (HV.out.node w l (.dc (.gen wd p it)) (.pointer (some ⟨b0,0,none⟩)) HI.out HSELF.out HOK.out (by have hN:=HLEN.out;simp only [Th.pre,Ty.pre,It.pre,Dc.pre,tyPre,rvPre,bdPre,tagPl,itsPre,thsPre_nms,thsPre_fds,thsPre_vls,thsPre_its,la_,lc_,ln_,lm_,if_true,Bool.false_eq_true,if_false] at hN ⊢;omega)).mono ?_
 rintro e w1 ⟨rfl,hI1,hK1⟩
 have ks1:Kp S w w1:=hK1
 have d1_0:=(ks1.cell lb nS).trans c0
 have d1_4:=(ks1.cell lb nS).trans c4
 have lb1:b0 < w1.heap.size:=Nat.lt_of_lt_of_le lb ks1.size
 have HI1:=hd_ hI1;have HK1:=hd_ ks1;clear hI1 hK1 ks1
 go_wp2_with fail
 refine (wlsp_c ([it].map Th.it) hokz.out cap F S Inv HV.out w1 _ (.slice zp zs.length zc) zs (HZ.out.on HK1.out ha) (HVV.out.ifon HK1.out ha) HI1.out hlenz (by have hN:=HLEN.out;simp only [Th.pre,Ty.pre,It.pre,Dc.pre,tyPre,rvPre,bdPre,tagPl,itsPre,thsPre_nms,thsPre_fds,thsPre_vls,thsPre_its,la_,lc_,ln_,lm_,if_true,Bool.false_eq_true,if_false] at hN ⊢;omega)).mono ?_
 rintro e w2 ⟨⟨v2,rfl⟩,hI2,hK2⟩
 have ks2:Kp S w w2:=HK1.out.trans' hK2
 have d2_0:=(ks2.cell lb nS).trans c0
 have d2_4:=(ks2.cell lb nS).trans c4
 have lb2:b0 < w2.heap.size:=Nat.lt_of_lt_of_le lb ks2.size
 have HI2:=hd_ hI2;have HK2:=hd_ ks2;clear hI2 hK2 ks2
 go_wp2_with fail
 refine (HV.out.nil w2 _ HI2.out).mono ?_
 rintro e w3 ⟨⟨vn,rfl⟩,hI3,hK3⟩
 have ks3:Kp S w w3:=HK2.out.trans' hK3
 have d3_0:=(ks3.cell lb nS).trans c0
 have d3_4:=(ks3.cell lb nS).trans c4
 have lb3:b0 < w3.heap.size:=Nat.lt_of_lt_of_le lb ks3.size
 have HI3:=hd_ hI3;have HK3:=hd_ ks3;clear hI3 hK3 ks3
 go_wp2_with fail
 refine bodyPost_end (v:=.tuple #[]) (by simp [results,Tryz.results57,go_sem]) rfl ⟨⟨_,rfl⟩,?_,HK3.out⟩
 have hfin:=HI3.out
 try simp only [aa_] at hfin
 rw [thsPre_its] at hfin
 simpa [Th.pre,Th.pl,Th.kind,Th.pos,Th.fin,It.pre,It.kind,It.pos,It.fin,Dc.pre,Dc.kind,Dc.pos,Dc.fin,Ty.pre,tyPre,tyFin,rvPre,bdPre,bdFin,itsPre,vsPre,vsFin] using hfin
theorem walk_group (wd:Wd) (p o:Int) (its:List It) (c:Int) (hvs:∀ v∈its,WalkP (.it v)):WalkP (.dc (.group wd p o its c)):=by
 intro cap F S Inv hV w l u hI h hok hN
 have HLEN:=hd_ hN;clear hN
 have hself:=h
 obtain ⟨z,zs,⟨b0,rfl,hF0,hb⟩,hr,hv⟩:=h
 obtain ⟨zp,zc,rfl⟩:=hr.form
 have hzl:=LAt.length _ _ hv
 have HZ:=hd_ hr;have HVV:=hd_ (LAt.its _ _ hv)
 have hlenz:zs.length≤400:=by have h1:=hok.2;have:=Nd.sizeL_length (its.map It.nd);simp only [Dc.nd,Nd.size,Nd.sizeL,lm_,lc_,ln_] at h1 this hzl;omega
 have hokz:Hid (∀ x∈its.map Th.it,WalkP x∧x.ok):=by
  intro x hx
  obtain ⟨v,hv,rfl⟩:=List.mem_map.1 hx
  have h1:=hok.2
  simp only [Dc.nd,Nd.size] at h1
  exact ⟨hvs v hv,hok.1.2.2.1 v hv,Nat.le_trans (Nd.sizeL_mem (List.mem_map_of_mem (f:=It.nd) hv)) (by omega)⟩
 clear hr hv hzl hvs
 have lb:=ltb hb
 have c0:=cO hb 0 _ rfl
 have c4:=cO hb 4 _ rfl
 have ha:=hV.apart
 have nS:¬ S b0:=hV.apart b0 hF0
 have HV:=hd_ hV;have HSELF:=hd_ hself;have HI:=hd_ hI;have HOK:=hd_ hok
 clear hV hself hI hok hb
 have nv:=nv_Visit;have mv:=mv_Visit
 simp only [Th.ty',Ty.ty,It.ty,Dc.ty]
 go_enter Tryz.func57,Tryz.ntmps57
 go_wp2_with fail
 refine (HV.out.node w l (.dc (.group wd p o its c)) (.pointer (some ⟨b0,0,none⟩)) HI.out HSELF.out HOK.out (by have hN:=HLEN.out;simp only [Th.pre,Ty.pre,It.pre,Dc.pre,tyPre,rvPre,bdPre,tagPl,itsPre,thsPre_nms,thsPre_fds,thsPre_vls,thsPre_its,la_,lc_,ln_,lm_,if_true,Bool.false_eq_true,if_false] at hN ⊢;omega)).mono ?_
 rintro e w1 ⟨rfl,hI1,hK1⟩
 have ks1:Kp S w w1:=hK1
 have d1_0:=(ks1.cell lb nS).trans c0
 have d1_4:=(ks1.cell lb nS).trans c4
 have lb1:b0 < w1.heap.size:=Nat.lt_of_lt_of_le lb ks1.size
 have HI1:=hd_ hI1;have HK1:=hd_ ks1;clear hI1 hK1 ks1
 go_wp2_with fail
 refine (wlsp_c (its.map Th.it) hokz.out cap F S Inv HV.out w1 _ (.slice zp zs.length zc) zs (HZ.out.on HK1.out ha) (HVV.out.ifon HK1.out ha) HI1.out hlenz (by have hN:=HLEN.out;simp only [Th.pre,Ty.pre,It.pre,Dc.pre,tyPre,rvPre,bdPre,tagPl,itsPre,thsPre_nms,thsPre_fds,thsPre_vls,thsPre_its,la_,lc_,ln_,lm_,if_true,Bool.false_eq_true,if_false] at hN ⊢;omega)).mono ?_
 rintro e w2 ⟨⟨v2,rfl⟩,hI2,hK2⟩
 have ks2:Kp S w w2:=HK1.out.trans' hK2
 have d2_0:=(ks2.cell lb nS).trans c0
 have d2_4:=(ks2.cell lb nS).trans c4
 have lb2:b0 < w2.heap.size:=Nat.lt_of_lt_of_le lb ks2.size
 have HI2:=hd_ hI2;have HK2:=hd_ ks2;clear hI2 hK2 ks2
 go_wp2_with fail
 refine (HV.out.nil w2 _ HI2.out).mono ?_
 rintro e w3 ⟨⟨vn,rfl⟩,hI3,hK3⟩
 have ks3:Kp S w w3:=HK2.out.trans' hK3
 have d3_0:=(ks3.cell lb nS).trans c0
 have d3_4:=(ks3.cell lb nS).trans c4
 have lb3:b0 < w3.heap.size:=Nat.lt_of_lt_of_le lb ks3.size
 have HI3:=hd_ hI3;have HK3:=hd_ ks3;clear hI3 hK3 ks3
 go_wp2_with fail
 refine bodyPost_end (v:=.tuple #[]) (by simp [results,Tryz.results57,go_sem]) rfl ⟨⟨_,rfl⟩,?_,HK3.out⟩
 have hfin:=HI3.out
 try simp only [aa_] at hfin
 rw [thsPre_its] at hfin
 simpa [Th.pre,Th.pl,Th.kind,Th.pos,Th.fin,It.pre,It.kind,It.pos,It.fin,Dc.pre,Dc.kind,Dc.pos,Dc.fin,Ty.pre,tyPre,tyFin,rvPre,bdPre,bdFin,itsPre,vsPre,vsFin] using hfin
theorem walk_funcnn (p:Int) (np:Int) (s:ByteArray) (o:Int) (ps:Fs) (c:Int) (b:Bool) (o':Int) (rs:Fs) (c':Int)  (hg:WalkP (.ty (Ty.sig p o ps c b o' rs c'))):WalkP (.dc (.func p none np s o ps c b o' rs c' none)):=by
 intro cap F S Inv hV w l u hI h hok hN
 have HLEN:=hd_ hN;clear hN
 have hself:=h
 obtain ⟨r,i,y,d,⟨b0,rfl,hF0,hb⟩,hr,hi,hy,hd⟩:=h
 obtain ⟨ib,rfl⟩:=hi.ptr
 obtain ⟨yb,rfl⟩:=hy.ptr
 have HN:Hid (Th.At w F (.ty (.name np s)) (.pointer (some ⟨ib,0,none⟩))):=hi;clear hi
 have HY:=hd_ hy;clear hy
 have HG:=hd_ hg;clear hg
 have hokn:(Th.ty (.name np s)).ok:=⟨⟨false,by simp only [Ty.ok];exact ⟨trivial,hok.1.2.2.1,hok.1.2.2.2.1⟩⟩,by simp [Ty.nd,Nd.lit,Nd.name,Nd.size,Nd.sizeL]⟩
 have hoky:(Th.ty (Ty.sig p o ps c b o' rs c')).ok:=⟨⟨false,hok.1.2.2.2.2.1⟩,by have h1:=hok.2;simp only [Dc.nd,Nd.size,Nd.sizeL] at h1;omega⟩
 obtain rfl:r=.pointer none:=hr
 obtain rfl:d=.pointer none:=hd
 have lb:=ltb hb
 have c0:=cO hb 0 _ rfl
 have c1:=cO hb 1 _ rfl
 have c2:=cO hb 2 _ rfl
 have c3:=cO hb 3 _ rfl
 have c4:=cO hb 4 _ rfl
 have ha:=hV.apart
 have nS:¬ S b0:=hV.apart b0 hF0
 have HV:=hd_ hV;have HSELF:=hd_ hself;have HI:=hd_ hI;have HOK:=hd_ hok
 clear hV hself hI hok hb
 have nv:=nv_Visit;have mv:=mv_Visit
 simp only [Th.ty',Ty.ty,It.ty,Dc.ty]
 go_enter Tryz.func57,Tryz.ntmps57
 go_wp2_with fail
 refine (HV.out.node w l (.dc (.func p none np s o ps c b o' rs c' none)) (.pointer (some ⟨b0,0,none⟩)) HI.out HSELF.out HOK.out (by have hN:=HLEN.out;simp only [Th.pre,Ty.pre,It.pre,Dc.pre,tyPre,rvPre,bdPre,tagPl,itsPre,thsPre_nms,thsPre_fds,thsPre_vls,thsPre_its,la_,lc_,ln_,lm_,if_true,Bool.false_eq_true,if_false] at hN ⊢;omega)).mono ?_
 rintro e w1 ⟨rfl,hI1,hK1⟩
 have ks1:Kp S w w1:=hK1
 have d1_0:=(ks1.cell lb nS).trans c0
 have d1_1:=(ks1.cell lb nS).trans c1
 have d1_2:=(ks1.cell lb nS).trans c2
 have d1_3:=(ks1.cell lb nS).trans c3
 have d1_4:=(ks1.cell lb nS).trans c4
 have lb1:b0 < w1.heap.size:=Nat.lt_of_lt_of_le lb ks1.size
 have HI1:=hd_ hI1;have HK1:=hd_ ks1;clear hI1 hK1 ks1
 go_wp2_with fail
 refine (walk_name (np) (s) cap F S Inv HV.out w1 _ (.pointer (some ⟨ib,0,none⟩)) HI1.out (Th.At.on HN.out HK1.out ha) hokn (by have hN:=HLEN.out;simp only [Th.pre,Ty.pre,It.pre,Dc.pre,tyPre,rvPre,bdPre,tagPl,itsPre,thsPre_nms,thsPre_fds,thsPre_vls,thsPre_its,la_,lc_,ln_,lm_,if_true,Bool.false_eq_true,if_false] at hN ⊢;omega)).mono ?_
 rintro e w2 ⟨⟨v2,rfl⟩,hI2,hK2⟩
 have ks2:Kp S w w2:=HK1.out.trans' hK2
 have d2_0:=(ks2.cell lb nS).trans c0
 have d2_1:=(ks2.cell lb nS).trans c1
 have d2_2:=(ks2.cell lb nS).trans c2
 have d2_3:=(ks2.cell lb nS).trans c3
 have d2_4:=(ks2.cell lb nS).trans c4
 have lb2:b0 < w2.heap.size:=Nat.lt_of_lt_of_le lb ks2.size
 have HI2:=hd_ hI2;have HK2:=hd_ ks2;clear hI2 hK2 ks2
 go_wp2_with fail
 refine (HG.out cap F S Inv HV.out w2 _ (.pointer (some ⟨yb,0,none⟩)) HI2.out (Th.At.on (show Th.At w F (.ty (Ty.sig p o ps c b o' rs c')) _ from HY.out) HK2.out ha) hoky (by have hN:=HLEN.out;simp only [Th.pre,Ty.pre,It.pre,Dc.pre,tyPre,rvPre,bdPre,tagPl,itsPre,thsPre_nms,thsPre_fds,thsPre_vls,thsPre_its,la_,lc_,ln_,lm_,if_true,Bool.false_eq_true,if_false] at hN ⊢;omega)).mono ?_
 rintro e w3 ⟨⟨v3,rfl⟩,hI3,hK3⟩
 have ks3:Kp S w w3:=HK2.out.trans' hK3
 have d3_0:=(ks3.cell lb nS).trans c0
 have d3_1:=(ks3.cell lb nS).trans c1
 have d3_2:=(ks3.cell lb nS).trans c2
 have d3_3:=(ks3.cell lb nS).trans c3
 have d3_4:=(ks3.cell lb nS).trans c4
 have lb3:b0 < w3.heap.size:=Nat.lt_of_lt_of_le lb ks3.size
 have HI3:=hd_ hI3;have HK3:=hd_ ks3;clear hI3 hK3 ks3
 go_wp2_with fail
 refine (HV.out.nil w3 _ HI3.out).mono ?_
 rintro e w4 ⟨⟨vn,rfl⟩,hI4,hK4⟩
 have ks4:Kp S w w4:=HK3.out.trans' hK4
 have d4_0:=(ks4.cell lb nS).trans c0
 have d4_1:=(ks4.cell lb nS).trans c1
 have d4_2:=(ks4.cell lb nS).trans c2
 have d4_3:=(ks4.cell lb nS).trans c3
 have d4_4:=(ks4.cell lb nS).trans c4
 have lb4:b0 < w4.heap.size:=Nat.lt_of_lt_of_le lb ks4.size
 have HI4:=hd_ hI4;have HK4:=hd_ ks4;clear hI4 hK4 ks4
 go_wp2_with fail
 refine bodyPost_end (v:=.tuple #[]) (by simp [results,Tryz.results57,go_sem]) rfl ⟨⟨_,rfl⟩,?_,HK4.out⟩
 have hfin:=HI4.out
 try simp only [aa_] at hfin
 simpa [Th.pre,Th.pl,Th.kind,Th.pos,Th.fin,It.pre,It.kind,It.pos,It.fin,Dc.pre,Dc.kind,Dc.pos,Dc.fin,Ty.pre,tyPre,tyFin,rvPre,bdPre,bdFin,itsPre,vsPre,vsFin] using hfin
theorem walk_funcnb (p:Int) (np:Int) (s:ByteArray) (o:Int) (ps:Fs) (c:Int) (b:Bool) (o':Int) (rs:Fs) (c':Int) (bo bc:Int) (hg:WalkP (.ty (Ty.sig p o ps c b o' rs c'))):WalkP (.dc (.func p none np s o ps c b o' rs c' (some (bo,bc)))):=by
 intro cap F S Inv hV w l u hI h hok hN
 have HLEN:=hd_ hN;clear hN
 have hself:=h
 obtain ⟨r,i,y,d,⟨b0,rfl,hF0,hb⟩,hr,hi,hy,hd⟩:=h
 obtain ⟨ib,rfl⟩:=hi.ptr
 obtain ⟨yb,rfl⟩:=hy.ptr
 have HN:Hid (Th.At w F (.ty (.name np s)) (.pointer (some ⟨ib,0,none⟩))):=hi;clear hi
 have HY:=hd_ hy;clear hy
 have HG:=hd_ hg;clear hg
 have hokn:(Th.ty (.name np s)).ok:=⟨⟨false,by simp only [Ty.ok];exact ⟨trivial,hok.1.2.2.1,hok.1.2.2.2.1⟩⟩,by simp [Ty.nd,Nd.lit,Nd.name,Nd.size,Nd.sizeL]⟩
 have hoky:(Th.ty (Ty.sig p o ps c b o' rs c')).ok:=⟨⟨false,hok.1.2.2.2.2.1⟩,by have h1:=hok.2;simp only [Dc.nd,Nd.size,Nd.sizeL] at h1;omega⟩
 obtain rfl:r=.pointer none:=hr
 have hd:BdAt w F (some (bo,bc)) d:=hd
 have HD:=hd_ hd
 obtain ⟨db,rfl,_⟩:=hd
 have hokd:(Th.bd bo bc).ok:=hok.1.2.2.2.2.2 bo bc rfl
 have lb:=ltb hb
 have c0:=cO hb 0 _ rfl
 have c1:=cO hb 1 _ rfl
 have c2:=cO hb 2 _ rfl
 have c3:=cO hb 3 _ rfl
 have c4:=cO hb 4 _ rfl
 have ha:=hV.apart
 have nS:¬ S b0:=hV.apart b0 hF0
 have HV:=hd_ hV;have HSELF:=hd_ hself;have HI:=hd_ hI;have HOK:=hd_ hok
 clear hV hself hI hok hb
 have nv:=nv_Visit;have mv:=mv_Visit
 simp only [Th.ty',Ty.ty,It.ty,Dc.ty]
 go_enter Tryz.func57,Tryz.ntmps57
 go_wp2_with fail
 refine (HV.out.node w l (.dc (.func p none np s o ps c b o' rs c' (some (bo,bc)))) (.pointer (some ⟨b0,0,none⟩)) HI.out HSELF.out HOK.out (by have hN:=HLEN.out;simp only [Th.pre,Ty.pre,It.pre,Dc.pre,tyPre,rvPre,bdPre,tagPl,itsPre,thsPre_nms,thsPre_fds,thsPre_vls,thsPre_its,la_,lc_,ln_,lm_,if_true,Bool.false_eq_true,if_false] at hN ⊢;omega)).mono ?_
 rintro e w1 ⟨rfl,hI1,hK1⟩
 have ks1:Kp S w w1:=hK1
 have d1_0:=(ks1.cell lb nS).trans c0
 have d1_1:=(ks1.cell lb nS).trans c1
 have d1_2:=(ks1.cell lb nS).trans c2
 have d1_3:=(ks1.cell lb nS).trans c3
 have d1_4:=(ks1.cell lb nS).trans c4
 have lb1:b0 < w1.heap.size:=Nat.lt_of_lt_of_le lb ks1.size
 have HI1:=hd_ hI1;have HK1:=hd_ ks1;clear hI1 hK1 ks1
 go_wp2_with fail
 refine (walk_name (np) (s) cap F S Inv HV.out w1 _ (.pointer (some ⟨ib,0,none⟩)) HI1.out (Th.At.on HN.out HK1.out ha) hokn (by have hN:=HLEN.out;simp only [Th.pre,Ty.pre,It.pre,Dc.pre,tyPre,rvPre,bdPre,tagPl,itsPre,thsPre_nms,thsPre_fds,thsPre_vls,thsPre_its,la_,lc_,ln_,lm_,if_true,Bool.false_eq_true,if_false] at hN ⊢;omega)).mono ?_
 rintro e w2 ⟨⟨v2,rfl⟩,hI2,hK2⟩
 have ks2:Kp S w w2:=HK1.out.trans' hK2
 have d2_0:=(ks2.cell lb nS).trans c0
 have d2_1:=(ks2.cell lb nS).trans c1
 have d2_2:=(ks2.cell lb nS).trans c2
 have d2_3:=(ks2.cell lb nS).trans c3
 have d2_4:=(ks2.cell lb nS).trans c4
 have lb2:b0 < w2.heap.size:=Nat.lt_of_lt_of_le lb ks2.size
 have HI2:=hd_ hI2;have HK2:=hd_ ks2;clear hI2 hK2 ks2
 go_wp2_with fail
 refine (HG.out cap F S Inv HV.out w2 _ (.pointer (some ⟨yb,0,none⟩)) HI2.out (Th.At.on (show Th.At w F (.ty (Ty.sig p o ps c b o' rs c')) _ from HY.out) HK2.out ha) hoky (by have hN:=HLEN.out;simp only [Th.pre,Ty.pre,It.pre,Dc.pre,tyPre,rvPre,bdPre,tagPl,itsPre,thsPre_nms,thsPre_fds,thsPre_vls,thsPre_its,la_,lc_,ln_,lm_,if_true,Bool.false_eq_true,if_false] at hN ⊢;omega)).mono ?_
 rintro e w3 ⟨⟨v3,rfl⟩,hI3,hK3⟩
 have ks3:Kp S w w3:=HK2.out.trans' hK3
 have d3_0:=(ks3.cell lb nS).trans c0
 have d3_1:=(ks3.cell lb nS).trans c1
 have d3_2:=(ks3.cell lb nS).trans c2
 have d3_3:=(ks3.cell lb nS).trans c3
 have d3_4:=(ks3.cell lb nS).trans c4
 have lb3:b0 < w3.heap.size:=Nat.lt_of_lt_of_le lb ks3.size
 have HI3:=hd_ hI3;have HK3:=hd_ ks3;clear hI3 hK3 ks3
 go_wp2_with fail
 refine (walk_bd bo bc cap F S Inv HV.out w3 _ (.pointer (some ⟨db,0,none⟩)) HI3.out (Th.At.on (show Th.At w F (.bd bo bc) _ from HD.out) HK3.out ha) hokd (by have hN:=HLEN.out;simp only [Th.pre,Ty.pre,It.pre,Dc.pre,tyPre,rvPre,bdPre,tagPl,itsPre,thsPre_nms,thsPre_fds,thsPre_vls,thsPre_its,la_,lc_,ln_,lm_,if_true,Bool.false_eq_true,if_false] at hN ⊢;omega)).mono ?_
 rintro e w4 ⟨⟨v4,rfl⟩,hI4,hK4⟩
 have ks4:Kp S w w4:=HK3.out.trans' hK4
 have d4_0:=(ks4.cell lb nS).trans c0
 have d4_1:=(ks4.cell lb nS).trans c1
 have d4_2:=(ks4.cell lb nS).trans c2
 have d4_3:=(ks4.cell lb nS).trans c3
 have d4_4:=(ks4.cell lb nS).trans c4
 have lb4:b0 < w4.heap.size:=Nat.lt_of_lt_of_le lb ks4.size
 have HI4:=hd_ hI4;have HK4:=hd_ ks4;clear hI4 hK4 ks4
 go_wp2_with fail
 refine (HV.out.nil w4 _ HI4.out).mono ?_
 rintro e w5 ⟨⟨vn,rfl⟩,hI5,hK5⟩
 have ks5:Kp S w w5:=HK4.out.trans' hK5
 have d5_0:=(ks5.cell lb nS).trans c0
 have d5_1:=(ks5.cell lb nS).trans c1
 have d5_2:=(ks5.cell lb nS).trans c2
 have d5_3:=(ks5.cell lb nS).trans c3
 have d5_4:=(ks5.cell lb nS).trans c4
 have lb5:b0 < w5.heap.size:=Nat.lt_of_lt_of_le lb ks5.size
 have HI5:=hd_ hI5;have HK5:=hd_ ks5;clear hI5 hK5 ks5
 go_wp2_with fail
 refine bodyPost_end (v:=.tuple #[]) (by simp [results,Tryz.results57,go_sem]) rfl ⟨⟨_,rfl⟩,?_,HK5.out⟩
 have hfin:=HI5.out
 try simp only [aa_] at hfin
 simpa [Th.pre,Th.pl,Th.kind,Th.pos,Th.fin,It.pre,It.kind,It.pos,It.fin,Dc.pre,Dc.kind,Dc.pos,Dc.fin,Ty.pre,tyPre,tyFin,rvPre,bdPre,bdFin,itsPre,vsPre,vsFin] using hfin
theorem walk_funcrn (p:Int) (ro:Int) (rf:Fs) (rc:Int) (np:Int) (s:ByteArray) (o:Int) (ps:Fs) (c:Int) (b:Bool) (o':Int) (rs:Fs) (c':Int)  (hg:WalkP (.ty (Ty.sig p o ps c b o' rs c'))) (hf:WalkP (.fl ro rf rc)):WalkP (.dc (.func p (some (ro,rf,rc)) np s o ps c b o' rs c' none)):=by
 intro cap F S Inv hV w l u hI h hok hN
 have HLEN:=hd_ hN;clear hN
 have hself:=h
 obtain ⟨r,i,y,d,⟨b0,rfl,hF0,hb⟩,hr,hi,hy,hd⟩:=h
 obtain ⟨ib,rfl⟩:=hi.ptr
 obtain ⟨yb,rfl⟩:=hy.ptr
 have HN:Hid (Th.At w F (.ty (.name np s)) (.pointer (some ⟨ib,0,none⟩))):=hi;clear hi
 have HY:=hd_ hy;clear hy
 have HG:=hd_ hg;clear hg
 have hokn:(Th.ty (.name np s)).ok:=⟨⟨false,by simp only [Ty.ok];exact ⟨trivial,hok.1.2.2.1,hok.1.2.2.2.1⟩⟩,by simp [Ty.nd,Nd.lit,Nd.name,Nd.size,Nd.sizeL]⟩
 have hoky:(Th.ty (Ty.sig p o ps c b o' rs c')).ok:=⟨⟨false,hok.1.2.2.2.2.1⟩,by have h1:=hok.2;simp only [Dc.nd,Nd.size,Nd.sizeL] at h1;omega⟩
 have hr:FlAt w F ro rf rc r:=hr
 obtain ⟨rb,rfl⟩:=hr.ptr
 have HRV:=hd_ hr;clear hr
 have HF:=hd_ hf;clear hf
 have hokr:(Th.fl ro rf rc).ok:=by obtain ⟨h1,h2,h3⟩:=hok.1.2.1 _ _ _ rfl;exact ⟨h1,h3,⟨false,h2⟩,by have h1:=hok.2;simp only [Dc.nd,rvNd,fl,Nd.size,Nd.sizeL] at h1;omega⟩
 obtain rfl:d=.pointer none:=hd
 have lb:=ltb hb
 have c0:=cO hb 0 _ rfl
 have c1:=cO hb 1 _ rfl
 have c2:=cO hb 2 _ rfl
 have c3:=cO hb 3 _ rfl
 have c4:=cO hb 4 _ rfl
 have ha:=hV.apart
 have nS:¬ S b0:=hV.apart b0 hF0
 have HV:=hd_ hV;have HSELF:=hd_ hself;have HI:=hd_ hI;have HOK:=hd_ hok
 clear hV hself hI hok hb
 have nv:=nv_Visit;have mv:=mv_Visit
 simp only [Th.ty',Ty.ty,It.ty,Dc.ty]
 go_enter Tryz.func57,Tryz.ntmps57
 go_wp2_with fail
 refine (HV.out.node w l (.dc (.func p (some (ro,rf,rc)) np s o ps c b o' rs c' none)) (.pointer (some ⟨b0,0,none⟩)) HI.out HSELF.out HOK.out (by have hN:=HLEN.out;simp only [Th.pre,Ty.pre,It.pre,Dc.pre,tyPre,rvPre,bdPre,tagPl,itsPre,thsPre_nms,thsPre_fds,thsPre_vls,thsPre_its,la_,lc_,ln_,lm_,if_true,Bool.false_eq_true,if_false] at hN ⊢;omega)).mono ?_
 rintro e w1 ⟨rfl,hI1,hK1⟩
 have ks1:Kp S w w1:=hK1
 have d1_0:=(ks1.cell lb nS).trans c0
 have d1_1:=(ks1.cell lb nS).trans c1
 have d1_2:=(ks1.cell lb nS).trans c2
 have d1_3:=(ks1.cell lb nS).trans c3
 have d1_4:=(ks1.cell lb nS).trans c4
 have lb1:b0 < w1.heap.size:=Nat.lt_of_lt_of_le lb ks1.size
 have HI1:=hd_ hI1;have HK1:=hd_ ks1;clear hI1 hK1 ks1
 go_wp2_with fail
 refine (HF.out cap F S Inv HV.out w1 _ (.pointer (some ⟨rb,0,none⟩)) HI1.out (Th.At.on (show Th.At w F (.fl ro rf rc) _ from HRV.out) HK1.out ha) hokr (by have hN:=HLEN.out;simp only [Th.pre,Ty.pre,It.pre,Dc.pre,tyPre,rvPre,bdPre,tagPl,itsPre,thsPre_nms,thsPre_fds,thsPre_vls,thsPre_its,la_,lc_,ln_,lm_,if_true,Bool.false_eq_true,if_false] at hN ⊢;omega)).mono ?_
 rintro e w2 ⟨⟨v2,rfl⟩,hI2,hK2⟩
 have ks2:Kp S w w2:=HK1.out.trans' hK2
 have d2_0:=(ks2.cell lb nS).trans c0
 have d2_1:=(ks2.cell lb nS).trans c1
 have d2_2:=(ks2.cell lb nS).trans c2
 have d2_3:=(ks2.cell lb nS).trans c3
 have d2_4:=(ks2.cell lb nS).trans c4
 have lb2:b0 < w2.heap.size:=Nat.lt_of_lt_of_le lb ks2.size
 have HI2:=hd_ hI2;have HK2:=hd_ ks2;clear hI2 hK2 ks2
 go_wp2_with fail
 refine (walk_name (np) (s) cap F S Inv HV.out w2 _ (.pointer (some ⟨ib,0,none⟩)) HI2.out (Th.At.on HN.out HK2.out ha) hokn (by have hN:=HLEN.out;simp only [Th.pre,Ty.pre,It.pre,Dc.pre,tyPre,rvPre,bdPre,tagPl,itsPre,thsPre_nms,thsPre_fds,thsPre_vls,thsPre_its,la_,lc_,ln_,lm_,if_true,Bool.false_eq_true,if_false] at hN ⊢;omega)).mono ?_
 rintro e w3 ⟨⟨v3,rfl⟩,hI3,hK3⟩
 have ks3:Kp S w w3:=HK2.out.trans' hK3
 have d3_0:=(ks3.cell lb nS).trans c0
 have d3_1:=(ks3.cell lb nS).trans c1
 have d3_2:=(ks3.cell lb nS).trans c2
 have d3_3:=(ks3.cell lb nS).trans c3
 have d3_4:=(ks3.cell lb nS).trans c4
 have lb3:b0 < w3.heap.size:=Nat.lt_of_lt_of_le lb ks3.size
 have HI3:=hd_ hI3;have HK3:=hd_ ks3;clear hI3 hK3 ks3
 go_wp2_with fail
 refine (HG.out cap F S Inv HV.out w3 _ (.pointer (some ⟨yb,0,none⟩)) HI3.out (Th.At.on (show Th.At w F (.ty (Ty.sig p o ps c b o' rs c')) _ from HY.out) HK3.out ha) hoky (by have hN:=HLEN.out;simp only [Th.pre,Ty.pre,It.pre,Dc.pre,tyPre,rvPre,bdPre,tagPl,itsPre,thsPre_nms,thsPre_fds,thsPre_vls,thsPre_its,la_,lc_,ln_,lm_,if_true,Bool.false_eq_true,if_false] at hN ⊢;omega)).mono ?_
 rintro e w4 ⟨⟨v4,rfl⟩,hI4,hK4⟩
 have ks4:Kp S w w4:=HK3.out.trans' hK4
 have d4_0:=(ks4.cell lb nS).trans c0
 have d4_1:=(ks4.cell lb nS).trans c1
 have d4_2:=(ks4.cell lb nS).trans c2
 have d4_3:=(ks4.cell lb nS).trans c3
 have d4_4:=(ks4.cell lb nS).trans c4
 have lb4:b0 < w4.heap.size:=Nat.lt_of_lt_of_le lb ks4.size
 have HI4:=hd_ hI4;have HK4:=hd_ ks4;clear hI4 hK4 ks4
 go_wp2_with fail
 refine (HV.out.nil w4 _ HI4.out).mono ?_
 rintro e w5 ⟨⟨vn,rfl⟩,hI5,hK5⟩
 have ks5:Kp S w w5:=HK4.out.trans' hK5
 have d5_0:=(ks5.cell lb nS).trans c0
 have d5_1:=(ks5.cell lb nS).trans c1
 have d5_2:=(ks5.cell lb nS).trans c2
 have d5_3:=(ks5.cell lb nS).trans c3
 have d5_4:=(ks5.cell lb nS).trans c4
 have lb5:b0 < w5.heap.size:=Nat.lt_of_lt_of_le lb ks5.size
 have HI5:=hd_ hI5;have HK5:=hd_ ks5;clear hI5 hK5 ks5
 go_wp2_with fail
 refine bodyPost_end (v:=.tuple #[]) (by simp [results,Tryz.results57,go_sem]) rfl ⟨⟨_,rfl⟩,?_,HK5.out⟩
 have hfin:=HI5.out
 try simp only [aa_] at hfin
 simpa [Th.pre,Th.pl,Th.kind,Th.pos,Th.fin,It.pre,It.kind,It.pos,It.fin,Dc.pre,Dc.kind,Dc.pos,Dc.fin,Ty.pre,tyPre,tyFin,rvPre,bdPre,bdFin,itsPre,vsPre,vsFin] using hfin
theorem walk_funcrb (p:Int) (ro:Int) (rf:Fs) (rc:Int) (np:Int) (s:ByteArray) (o:Int) (ps:Fs) (c:Int) (b:Bool) (o':Int) (rs:Fs) (c':Int) (bo bc:Int) (hg:WalkP (.ty (Ty.sig p o ps c b o' rs c'))) (hf:WalkP (.fl ro rf rc)):WalkP (.dc (.func p (some (ro,rf,rc)) np s o ps c b o' rs c' (some (bo,bc)))):=by
 intro cap F S Inv hV w l u hI h hok hN
 have HLEN:=hd_ hN;clear hN
 have hself:=h
 obtain ⟨r,i,y,d,⟨b0,rfl,hF0,hb⟩,hr,hi,hy,hd⟩:=h
 obtain ⟨ib,rfl⟩:=hi.ptr
 obtain ⟨yb,rfl⟩:=hy.ptr
 have HN:Hid (Th.At w F (.ty (.name np s)) (.pointer (some ⟨ib,0,none⟩))):=hi;clear hi
 have HY:=hd_ hy;clear hy
 have HG:=hd_ hg;clear hg
 have hokn:(Th.ty (.name np s)).ok:=⟨⟨false,by simp only [Ty.ok];exact ⟨trivial,hok.1.2.2.1,hok.1.2.2.2.1⟩⟩,by simp [Ty.nd,Nd.lit,Nd.name,Nd.size,Nd.sizeL]⟩
 have hoky:(Th.ty (Ty.sig p o ps c b o' rs c')).ok:=⟨⟨false,hok.1.2.2.2.2.1⟩,by have h1:=hok.2;simp only [Dc.nd,Nd.size,Nd.sizeL] at h1;omega⟩
 have hr:FlAt w F ro rf rc r:=hr
 obtain ⟨rb,rfl⟩:=hr.ptr
 have HRV:=hd_ hr;clear hr
 have HF:=hd_ hf;clear hf
 have hokr:(Th.fl ro rf rc).ok:=by obtain ⟨h1,h2,h3⟩:=hok.1.2.1 _ _ _ rfl;exact ⟨h1,h3,⟨false,h2⟩,by have h1:=hok.2;simp only [Dc.nd,rvNd,fl,Nd.size,Nd.sizeL] at h1;omega⟩
 have hd:BdAt w F (some (bo,bc)) d:=hd
 have HD:=hd_ hd
 obtain ⟨db,rfl,_⟩:=hd
 have hokd:(Th.bd bo bc).ok:=hok.1.2.2.2.2.2 bo bc rfl
 have lb:=ltb hb
 have c0:=cO hb 0 _ rfl
 have c1:=cO hb 1 _ rfl
 have c2:=cO hb 2 _ rfl
 have c3:=cO hb 3 _ rfl
 have c4:=cO hb 4 _ rfl
 have ha:=hV.apart
 have nS:¬ S b0:=hV.apart b0 hF0
 have HV:=hd_ hV;have HSELF:=hd_ hself;have HI:=hd_ hI;have HOK:=hd_ hok
 clear hV hself hI hok hb
 have nv:=nv_Visit;have mv:=mv_Visit
 simp only [Th.ty',Ty.ty,It.ty,Dc.ty]
 go_enter Tryz.func57,Tryz.ntmps57
 go_wp2_with fail
 refine (HV.out.node w l (.dc (.func p (some (ro,rf,rc)) np s o ps c b o' rs c' (some (bo,bc)))) (.pointer (some ⟨b0,0,none⟩)) HI.out HSELF.out HOK.out (by have hN:=HLEN.out;simp only [Th.pre,Ty.pre,It.pre,Dc.pre,tyPre,rvPre,bdPre,tagPl,itsPre,thsPre_nms,thsPre_fds,thsPre_vls,thsPre_its,la_,lc_,ln_,lm_,if_true,Bool.false_eq_true,if_false] at hN ⊢;omega)).mono ?_
 rintro e w1 ⟨rfl,hI1,hK1⟩
 have ks1:Kp S w w1:=hK1
 have d1_0:=(ks1.cell lb nS).trans c0
 have d1_1:=(ks1.cell lb nS).trans c1
 have d1_2:=(ks1.cell lb nS).trans c2
 have d1_3:=(ks1.cell lb nS).trans c3
 have d1_4:=(ks1.cell lb nS).trans c4
 have lb1:b0 < w1.heap.size:=Nat.lt_of_lt_of_le lb ks1.size
 have HI1:=hd_ hI1;have HK1:=hd_ ks1;clear hI1 hK1 ks1
 go_wp2_with fail
 refine (HF.out cap F S Inv HV.out w1 _ (.pointer (some ⟨rb,0,none⟩)) HI1.out (Th.At.on (show Th.At w F (.fl ro rf rc) _ from HRV.out) HK1.out ha) hokr (by have hN:=HLEN.out;simp only [Th.pre,Ty.pre,It.pre,Dc.pre,tyPre,rvPre,bdPre,tagPl,itsPre,thsPre_nms,thsPre_fds,thsPre_vls,thsPre_its,la_,lc_,ln_,lm_,if_true,Bool.false_eq_true,if_false] at hN ⊢;omega)).mono ?_
 rintro e w2 ⟨⟨v2,rfl⟩,hI2,hK2⟩
 have ks2:Kp S w w2:=HK1.out.trans' hK2
 have d2_0:=(ks2.cell lb nS).trans c0
 have d2_1:=(ks2.cell lb nS).trans c1
 have d2_2:=(ks2.cell lb nS).trans c2
 have d2_3:=(ks2.cell lb nS).trans c3
 have d2_4:=(ks2.cell lb nS).trans c4
 have lb2:b0 < w2.heap.size:=Nat.lt_of_lt_of_le lb ks2.size
 have HI2:=hd_ hI2;have HK2:=hd_ ks2;clear hI2 hK2 ks2
 go_wp2_with fail
 refine (walk_name (np) (s) cap F S Inv HV.out w2 _ (.pointer (some ⟨ib,0,none⟩)) HI2.out (Th.At.on HN.out HK2.out ha) hokn (by have hN:=HLEN.out;simp only [Th.pre,Ty.pre,It.pre,Dc.pre,tyPre,rvPre,bdPre,tagPl,itsPre,thsPre_nms,thsPre_fds,thsPre_vls,thsPre_its,la_,lc_,ln_,lm_,if_true,Bool.false_eq_true,if_false] at hN ⊢;omega)).mono ?_
 rintro e w3 ⟨⟨v3,rfl⟩,hI3,hK3⟩
 have ks3:Kp S w w3:=HK2.out.trans' hK3
 have d3_0:=(ks3.cell lb nS).trans c0
 have d3_1:=(ks3.cell lb nS).trans c1
 have d3_2:=(ks3.cell lb nS).trans c2
 have d3_3:=(ks3.cell lb nS).trans c3
 have d3_4:=(ks3.cell lb nS).trans c4
 have lb3:b0 < w3.heap.size:=Nat.lt_of_lt_of_le lb ks3.size
 have HI3:=hd_ hI3;have HK3:=hd_ ks3;clear hI3 hK3 ks3
 go_wp2_with fail
 refine (HG.out cap F S Inv HV.out w3 _ (.pointer (some ⟨yb,0,none⟩)) HI3.out (Th.At.on (show Th.At w F (.ty (Ty.sig p o ps c b o' rs c')) _ from HY.out) HK3.out ha) hoky (by have hN:=HLEN.out;simp only [Th.pre,Ty.pre,It.pre,Dc.pre,tyPre,rvPre,bdPre,tagPl,itsPre,thsPre_nms,thsPre_fds,thsPre_vls,thsPre_its,la_,lc_,ln_,lm_,if_true,Bool.false_eq_true,if_false] at hN ⊢;omega)).mono ?_
 rintro e w4 ⟨⟨v4,rfl⟩,hI4,hK4⟩
 have ks4:Kp S w w4:=HK3.out.trans' hK4
 have d4_0:=(ks4.cell lb nS).trans c0
 have d4_1:=(ks4.cell lb nS).trans c1
 have d4_2:=(ks4.cell lb nS).trans c2
 have d4_3:=(ks4.cell lb nS).trans c3
 have d4_4:=(ks4.cell lb nS).trans c4
 have lb4:b0 < w4.heap.size:=Nat.lt_of_lt_of_le lb ks4.size
 have HI4:=hd_ hI4;have HK4:=hd_ ks4;clear hI4 hK4 ks4
 go_wp2_with fail
 refine (walk_bd bo bc cap F S Inv HV.out w4 _ (.pointer (some ⟨db,0,none⟩)) HI4.out (Th.At.on (show Th.At w F (.bd bo bc) _ from HD.out) HK4.out ha) hokd (by have hN:=HLEN.out;simp only [Th.pre,Ty.pre,It.pre,Dc.pre,tyPre,rvPre,bdPre,tagPl,itsPre,thsPre_nms,thsPre_fds,thsPre_vls,thsPre_its,la_,lc_,ln_,lm_,if_true,Bool.false_eq_true,if_false] at hN ⊢;omega)).mono ?_
 rintro e w5 ⟨⟨v5,rfl⟩,hI5,hK5⟩
 have ks5:Kp S w w5:=HK4.out.trans' hK5
 have d5_0:=(ks5.cell lb nS).trans c0
 have d5_1:=(ks5.cell lb nS).trans c1
 have d5_2:=(ks5.cell lb nS).trans c2
 have d5_3:=(ks5.cell lb nS).trans c3
 have d5_4:=(ks5.cell lb nS).trans c4
 have lb5:b0 < w5.heap.size:=Nat.lt_of_lt_of_le lb ks5.size
 have HI5:=hd_ hI5;have HK5:=hd_ ks5;clear hI5 hK5 ks5
 go_wp2_with fail
 refine (HV.out.nil w5 _ HI5.out).mono ?_
 rintro e w6 ⟨⟨vn,rfl⟩,hI6,hK6⟩
 have ks6:Kp S w w6:=HK5.out.trans' hK6
 have d6_0:=(ks6.cell lb nS).trans c0
 have d6_1:=(ks6.cell lb nS).trans c1
 have d6_2:=(ks6.cell lb nS).trans c2
 have d6_3:=(ks6.cell lb nS).trans c3
 have d6_4:=(ks6.cell lb nS).trans c4
 have lb6:b0 < w6.heap.size:=Nat.lt_of_lt_of_le lb ks6.size
 have HI6:=hd_ hI6;have HK6:=hd_ ks6;clear hI6 hK6 ks6
 go_wp2_with fail
 refine bodyPost_end (v:=.tuple #[]) (by simp [results,Tryz.results57,go_sem]) rfl ⟨⟨_,rfl⟩,?_,HK6.out⟩
 have hfin:=HI6.out
 try simp only [aa_] at hfin
 simpa [Th.pre,Th.pl,Th.kind,Th.pos,Th.fin,It.pre,It.kind,It.pos,It.fin,Dc.pre,Dc.kind,Dc.pos,Dc.fin,Ty.pre,tyPre,tyFin,rvPre,bdPre,bdFin,itsPre,vsPre,vsFin] using hfin
end
section
open Go Go.RowKit
theorem walk_fd (d:Fd) (hx:WalkP (.ty d.t)):WalkP (.fd d):=by
 by_cases h:d.tag.size=0
 ·exact walk_fdx d hx h
 ·exact walk_fdt d hx h
theorem walk_all:∀ n:Nat,(∀ t:Ty,t.sz < n→WalkP (.ty t))∧(∀ f:Fs,f.sz < n→∀ o c,WalkP (.fl o f c))
 | 0=>⟨fun _ h=>absurd h (by omega),fun _ h=>absurd h (by omega)⟩
 | n+1=>by
  obtain ⟨ihT,ihF⟩:=walk_all n
  refine ⟨fun t ht=>?_,fun f hf o c=>?_⟩
  ·cases t with
   | name p s=>exact walk_name p s
   | lit p s=>exact walk_lit p s
   | sel x d p s=>exact walk_sel x d p s (ihT x (by simp only [Ty.sz] at ht;omega))
   | star p x=>exact walk_star p x (ihT x (by simp only [Ty.sz] at ht;omega))
   | sl p q x=>exact walk_sl p q x (ihT x (by simp only [Ty.sz] at ht;omega))
   | arr p y q x=>exact walk_arr p q y x (ihT y (by simp only [Ty.sz] at ht;omega)) (ihT x (by simp only [Ty.sz] at ht;omega))
   | map p q k r v=>exact walk_map p q r k v (ihT k (by simp only [Ty.sz] at ht;omega)) (ihT v (by simp only [Ty.sz] at ht;omega))
   | ch p x=>exact walk_ch p x (ihT x (by simp only [Ty.sz] at ht;omega))
   | chs p q x=>exact walk_chs p q x (ihT x (by simp only [Ty.sz] at ht;omega))
   | chr p q x=>exact walk_chr p q x (ihT x (by simp only [Ty.sz] at ht;omega))
   | sig p o ps c b o' rs c' =>
    have h1:=ihF ps (by simp only [Ty.sz] at ht;omega) o c
    have h2:=ihF rs (by simp only [Ty.sz] at ht;omega) o' c'
    cases b with
    | true=>exact walk_sigt p o ps c o' rs c' h1 h2
    | false=>exact walk_sigf p o ps c o' rs c' h1
   | struct p o f c=>exact walk_struct p o f c (ihF f (by simp only [Ty.sz] at ht;omega) o c)
   | iface p o f c=>exact walk_iface p o f c (ihF f (by simp only [Ty.sz] at ht;omega) o c)
  ·exact walk_fl o f c fun d hd=>walk_fd d (ihT d.t (by have:=Fs.fds_sz f d hd;omega))
theorem walk_ty (t:Ty):WalkP (.ty t):=(walk_all (t.sz+1)).1 t (by omega)
theorem walk_fls (o:Int) (f:Fs) (c:Int):WalkP (.fl o f c):=(walk_all (f.sz+1)).2 f (by omega) o c
theorem walk_it:∀ i:It,WalkP (.it i)
 | .path p s=>walk_path p s
 | .pathn q m p s=>walk_pathn q m p s
 | .value ns none vs=>walk_valuen ns vs fun v _=>walk_ty v.2
 | .value ns (some t) vs=>walk_valuet ns t vs (walk_ty t) fun v _=>walk_ty v.2
 | .type p s t=>walk_type p s t (walk_ty t)
 | .alias p s q t=>walk_alias p s q t (walk_ty t)
theorem walk_dc:∀ d:Dc,WalkP (.dc d)
 | .gen wd p it=>walk_gen wd p it fun v _=>walk_it v
 | .group wd p o its c=>walk_group wd p o its c fun v _=>walk_it v
 | .func p none np s o ps c b o' rs c' none=>walk_funcnn p np s o ps c b o' rs c' (walk_ty _)
 | .func p none np s o ps c b o' rs c' (some (bo,bc))=>walk_funcnb p np s o ps c b o' rs c' bo bc (walk_ty _)
 | .func p (some (ro,rf,rc)) np s o ps c b o' rs c' none=>walk_funcrn p ro rf rc np s o ps c b o' rs c' (walk_ty _) (walk_fls ro rf rc)
 | .func p (some (ro,rf,rc)) np s o ps c b o' rs c' (some (bo,bc))=>walk_funcrb p ro rf rc np s o ps c b o' rs c' bo bc (walk_ty _) (walk_fls ro rf rc)
end
section
open Go
section
variable {P:Program} {L n:Nat} {ops:Array Oper} {Q:Exit→Act→World→Prop} {md:Region.Mode}
theorem wpIn_of_wp {o:Oper} {a:Act} {w:World} {K:Act→World→Prop} (hd:∀ c,o.op≠.defer c) (h:o.wp P a w K Q):o.wpIn (Fence.wide.inRound L) n P a w K Q:=by
 refine ⟨fun _ _=>trivial,?_⟩
 rw [Fence.inRound_round,Oper.semAt_some _ _ _ hd]
 unfold Oper.wp at h
 generalize (execOp a.eval o).run P w=r at *
 have hdep:(Fence.wide.inRound L).depth.isSome=true→1≤n:=by simp [Fence.wide]
 cases r with
 | ok x w' =>
  cases x <;> simp only [Oper.upon,Oper.uponIn] at h ⊢
  case value=>exact h
  case skip=>exact h
  case defer=>exact h
  case enter=>exact ⟨hdep,(callsIn_wide.2 h:CallsIn Fence.wide _ _ _ _ _ _)⟩
  case row=>exact ⟨hdep,fun c cs _=>let ⟨v,w',r,s⟩:=h c cs;⟨v,w',r,(stepsIn_wide.2 s:StepsIn (Machine.fenced P Fence.wide) P _ _)⟩⟩
 | halt x w'=>cases x <;> simp only [Oper.upon,Oper.uponIn] at h ⊢ <;> exact h
theorem wpOpIn_of_wpOp {i:Nat} {a:Act} {w:World} {K:Act→World→Prop} (hno:¬ LetsOut Q) (hd:∀ (i:Nat) (o:Oper),ops[i]?=some o→∀ c,o.op≠.defer c) (h:wpOp P ops Q i K a w):wpOpIn (Fence.wide.inRound L) n P ops Q i K a w:=by
 unfold wpOp at h
 unfold wpOpIn
 cases ho:ops[i]? with
 | none=>simpa [ho] using h
 | some o =>
  simp only [ho] at h ⊢
  split
  ·rename_i hw
   rw [if_pos hw] at h
   rcases h with h | h
   ·exact wpIn_of_wp (hd i o ho) h
   ·exact absurd h.2 hno
  ·rename_i hw
   rw [if_neg hw] at h
   exact ⟨fun _ _=>trivial,h⟩
theorem wpAnyIn_of_wpAny (hno:¬ LetsOut Q) (hd:∀ (i:Nat) (o:Oper),ops[i]?=some o→∀ c,o.op≠.defer c):∀ (fuel:Nat) (listed:Array Bool) (a:Act) (w:World),wpAny P md ops Q fuel listed a w→wpAnyIn (Fence.wide.inRound L) n P md ops Q fuel listed a w
 | 0,_,_,_,h=>h
 | fuel+1,listed,a,w,h=>⟨h.1,fun i hi=>wpOpIn_of_wpOp hno hd (wpOp_mono (fun a' w' h'=>wpAnyIn_of_wpAny hno hd fuel _ a' w' h') (h.2 i hi))⟩
theorem wpIn_region_round {id:Nat} {a:Act} {w:World} (hm:P.follows .mixedOrders=true) (hno:¬ LetsOut Q) (hd:∀ (i:Nat) (o:Oper),ops[i]?=some o→∀ c,o.op≠.defer c)
 (h:wpAny P .any ops Q ops.size (Array.replicate ops.size false) a w.drew):(Code.region id ops true).wpIn (Fence.wide.inRound L) n P Q a w :=
 wpIn_region_any hm (wpAnyIn_of_wpAny hno hd _ _ _ _ h)
end
def isDefer (o:Oper):Bool:=match o.op with | .defer _=>true | _=>false
theorem no_defer {ops:Array Oper} (h:(ops.all fun o=>!isDefer o)=true):∀ (i:Nat) (o:Oper),ops[i]?=some o→∀ c,o.op≠.defer c:=by
 intro i o hi c hc
 obtain ⟨hlt,rfl⟩:=Array.getElem?_eq_some_iff.1 hi
 have:=Array.all_eq_true.1 h i hlt
 simp [isDefer,hc] at this
theorem wpIn_range {P:Program} {n:Nat} {g:Operand} {ps:Array Tmp} {assign body:Code} {Q:Exit→Act→World→Prop} {a:Act} {w:World} {gf:Nat} {lb:Array Value}
 (hg:a.eval g=.func (.func gf) #[] lb) (eg:∀ args w,(callFunc gf args).run P w=.ok (.enter gf args) w)
 (h:∀ fn,CallsIn Fence.wide (n - 1) P gf (#[.func (.yield (w.heap.size+1)) #[] #[]]++lb) ((w.alloc (.deferred (some []))).alloc (.loop { state:=.ready,pending:=none,fn,tmps:=a.tmps,params:=ps,assign,body,defers:=w.heap.size }))
   (rangePost Fence.wide n P (w.heap.size+1) Q { a with defers:={ target:=.collected w.heap.size,args:=#[] }::a.defers })) :
 (Code.rangeFunc g ps assign body).wpIn Fence.wide n P Q a w:=by
 refine wpIn_rangeFunc ?_
 intro fn _
 have h1:=h fn
 generalize hW1:(w.alloc (.deferred (some []))).alloc (.loop { state:=.ready,pending:=none,fn,tmps:=a.tmps,params:=ps,assign,body,defers:=w.heap.size })=W1 at h1
 have hro:Fence.wide.round=none:=rfl
 rw [hro]
 have e1:(Instr.enterLoop fn a.tmps ps assign body none).run P w=.ok (w.heap.size+1,[{ target:=.collected w.heap.size,args:=#[] }]) W1:=by rw [← hW1];exact run_enterLoop_outer _ _ _ _ _
 have e2:(resolve a.eval (rangeCall g (w.heap.size+1)) 0).run P W1=.ok { target:=.fn (.func gf) lb,args:=#[.func (.yield (w.heap.size+1)) #[] #[]] } W1:=by
  simp only [resolve,hg]
  simp [go_sem]
 have e3:(invoke (Target.fn (.func gf) lb) #[.func (.yield (w.heap.size+1)) #[] #[]]).run P W1=.ok (.enter gf (#[.func (.yield (w.heap.size+1)) #[] #[]]++lb)) W1:=by
  simp [invoke,go_sem,eg]
 exact ⟨_,_,W1,_,W1,gf,_,W1,e1,e2,fun f' _=>trivial,e3,fun hd=>by simp [Fence.wide] at hd,h1⟩
end
section
open Go Go.RowKit
structure PrInv (L:Nat) (r:Loop) (O Y:Nat) (J:World→List Pl→Prop) (w:World) (l:List Pl):Prop where
 lp:w.heap[L]?=some (.loop r)
 ok:w.heap[O]?=some (.cells #[.bool true] 4 (0,0))
 yl:w.heap[Y]?=some (.cells #[.func (.yield L) #[] #[]] 61 (0,0))
 out:J w l
structure Rnd (L:Nat) (r:Loop) (O Y:Nat) (F S:Nat→Prop) (J:World→List Pl→Prop):Prop where
 round:∀ (n:Nat) (w:World) (l:List Pl) (x:Th) (u:Value),PrInv L r O Y J w l→x.At w F u→x.ok→l.length < 1048576 →
  RoundIn Fence.wide n Tryz.prog L r.fn (r.tmps.setIfInBounds 13 (.iface x.ty' u)) r.assign r.body w fun e w'=>e=.returned (.bool true)∧PrInv L r O Y J w' (l++[x.pl])∧Kp S w w'
 params:r.params=#[13]
 setO:∀ (w:World) (l:List Pl) (v:Value),PrInv L r O Y J w l→J (w.setCell ⟨O,0,none⟩ v) l
 ne:O≠L∧O≠Y
 sO:S O
 apart:∀ b,F b→¬ S b
theorem PrInv.set {L:Nat} {r:Loop} {O Y:Nat} {F S:Nat→Prop} {J:World→List Pl→Prop} (hR:Rnd L r O Y F S J) {w:World} {l:List Pl} (h:PrInv L r O Y J w l):PrInv L r O Y J (w.setCell ⟨O,0,none⟩ (.bool true)) l :=
 ⟨setOther h.lp hR.ne.1.symm _,setOf h.ok 0 _,setOther h.yl hR.ne.2.symm _,hR.setO w l _ h⟩
theorem clo_c {L:Nat} {r:Loop} {O Y:Nat} {F S:Nat→Prop} {J:World→List Pl→Prop} (hR:Rnd L r O Y F S J) (w:World) (l:List Pl) (x:Th) (u:Value) (hI:PrInv L r O Y J w l) (hat:x.At w F u) (hok:x.ok) (hlen:l.length < 1048576) :
 Calls Tryz.prog 38 #[.iface x.ty' u,.pointer (some ⟨O,0,none⟩),.pointer (some ⟨Y,0,none⟩)] w fun e w'=>e=.returned (.bool true)∧PrInv L r O Y J w' (l++[x.pl])∧Kp S w w':=by
 have hyd:=run_yield (P:=Tryz.prog) (args:=#[.iface x.ty' u]) hI.lp (by rw [hR.params];rfl)
 have htm:(r.params.zip #[Value.iface x.ty' u]).foldl (fun tmps (t,a)=>tmps.setIfInBounds t a) r.tmps=r.tmps.setIfInBounds 13 (.iface x.ty' u):=by
  rw [hR.params,← Array.foldl_toList,Array.toList_zip];rfl
 rw [htm] at hyd
 have o0:=cO hI.ok 0 _ rfl
 have y0:=cO hI.yl 0 _ rfl
 have HX:=hd_ (fun n=>hR.round n w l x u hI hat hok hlen)
 have HR:=hd_ hR
 clear htm hI hat hok hR hlen
 refine (callsIn_wide (n:=5)).1 ?_
 refine callsIn_of_wp Tryz.func38 rfl trivial ?_ rfl
 simp only [Tryz.ntmps38,List.size_toArray,lc_,ln_,Nat.reduceAdd,Nat.reduceSub,Array.replicate_succ,Array.replicate_zero,List.push_toArray,List.append_toArray,List.nil_append,List.cons_append]
 gi_wp2
 refine (HX.out 4).mono ?_
 rintro e w2 ⟨rfl,hI2,hK2⟩
 have o1:=cO hI2.ok 0 _ rfl
 have f1:=fO hI2.ok 0
 have HI2:=a2_ hI2 hK2
 clear hI2 hK2
 gi_wp2
 go_ret
 exact ⟨rfl,HI2.out.1.set HR.out,HI2.out.2.setCell (fun _=>HR.out.sO) _⟩
theorem clon_c {L:Nat} {r:Loop} {O Y:Nat} {J:World→List Pl→Prop} (w:World) (l:List Pl) (hI:PrInv L r O Y J w l) :
 Calls Tryz.prog 38 #[.nilIface,.pointer (some ⟨O,0,none⟩),.pointer (some ⟨Y,0,none⟩)] w fun e w'=>e=.returned (.bool true)∧w'=w:=by
 have o0:=cO hI.ok 0 _ rfl
 clear hI
 go_enter Tryz.func38,Tryz.ntmps38
 go_wp2_with fail
 go_ret
 exact ⟨rfl,rfl⟩
theorem vis_of {L:Nat} {r:Loop} {O Y:Nat} {F S:Nat→Prop} {J:World→List Pl→Prop} (hR:Rnd L r O Y F S J):Vis #[.pointer (some ⟨O,0,none⟩),.pointer (some ⟨Y,0,none⟩)] F S (PrInv L r O Y J) where
 apart:=hR.apart
 node:=by
  intro w l x u hI hat hok hlen
  have HC:=hd_ (clo_c hR w l x u hI hat hok hlen)
  clear hI hat hok hR hlen
  go_enter Tryz.func143,Tryz.ntmps143
  go_wp2_with fail
  refine HC.out.mono ?_
  rintro e w2 ⟨rfl,hI2,hK2⟩
  have HI2:=a2_ hI2 hK2
  clear hI2 hK2
  go_wp2_with fail
  go_ret
  exact ⟨rfl,HI2.out⟩
 nil:=by
  intro w l hI
  have HI:=hd_ hI
  have HC:=hd_ (clon_c w l hI)
  clear hI hR
  go_enter Tryz.func143,Tryz.ntmps143
  go_wp2_with fail
  refine HC.out.mono ?_
  rintro e w2 ⟨rfl,rfl⟩
  go_wp2_with fail
  go_ret
  exact ⟨⟨_,rfl⟩,HI.out,Kp.refl _ _⟩
theorem inspect_c (d:Dc) (cap:Array Value) (F S:Nat→Prop) (Inv:World→List Pl→Prop) (hV:Vis cap F S Inv) (w:World) (l:List Pl) (u:Value) (hI:Inv w l) (hat:d.At w F u) (hok:(Th.dc d).ok) (hlen:l.length+d.pre.length≤1048576) :
 Calls Tryz.prog 37 #[.iface d.ty u,VF cap] w fun e w'=>(∃ v,e=.returned v)∧Inv w' (l++d.pre)∧Kp S w w':=by
 have HC:=hd_ (walk_dc d cap F S Inv hV w l u hI hat hok hlen)
 clear hI hat hok hV hlen
 go_enter Tryz.func37,Tryz.ntmps37
 go_wp2_with fail
 refine HC.out.mono ?_
 rintro e w2 ⟨⟨v,rfl⟩,hI2,hK2⟩
 have HI2:=a2_ hI2 hK2
 clear hI2 hK2
 go_wp2_with fail
 exact bodyPost_end (v:=.tuple #[]) (by simp [results,Tryz.results37,go_sem]) rfl ⟨⟨_,rfl⟩,HI2.out⟩
theorem pre_c (d:Dc) (F S:Nat→Prop) (J:World→List Pl→Prop) (w:World) (L b1:Nat) (r:Loop) (u:Value) (hL:w.heap[L]?=some (.loop r)) (h1:w.heap[b1]?=some (.cells #[.iface d.ty u] 46 (0,0))) (hat:d.At w F u) (hok:(Th.dc d).ok) (hlen:d.pre.length≤1048576)
 (hJ:∀ o o',J ((w.alloc o).alloc o') []) (hR:Rnd L r (w.heap.size+1) w.heap.size F S J) :
 Calls Tryz.prog 36 #[.func (.yield L) #[] #[],.pointer (some ⟨b1,0,none⟩)] w fun e w'=>(∃ v,e=.returned v)∧PrInv L r (w.heap.size+1) w.heap.size J w' d.pre∧Kp S w w':=by
 have HI:Hid (Calls Tryz.prog 37 #[.iface d.ty u,VF #[.pointer (some ⟨w.heap.size+1,0,none⟩),.pointer (some ⟨w.heap.size,0,none⟩)]] ((w.alloc (.cells #[.func (.yield L) #[] #[]] 61 (0,0))).alloc (.cells #[.bool true] 4 (0,0))) fun e w'=>(∃ v,e=.returned v)∧PrInv L r (w.heap.size+1) w.heap.size J w' ([]++d.pre)∧Kp S ((w.alloc (.cells #[.func (.yield L) #[] #[]] 61 (0,0))).alloc (.cells #[.bool true] 4 (0,0))) w'):=by
  refine inspect_c d _ F S _ (vis_of hR) _ [] u ⟨allocOf (allocOf hL _) _,newOf2 w _ _,allocOf (newOf w _) _,hJ _ _⟩ ?_ hok (by simpa using hlen)
  exact Dc.At.stay (fun b hb hFb=>⟨(Below.heap_alloc _ _ _ (by simp;omega)).trans (Below.heap_alloc _ _ _ hb),hFb⟩) d u hat
 have c1:=cO h1 0 _ rfl
 have hb:=ltb h1
 clear hL h1 hat hok hJ hR hlen
 go_enter Tryz.func36,Tryz.ntmps36
 go_wp2_with fail
 refine HI.out.mono ?_
 rintro e w2 ⟨⟨v,rfl⟩,hI2,hK2⟩
 have HI2:=a2_ hI2 hK2
 clear hI2 hK2
 go_wp2_with fail
 exact bodyPost_end (v:=.tuple #[]) (by simp [results,Tryz.results36,go_sem]) rfl ⟨⟨_,rfl⟩,HI2.out.1,((Kp.refl S w).alloc _ |>.alloc _).trans' HI2.out.2⟩
theorem preorder_c (w:World) (T:TypeId) (u:Value) :
 Calls Tryz.prog 14 #[.iface T u] w fun e w'=>e=.returned (.func (.func 36) #[] #[.pointer (some ⟨w.heap.size,0,none⟩)])∧w'=w.alloc (.cells #[.iface T u] 46 (0,0)):=by
 go_enter Tryz.func14,Tryz.ntmps14
 go_wp2_with fail
 go_ret
 exact ⟨rfl,rfl⟩
end
end Go.Proofs.YtnkbglhdpmbgfaaGreatFmt
