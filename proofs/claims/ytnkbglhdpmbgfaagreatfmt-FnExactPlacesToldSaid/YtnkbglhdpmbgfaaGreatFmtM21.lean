/- A part of the proof; no condition: WalkA, WalkB, WalkD. -/
import Derived.Test.YtnkbglhdpmbgfaaGreatFmtM
import Derived.Test.YtnkbglhdpmbgfaaGreatFmtM20
set_option linter.all false
set_option maxHeartbeats 16000000
set_option maxRecDepth 100000
namespace Go.Proofs.YtnkbglhdpmbgfaaGreatFmt
section
open Go Go.RowKit
theorem walk_name (p:Int) (s:ByteArray) :WalkP (.ty (.name p s)):=by
 intro cap F S Inv hV w l u hI h hok hN
 have HLEN:=hd_ hN;clear hN
 have hself:=h
 obtain ⟨b0,rfl,hF0,hb⟩:=h
 have lb:=ltb hb
 have ha:=hV.apart
 have nS:¬ S b0:=hV.apart b0 hF0
 have HV:=hd_ hV;have HSELF:=hd_ hself;have HI:=hd_ hI;have HOK:=hd_ hok
 clear hV hself hI hok hb
 have nv:=nv_Visit;have mv:=mv_Visit
 simp only [Th.ty',Ty.ty,It.ty,Dc.ty]
 go_enter Tryz.func57,Tryz.ntmps57
 go_wp2_with fail
 refine (HV.out.node w l (.ty (.name p s)) (.pointer (some ⟨b0,0,none⟩)) HI.out HSELF.out HOK.out (by have hN:=HLEN.out;simp only [Th.pre,Ty.pre,It.pre,Dc.pre,tyPre,rvPre,bdPre,tagPl,itsPre,thsPre_nms,thsPre_fds,thsPre_vls,thsPre_its,la_,lc_,ln_,lm_,if_true,Bool.false_eq_true,if_false] at hN ⊢;omega)).mono ?_
 rintro e w1 ⟨rfl,hI1,hK1⟩
 have ks1:Kp S w w1:=hK1
 have lb1:b0 < w1.heap.size:=Nat.lt_of_lt_of_le lb ks1.size
 have HI1:=hd_ hI1;have HK1:=hd_ ks1;clear hI1 hK1 ks1
 go_wp2_with fail
 refine (HV.out.nil w1 _ HI1.out).mono ?_
 rintro e w2 ⟨⟨vn,rfl⟩,hI2,hK2⟩
 have ks2:Kp S w w2:=HK1.out.trans' hK2
 have lb2:b0 < w2.heap.size:=Nat.lt_of_lt_of_le lb ks2.size
 have HI2:=hd_ hI2;have HK2:=hd_ ks2;clear hI2 hK2 ks2
 go_wp2_with fail
 refine bodyPost_end (v:=.tuple #[]) (by simp [results,Tryz.results57,go_sem]) rfl ⟨⟨_,rfl⟩,?_,HK2.out⟩
 have hfin:=HI2.out
 try simp only [aa_] at hfin
 simpa [Th.pre,Th.pl,Th.kind,Th.pos,Th.fin,Ty.pre,Ty.kind,Ty.pos,Ty.fin] using hfin
theorem walk_lit (p:Int) (s:ByteArray) :WalkP (.ty (.lit p s)):=by
 intro cap F S Inv hV w l u hI h hok hN
 have HLEN:=hd_ hN;clear hN
 have hself:=h
 obtain ⟨b0,rfl,hF0,hb⟩:=h
 have lb:=ltb hb
 have ha:=hV.apart
 have nS:¬ S b0:=hV.apart b0 hF0
 have HV:=hd_ hV;have HSELF:=hd_ hself;have HI:=hd_ hI;have HOK:=hd_ hok
 clear hV hself hI hok hb
 have nv:=nv_Visit;have mv:=mv_Visit
 simp only [Th.ty',Ty.ty,It.ty,Dc.ty]
 go_enter Tryz.func57,Tryz.ntmps57
 go_wp2_with fail
 refine (HV.out.node w l (.ty (.lit p s)) (.pointer (some ⟨b0,0,none⟩)) HI.out HSELF.out HOK.out (by have hN:=HLEN.out;simp only [Th.pre,Ty.pre,It.pre,Dc.pre,tyPre,rvPre,bdPre,tagPl,itsPre,thsPre_nms,thsPre_fds,thsPre_vls,thsPre_its,la_,lc_,ln_,lm_,if_true,Bool.false_eq_true,if_false] at hN ⊢;omega)).mono ?_
 rintro e w1 ⟨rfl,hI1,hK1⟩
 have ks1:Kp S w w1:=hK1
 have lb1:b0 < w1.heap.size:=Nat.lt_of_lt_of_le lb ks1.size
 have HI1:=hd_ hI1;have HK1:=hd_ ks1;clear hI1 hK1 ks1
 go_wp2_with fail
 refine (HV.out.nil w1 _ HI1.out).mono ?_
 rintro e w2 ⟨⟨vn,rfl⟩,hI2,hK2⟩
 have ks2:Kp S w w2:=HK1.out.trans' hK2
 have lb2:b0 < w2.heap.size:=Nat.lt_of_lt_of_le lb ks2.size
 have HI2:=hd_ hI2;have HK2:=hd_ ks2;clear hI2 hK2 ks2
 go_wp2_with fail
 refine bodyPost_end (v:=.tuple #[]) (by simp [results,Tryz.results57,go_sem]) rfl ⟨⟨_,rfl⟩,?_,HK2.out⟩
 have hfin:=HI2.out
 try simp only [aa_] at hfin
 simpa [Th.pre,Th.pl,Th.kind,Th.pos,Th.fin,Ty.pre,Ty.kind,Ty.pos,Ty.fin] using hfin
theorem walk_star (p:Int) (x:Ty) (hx:WalkP (.ty x)):WalkP (.ty (.star p x)):=by
 intro cap F S Inv hV w l u hI h hok hN
 have HLEN:=hd_ hN;clear hN
 have hself:=h
 simp only [Th.At,Ty.At] at h
 obtain ⟨v,⟨b0,rfl,hF0,hb⟩,hat⟩:=h
 obtain ⟨vb,rfl⟩:=hat.ptr
 have HAT:=hd_ hat;clear hat
 have HX:=hd_ hx;clear hx
 have hokx:(Th.ty x).ok:=by obtain ⟨⟨z,hz⟩,hs⟩:=hok;simp only [Ty.ok] at hz;simp only [Ty.nd,fl,Nd.miss,Nd.size,Nd.sizeL] at hs;exact ⟨⟨false,hz.2.2⟩,by omega⟩
 have lb:=ltb hb
 have c1:=cO hb 1 _ rfl
 have ha:=hV.apart
 have nS:¬ S b0:=hV.apart b0 hF0
 have HV:=hd_ hV;have HSELF:=hd_ hself;have HI:=hd_ hI;have HOK:=hd_ hok
 clear hV hself hI hok hb
 have nv:=nv_Visit;have mv:=mv_Visit
 simp only [Th.ty',Ty.ty,It.ty,Dc.ty]
 go_enter Tryz.func57,Tryz.ntmps57
 go_wp2_with fail
 refine (HV.out.node w l (.ty (.star p x)) (.pointer (some ⟨b0,0,none⟩)) HI.out HSELF.out HOK.out (by have hN:=HLEN.out;simp only [Th.pre,Ty.pre,It.pre,Dc.pre,tyPre,rvPre,bdPre,tagPl,itsPre,thsPre_nms,thsPre_fds,thsPre_vls,thsPre_its,la_,lc_,ln_,lm_,if_true,Bool.false_eq_true,if_false] at hN ⊢;omega)).mono ?_
 rintro e w1 ⟨rfl,hI1,hK1⟩
 have ks1:Kp S w w1:=hK1
 have d1_1:=(ks1.cell lb nS).trans c1
 have lb1:b0 < w1.heap.size:=Nat.lt_of_lt_of_le lb ks1.size
 have HI1:=hd_ hI1;have HK1:=hd_ ks1;clear hI1 hK1 ks1
 go_wp2_with fail
 refine (HX.out cap F S Inv HV.out w1 _ (.pointer (some ⟨vb,0,none⟩)) HI1.out (Th.At.on (show Th.At w F (.ty x) _ from HAT.out) HK1.out ha) hokx (by have hN:=HLEN.out;simp only [Th.pre,Ty.pre,It.pre,Dc.pre,tyPre,rvPre,bdPre,tagPl,itsPre,thsPre_nms,thsPre_fds,thsPre_vls,thsPre_its,la_,lc_,ln_,lm_,if_true,Bool.false_eq_true,if_false] at hN ⊢;omega)).mono ?_
 rintro e w2 ⟨⟨v2,rfl⟩,hI2,hK2⟩
 have ks2:Kp S w w2:=HK1.out.trans' hK2
 have d2_1:=(ks2.cell lb nS).trans c1
 have lb2:b0 < w2.heap.size:=Nat.lt_of_lt_of_le lb ks2.size
 have HI2:=hd_ hI2;have HK2:=hd_ ks2;clear hI2 hK2 ks2
 go_wp2_with fail
 refine (HV.out.nil w2 _ HI2.out).mono ?_
 rintro e w3 ⟨⟨vn,rfl⟩,hI3,hK3⟩
 have ks3:Kp S w w3:=HK2.out.trans' hK3
 have d3_1:=(ks3.cell lb nS).trans c1
 have lb3:b0 < w3.heap.size:=Nat.lt_of_lt_of_le lb ks3.size
 have HI3:=hd_ hI3;have HK3:=hd_ ks3;clear hI3 hK3 ks3
 go_wp2_with fail
 refine bodyPost_end (v:=.tuple #[]) (by simp [results,Tryz.results57,go_sem]) rfl ⟨⟨_,rfl⟩,?_,HK3.out⟩
 have hfin:=HI3.out
 try simp only [aa_] at hfin
 simpa [Th.pre,Th.pl,Th.kind,Th.pos,Th.fin,Ty.pre,Ty.kind,Ty.pos,Ty.fin] using hfin
theorem walk_sl (p q:Int) (x:Ty) (hx:WalkP (.ty x)):WalkP (.ty (.sl p q x)):=by
 intro cap F S Inv hV w l u hI h hok hN
 have HLEN:=hd_ hN;clear hN
 have hself:=h
 simp only [Th.At,Ty.At] at h
 obtain ⟨v,⟨b0,rfl,hF0,hb⟩,hat⟩:=h
 obtain ⟨vb,rfl⟩:=hat.ptr
 have HAT:=hd_ hat;clear hat
 have HX:=hd_ hx;clear hx
 have hokx:(Th.ty x).ok:=by obtain ⟨⟨z,hz⟩,hs⟩:=hok;simp only [Ty.ok] at hz;simp only [Ty.nd,fl,Nd.miss,Nd.size,Nd.sizeL] at hs;exact ⟨⟨false,hz.2.2.2⟩,by omega⟩
 have lb:=ltb hb
 have c1:=cO hb 1 _ rfl
 have c2:=cO hb 2 _ rfl
 have ha:=hV.apart
 have nS:¬ S b0:=hV.apart b0 hF0
 have HV:=hd_ hV;have HSELF:=hd_ hself;have HI:=hd_ hI;have HOK:=hd_ hok
 clear hV hself hI hok hb
 have nv:=nv_Visit;have mv:=mv_Visit
 simp only [Th.ty',Ty.ty,It.ty,Dc.ty]
 go_enter Tryz.func57,Tryz.ntmps57
 go_wp2_with fail
 refine (HV.out.node w l (.ty (.sl p q x)) (.pointer (some ⟨b0,0,none⟩)) HI.out HSELF.out HOK.out (by have hN:=HLEN.out;simp only [Th.pre,Ty.pre,It.pre,Dc.pre,tyPre,rvPre,bdPre,tagPl,itsPre,thsPre_nms,thsPre_fds,thsPre_vls,thsPre_its,la_,lc_,ln_,lm_,if_true,Bool.false_eq_true,if_false] at hN ⊢;omega)).mono ?_
 rintro e w1 ⟨rfl,hI1,hK1⟩
 have ks1:Kp S w w1:=hK1
 have d1_1:=(ks1.cell lb nS).trans c1
 have d1_2:=(ks1.cell lb nS).trans c2
 have lb1:b0 < w1.heap.size:=Nat.lt_of_lt_of_le lb ks1.size
 have HI1:=hd_ hI1;have HK1:=hd_ ks1;clear hI1 hK1 ks1
 go_wp2_with fail
 refine (HX.out cap F S Inv HV.out w1 _ (.pointer (some ⟨vb,0,none⟩)) HI1.out (Th.At.on (show Th.At w F (.ty x) _ from HAT.out) HK1.out ha) hokx (by have hN:=HLEN.out;simp only [Th.pre,Ty.pre,It.pre,Dc.pre,tyPre,rvPre,bdPre,tagPl,itsPre,thsPre_nms,thsPre_fds,thsPre_vls,thsPre_its,la_,lc_,ln_,lm_,if_true,Bool.false_eq_true,if_false] at hN ⊢;omega)).mono ?_
 rintro e w2 ⟨⟨v2,rfl⟩,hI2,hK2⟩
 have ks2:Kp S w w2:=HK1.out.trans' hK2
 have d2_1:=(ks2.cell lb nS).trans c1
 have d2_2:=(ks2.cell lb nS).trans c2
 have lb2:b0 < w2.heap.size:=Nat.lt_of_lt_of_le lb ks2.size
 have HI2:=hd_ hI2;have HK2:=hd_ ks2;clear hI2 hK2 ks2
 go_wp2_with fail
 refine (HV.out.nil w2 _ HI2.out).mono ?_
 rintro e w3 ⟨⟨vn,rfl⟩,hI3,hK3⟩
 have ks3:Kp S w w3:=HK2.out.trans' hK3
 have d3_1:=(ks3.cell lb nS).trans c1
 have d3_2:=(ks3.cell lb nS).trans c2
 have lb3:b0 < w3.heap.size:=Nat.lt_of_lt_of_le lb ks3.size
 have HI3:=hd_ hI3;have HK3:=hd_ ks3;clear hI3 hK3 ks3
 go_wp2_with fail
 refine bodyPost_end (v:=.tuple #[]) (by simp [results,Tryz.results57,go_sem]) rfl ⟨⟨_,rfl⟩,?_,HK3.out⟩
 have hfin:=HI3.out
 try simp only [aa_] at hfin
 simpa [Th.pre,Th.pl,Th.kind,Th.pos,Th.fin,Ty.pre,Ty.kind,Ty.pos,Ty.fin] using hfin
theorem walk_ch (p:Int) (x:Ty) (hx:WalkP (.ty x)):WalkP (.ty (.ch p x)):=by
 intro cap F S Inv hV w l u hI h hok hN
 have HLEN:=hd_ hN;clear hN
 have hself:=h
 simp only [Th.At,Ty.At] at h
 obtain ⟨a,v,⟨b0,rfl,hF0,hb⟩,hat⟩:=h
 obtain ⟨vb,rfl⟩:=hat.ptr
 have HAT:=hd_ hat;clear hat
 have HX:=hd_ hx;clear hx
 have hokx:(Th.ty x).ok:=by obtain ⟨⟨z,hz⟩,hs⟩:=hok;simp only [Ty.ok] at hz;simp only [Ty.nd,fl,Nd.miss,Nd.size,Nd.sizeL] at hs;exact ⟨⟨false,hz.2.2⟩,by omega⟩
 have lb:=ltb hb
 have c3:=cO hb 3 _ rfl
 have ha:=hV.apart
 have nS:¬ S b0:=hV.apart b0 hF0
 have HV:=hd_ hV;have HSELF:=hd_ hself;have HI:=hd_ hI;have HOK:=hd_ hok
 clear hV hself hI hok hb
 have nv:=nv_Visit;have mv:=mv_Visit
 simp only [Th.ty',Ty.ty,It.ty,Dc.ty]
 go_enter Tryz.func57,Tryz.ntmps57
 go_wp2_with fail
 refine (HV.out.node w l (.ty (.ch p x)) (.pointer (some ⟨b0,0,none⟩)) HI.out HSELF.out HOK.out (by have hN:=HLEN.out;simp only [Th.pre,Ty.pre,It.pre,Dc.pre,tyPre,rvPre,bdPre,tagPl,itsPre,thsPre_nms,thsPre_fds,thsPre_vls,thsPre_its,la_,lc_,ln_,lm_,if_true,Bool.false_eq_true,if_false] at hN ⊢;omega)).mono ?_
 rintro e w1 ⟨rfl,hI1,hK1⟩
 have ks1:Kp S w w1:=hK1
 have d1_3:=(ks1.cell lb nS).trans c3
 have lb1:b0 < w1.heap.size:=Nat.lt_of_lt_of_le lb ks1.size
 have HI1:=hd_ hI1;have HK1:=hd_ ks1;clear hI1 hK1 ks1
 go_wp2_with fail
 refine (HX.out cap F S Inv HV.out w1 _ (.pointer (some ⟨vb,0,none⟩)) HI1.out (Th.At.on (show Th.At w F (.ty x) _ from HAT.out) HK1.out ha) hokx (by have hN:=HLEN.out;simp only [Th.pre,Ty.pre,It.pre,Dc.pre,tyPre,rvPre,bdPre,tagPl,itsPre,thsPre_nms,thsPre_fds,thsPre_vls,thsPre_its,la_,lc_,ln_,lm_,if_true,Bool.false_eq_true,if_false] at hN ⊢;omega)).mono ?_
 rintro e w2 ⟨⟨v2,rfl⟩,hI2,hK2⟩
 have ks2:Kp S w w2:=HK1.out.trans' hK2
 have d2_3:=(ks2.cell lb nS).trans c3
 have lb2:b0 < w2.heap.size:=Nat.lt_of_lt_of_le lb ks2.size
 have HI2:=hd_ hI2;have HK2:=hd_ ks2;clear hI2 hK2 ks2
 go_wp2_with fail
 refine (HV.out.nil w2 _ HI2.out).mono ?_
 rintro e w3 ⟨⟨vn,rfl⟩,hI3,hK3⟩
 have ks3:Kp S w w3:=HK2.out.trans' hK3
 have d3_3:=(ks3.cell lb nS).trans c3
 have lb3:b0 < w3.heap.size:=Nat.lt_of_lt_of_le lb ks3.size
 have HI3:=hd_ hI3;have HK3:=hd_ ks3;clear hI3 hK3 ks3
 go_wp2_with fail
 refine bodyPost_end (v:=.tuple #[]) (by simp [results,Tryz.results57,go_sem]) rfl ⟨⟨_,rfl⟩,?_,HK3.out⟩
 have hfin:=HI3.out
 try simp only [aa_] at hfin
 simpa [Th.pre,Th.pl,Th.kind,Th.pos,Th.fin,Ty.pre,Ty.kind,Ty.pos,Ty.fin] using hfin
theorem walk_chs (p q:Int) (x:Ty) (hx:WalkP (.ty x)):WalkP (.ty (.chs p q x)):=by
 intro cap F S Inv hV w l u hI h hok hN
 have HLEN:=hd_ hN;clear hN
 have hself:=h
 simp only [Th.At,Ty.At] at h
 obtain ⟨a,v,⟨b0,rfl,hF0,hb⟩,hat⟩:=h
 obtain ⟨vb,rfl⟩:=hat.ptr
 have HAT:=hd_ hat;clear hat
 have HX:=hd_ hx;clear hx
 have hokx:(Th.ty x).ok:=by obtain ⟨⟨z,hz⟩,hs⟩:=hok;simp only [Ty.ok] at hz;simp only [Ty.nd,fl,Nd.miss,Nd.size,Nd.sizeL] at hs;exact ⟨⟨false,hz.2.2.2⟩,by omega⟩
 have lb:=ltb hb
 have c3:=cO hb 3 _ rfl
 have ha:=hV.apart
 have nS:¬ S b0:=hV.apart b0 hF0
 have HV:=hd_ hV;have HSELF:=hd_ hself;have HI:=hd_ hI;have HOK:=hd_ hok
 clear hV hself hI hok hb
 have nv:=nv_Visit;have mv:=mv_Visit
 simp only [Th.ty',Ty.ty,It.ty,Dc.ty]
 go_enter Tryz.func57,Tryz.ntmps57
 go_wp2_with fail
 refine (HV.out.node w l (.ty (.chs p q x)) (.pointer (some ⟨b0,0,none⟩)) HI.out HSELF.out HOK.out (by have hN:=HLEN.out;simp only [Th.pre,Ty.pre,It.pre,Dc.pre,tyPre,rvPre,bdPre,tagPl,itsPre,thsPre_nms,thsPre_fds,thsPre_vls,thsPre_its,la_,lc_,ln_,lm_,if_true,Bool.false_eq_true,if_false] at hN ⊢;omega)).mono ?_
 rintro e w1 ⟨rfl,hI1,hK1⟩
 have ks1:Kp S w w1:=hK1
 have d1_3:=(ks1.cell lb nS).trans c3
 have lb1:b0 < w1.heap.size:=Nat.lt_of_lt_of_le lb ks1.size
 have HI1:=hd_ hI1;have HK1:=hd_ ks1;clear hI1 hK1 ks1
 go_wp2_with fail
 refine (HX.out cap F S Inv HV.out w1 _ (.pointer (some ⟨vb,0,none⟩)) HI1.out (Th.At.on (show Th.At w F (.ty x) _ from HAT.out) HK1.out ha) hokx (by have hN:=HLEN.out;simp only [Th.pre,Ty.pre,It.pre,Dc.pre,tyPre,rvPre,bdPre,tagPl,itsPre,thsPre_nms,thsPre_fds,thsPre_vls,thsPre_its,la_,lc_,ln_,lm_,if_true,Bool.false_eq_true,if_false] at hN ⊢;omega)).mono ?_
 rintro e w2 ⟨⟨v2,rfl⟩,hI2,hK2⟩
 have ks2:Kp S w w2:=HK1.out.trans' hK2
 have d2_3:=(ks2.cell lb nS).trans c3
 have lb2:b0 < w2.heap.size:=Nat.lt_of_lt_of_le lb ks2.size
 have HI2:=hd_ hI2;have HK2:=hd_ ks2;clear hI2 hK2 ks2
 go_wp2_with fail
 refine (HV.out.nil w2 _ HI2.out).mono ?_
 rintro e w3 ⟨⟨vn,rfl⟩,hI3,hK3⟩
 have ks3:Kp S w w3:=HK2.out.trans' hK3
 have d3_3:=(ks3.cell lb nS).trans c3
 have lb3:b0 < w3.heap.size:=Nat.lt_of_lt_of_le lb ks3.size
 have HI3:=hd_ hI3;have HK3:=hd_ ks3;clear hI3 hK3 ks3
 go_wp2_with fail
 refine bodyPost_end (v:=.tuple #[]) (by simp [results,Tryz.results57,go_sem]) rfl ⟨⟨_,rfl⟩,?_,HK3.out⟩
 have hfin:=HI3.out
 try simp only [aa_] at hfin
 simpa [Th.pre,Th.pl,Th.kind,Th.pos,Th.fin,Ty.pre,Ty.kind,Ty.pos,Ty.fin] using hfin
theorem walk_chr (p q:Int) (x:Ty) (hx:WalkP (.ty x)):WalkP (.ty (.chr p q x)):=by
 intro cap F S Inv hV w l u hI h hok hN
 have HLEN:=hd_ hN;clear hN
 have hself:=h
 simp only [Th.At,Ty.At] at h
 obtain ⟨a,v,⟨b0,rfl,hF0,hb⟩,hat⟩:=h
 obtain ⟨vb,rfl⟩:=hat.ptr
 have HAT:=hd_ hat;clear hat
 have HX:=hd_ hx;clear hx
 have hokx:(Th.ty x).ok:=by obtain ⟨⟨z,hz⟩,hs⟩:=hok;simp only [Ty.ok] at hz;simp only [Ty.nd,fl,Nd.miss,Nd.size,Nd.sizeL] at hs;exact ⟨⟨false,hz.2.2.2⟩,by omega⟩
 have lb:=ltb hb
 have c3:=cO hb 3 _ rfl
 have ha:=hV.apart
 have nS:¬ S b0:=hV.apart b0 hF0
 have HV:=hd_ hV;have HSELF:=hd_ hself;have HI:=hd_ hI;have HOK:=hd_ hok
 clear hV hself hI hok hb
 have nv:=nv_Visit;have mv:=mv_Visit
 simp only [Th.ty',Ty.ty,It.ty,Dc.ty]
 go_enter Tryz.func57,Tryz.ntmps57
 go_wp2_with fail
 refine (HV.out.node w l (.ty (.chr p q x)) (.pointer (some ⟨b0,0,none⟩)) HI.out HSELF.out HOK.out (by have hN:=HLEN.out;simp only [Th.pre,Ty.pre,It.pre,Dc.pre,tyPre,rvPre,bdPre,tagPl,itsPre,thsPre_nms,thsPre_fds,thsPre_vls,thsPre_its,la_,lc_,ln_,lm_,if_true,Bool.false_eq_true,if_false] at hN ⊢;omega)).mono ?_
 rintro e w1 ⟨rfl,hI1,hK1⟩
 have ks1:Kp S w w1:=hK1
 have d1_3:=(ks1.cell lb nS).trans c3
 have lb1:b0 < w1.heap.size:=Nat.lt_of_lt_of_le lb ks1.size
 have HI1:=hd_ hI1;have HK1:=hd_ ks1;clear hI1 hK1 ks1
 go_wp2_with fail
 refine (HX.out cap F S Inv HV.out w1 _ (.pointer (some ⟨vb,0,none⟩)) HI1.out (Th.At.on (show Th.At w F (.ty x) _ from HAT.out) HK1.out ha) hokx (by have hN:=HLEN.out;simp only [Th.pre,Ty.pre,It.pre,Dc.pre,tyPre,rvPre,bdPre,tagPl,itsPre,thsPre_nms,thsPre_fds,thsPre_vls,thsPre_its,la_,lc_,ln_,lm_,if_true,Bool.false_eq_true,if_false] at hN ⊢;omega)).mono ?_
 rintro e w2 ⟨⟨v2,rfl⟩,hI2,hK2⟩
 have ks2:Kp S w w2:=HK1.out.trans' hK2
 have d2_3:=(ks2.cell lb nS).trans c3
 have lb2:b0 < w2.heap.size:=Nat.lt_of_lt_of_le lb ks2.size
 have HI2:=hd_ hI2;have HK2:=hd_ ks2;clear hI2 hK2 ks2
 go_wp2_with fail
 refine (HV.out.nil w2 _ HI2.out).mono ?_
 rintro e w3 ⟨⟨vn,rfl⟩,hI3,hK3⟩
 have ks3:Kp S w w3:=HK2.out.trans' hK3
 have d3_3:=(ks3.cell lb nS).trans c3
 have lb3:b0 < w3.heap.size:=Nat.lt_of_lt_of_le lb ks3.size
 have HI3:=hd_ hI3;have HK3:=hd_ ks3;clear hI3 hK3 ks3
 go_wp2_with fail
 refine bodyPost_end (v:=.tuple #[]) (by simp [results,Tryz.results57,go_sem]) rfl ⟨⟨_,rfl⟩,?_,HK3.out⟩
 have hfin:=HI3.out
 try simp only [aa_] at hfin
 simpa [Th.pre,Th.pl,Th.kind,Th.pos,Th.fin,Ty.pre,Ty.kind,Ty.pos,Ty.fin] using hfin
end
section
open Go Go.RowKit
theorem walk_sel (x:Ty) (d p:Int) (s:ByteArray) (hx:WalkP (.ty x)):WalkP (.ty (.sel x d p s)):=by
 intro cap F S Inv hV w l u hI h hok hN
 have HLEN:=hd_ hN;clear hN
 have hself:=h
 simp only [Th.At,Ty.At] at h
 obtain ⟨v,i,⟨b0,rfl,hF0,hb⟩,hat,hi⟩:=h
 obtain ⟨vb,rfl⟩:=hat.ptr
 have HAT:=hd_ hat;clear hat
 have HX:=hd_ hx;clear hx
 obtain ⟨ib,rfl⟩:=hi.ptr
 have HID:Hid (Th.At w F (.ty (.name p s)) (.pointer (some ⟨ib,0,none⟩))):=hi;clear hi
 have hokx:(Th.ty x).ok:=by obtain ⟨⟨z,hz⟩,hs⟩:=hok;simp only [Ty.ok] at hz;simp only [Ty.nd,fl,Nd.miss,Nd.size,Nd.sizeL] at hs;exact ⟨⟨false,hz.2.1⟩,by omega⟩
 have hoki:(Th.ty (.name p s)).ok:=by obtain ⟨⟨z,hz⟩,_⟩:=hok;simp only [Ty.ok] at hz;exact ⟨⟨false,by simp only [Ty.ok];exact ⟨trivial,hz.2.2.2⟩⟩,by simp [Ty.nd,Nd.name,Nd.size,Nd.sizeL]⟩
 have lb:=ltb hb
 have c0:=cO hb 0 _ rfl
 have c1:=cO hb 1 _ rfl
 have ha:=hV.apart
 have nS:¬ S b0:=hV.apart b0 hF0
 have HV:=hd_ hV;have HSELF:=hd_ hself;have HI:=hd_ hI;have HOK:=hd_ hok
 clear hV hself hI hok hb
 have nv:=nv_Visit;have mv:=mv_Visit
 simp only [Th.ty',Ty.ty,It.ty,Dc.ty]
 go_enter Tryz.func57,Tryz.ntmps57
 go_wp2_with fail
 refine (HV.out.node w l (.ty (.sel x d p s)) (.pointer (some ⟨b0,0,none⟩)) HI.out HSELF.out HOK.out (by have hN:=HLEN.out;simp only [Th.pre,Ty.pre,It.pre,Dc.pre,tyPre,rvPre,bdPre,tagPl,itsPre,thsPre_nms,thsPre_fds,thsPre_vls,thsPre_its,la_,lc_,ln_,lm_,if_true,Bool.false_eq_true,if_false] at hN ⊢;omega)).mono ?_
 rintro e w1 ⟨rfl,hI1,hK1⟩
 have ks1:Kp S w w1:=hK1
 have d1_0:=(ks1.cell lb nS).trans c0
 have d1_1:=(ks1.cell lb nS).trans c1
 have lb1:b0 < w1.heap.size:=Nat.lt_of_lt_of_le lb ks1.size
 have HI1:=hd_ hI1;have HK1:=hd_ ks1;clear hI1 hK1 ks1
 go_wp2_with fail
 refine (HX.out cap F S Inv HV.out w1 _ (.pointer (some ⟨vb,0,none⟩)) HI1.out (Th.At.on (show Th.At w F (.ty x) _ from HAT.out) HK1.out ha) hokx (by have hN:=HLEN.out;simp only [Th.pre,Ty.pre,It.pre,Dc.pre,tyPre,rvPre,bdPre,tagPl,itsPre,thsPre_nms,thsPre_fds,thsPre_vls,thsPre_its,la_,lc_,ln_,lm_,if_true,Bool.false_eq_true,if_false] at hN ⊢;omega)).mono ?_
 rintro e w2 ⟨⟨v2,rfl⟩,hI2,hK2⟩
 have ks2:Kp S w w2:=HK1.out.trans' hK2
 have d2_0:=(ks2.cell lb nS).trans c0
 have d2_1:=(ks2.cell lb nS).trans c1
 have lb2:b0 < w2.heap.size:=Nat.lt_of_lt_of_le lb ks2.size
 have HI2:=hd_ hI2;have HK2:=hd_ ks2;clear hI2 hK2 ks2
 go_wp2_with fail
 refine (walk_name p s cap F S Inv HV.out w2 _ (.pointer (some ⟨ib,0,none⟩)) HI2.out (Th.At.on HID.out HK2.out ha) hoki (by have hN:=HLEN.out;simp only [Th.pre,Ty.pre,It.pre,Dc.pre,tyPre,rvPre,bdPre,tagPl,itsPre,thsPre_nms,thsPre_fds,thsPre_vls,thsPre_its,la_,lc_,ln_,lm_,if_true,Bool.false_eq_true,if_false] at hN ⊢;omega)).mono ?_
 rintro e w3 ⟨⟨v3,rfl⟩,hI3,hK3⟩
 have ks3:Kp S w w3:=HK2.out.trans' hK3
 have d3_0:=(ks3.cell lb nS).trans c0
 have d3_1:=(ks3.cell lb nS).trans c1
 have lb3:b0 < w3.heap.size:=Nat.lt_of_lt_of_le lb ks3.size
 have HI3:=hd_ hI3;have HK3:=hd_ ks3;clear hI3 hK3 ks3
 go_wp2_with fail
 refine (HV.out.nil w3 _ HI3.out).mono ?_
 rintro e w4 ⟨⟨vn,rfl⟩,hI4,hK4⟩
 have ks4:Kp S w w4:=HK3.out.trans' hK4
 have d4_0:=(ks4.cell lb nS).trans c0
 have d4_1:=(ks4.cell lb nS).trans c1
 have lb4:b0 < w4.heap.size:=Nat.lt_of_lt_of_le lb ks4.size
 have HI4:=hd_ hI4;have HK4:=hd_ ks4;clear hI4 hK4 ks4
 go_wp2_with fail
 refine bodyPost_end (v:=.tuple #[]) (by simp [results,Tryz.results57,go_sem]) rfl ⟨⟨_,rfl⟩,?_,HK4.out⟩
 have hfin:=HI4.out
 try simp only [aa_] at hfin
 simpa [Th.pre,Th.pl,Th.kind,Th.pos,Th.fin,Ty.pre,Ty.kind,Ty.pos,Ty.fin] using hfin
theorem walk_arr (p q:Int) (y x:Ty) (hy:WalkP (.ty y)) (hx:WalkP (.ty x)):WalkP (.ty (.arr p y q x)):=by
 intro cap F S Inv hV w l u hI h hok hN
 have HLEN:=hd_ hN;clear hN
 have hself:=h
 simp only [Th.At,Ty.At] at h
 obtain ⟨v,v',⟨b0,rfl,hF0,hb⟩,hat,hat'⟩:=h
 obtain ⟨vb,rfl⟩:=hat.ptr
 obtain ⟨vc,rfl⟩:=hat'.ptr
 have HAT:=hd_ hat;have HATT:=hd_ hat';clear hat hat'
 have HX:=hd_ hx;have HY:=hd_ hy;clear hx hy
 have hoky:(Th.ty y).ok:=by obtain ⟨⟨z,hz⟩,hs⟩:=hok;simp only [Ty.ok] at hz;simp only [Ty.nd,fl,Nd.miss,Nd.size,Nd.sizeL] at hs;exact ⟨⟨false,hz.2.2.1⟩,by omega⟩
 have hokx:(Th.ty x).ok:=by obtain ⟨⟨z,hz⟩,hs⟩:=hok;simp only [Ty.ok] at hz;simp only [Ty.nd,fl,Nd.miss,Nd.size,Nd.sizeL] at hs;exact ⟨⟨false,hz.2.2.2.2⟩,by omega⟩
 have lb:=ltb hb
 have c1:=cO hb 1 _ rfl
 have c2:=cO hb 2 _ rfl
 have ha:=hV.apart
 have nS:¬ S b0:=hV.apart b0 hF0
 have HV:=hd_ hV;have HSELF:=hd_ hself;have HI:=hd_ hI;have HOK:=hd_ hok
 clear hV hself hI hok hb
 have nv:=nv_Visit;have mv:=mv_Visit
 simp only [Th.ty',Ty.ty,It.ty,Dc.ty]
 go_enter Tryz.func57,Tryz.ntmps57
 go_wp2_with fail
 refine (HV.out.node w l (.ty (.arr p y q x)) (.pointer (some ⟨b0,0,none⟩)) HI.out HSELF.out HOK.out (by have hN:=HLEN.out;simp only [Th.pre,Ty.pre,It.pre,Dc.pre,tyPre,rvPre,bdPre,tagPl,itsPre,thsPre_nms,thsPre_fds,thsPre_vls,thsPre_its,la_,lc_,ln_,lm_,if_true,Bool.false_eq_true,if_false] at hN ⊢;omega)).mono ?_
 rintro e w1 ⟨rfl,hI1,hK1⟩
 have ks1:Kp S w w1:=hK1
 have d1_1:=(ks1.cell lb nS).trans c1
 have d1_2:=(ks1.cell lb nS).trans c2
 have lb1:b0 < w1.heap.size:=Nat.lt_of_lt_of_le lb ks1.size
 have HI1:=hd_ hI1;have HK1:=hd_ ks1;clear hI1 hK1 ks1
 go_wp2_with fail
 refine (HY.out cap F S Inv HV.out w1 _ (.pointer (some ⟨vb,0,none⟩)) HI1.out (Th.At.on (show Th.At w F (.ty y) _ from HAT.out) HK1.out ha) hoky (by have hN:=HLEN.out;simp only [Th.pre,Ty.pre,It.pre,Dc.pre,tyPre,rvPre,bdPre,tagPl,itsPre,thsPre_nms,thsPre_fds,thsPre_vls,thsPre_its,la_,lc_,ln_,lm_,if_true,Bool.false_eq_true,if_false] at hN ⊢;omega)).mono ?_
 rintro e w2 ⟨⟨v2,rfl⟩,hI2,hK2⟩
 have ks2:Kp S w w2:=HK1.out.trans' hK2
 have d2_1:=(ks2.cell lb nS).trans c1
 have d2_2:=(ks2.cell lb nS).trans c2
 have lb2:b0 < w2.heap.size:=Nat.lt_of_lt_of_le lb ks2.size
 have HI2:=hd_ hI2;have HK2:=hd_ ks2;clear hI2 hK2 ks2
 go_wp2_with fail
 refine (HX.out cap F S Inv HV.out w2 _ (.pointer (some ⟨vc,0,none⟩)) HI2.out (Th.At.on (show Th.At w F (.ty x) _ from HATT.out) HK2.out ha) hokx (by have hN:=HLEN.out;simp only [Th.pre,Ty.pre,It.pre,Dc.pre,tyPre,rvPre,bdPre,tagPl,itsPre,thsPre_nms,thsPre_fds,thsPre_vls,thsPre_its,la_,lc_,ln_,lm_,if_true,Bool.false_eq_true,if_false] at hN ⊢;omega)).mono ?_
 rintro e w3 ⟨⟨v3,rfl⟩,hI3,hK3⟩
 have ks3:Kp S w w3:=HK2.out.trans' hK3
 have d3_1:=(ks3.cell lb nS).trans c1
 have d3_2:=(ks3.cell lb nS).trans c2
 have lb3:b0 < w3.heap.size:=Nat.lt_of_lt_of_le lb ks3.size
 have HI3:=hd_ hI3;have HK3:=hd_ ks3;clear hI3 hK3 ks3
 go_wp2_with fail
 refine (HV.out.nil w3 _ HI3.out).mono ?_
 rintro e w4 ⟨⟨vn,rfl⟩,hI4,hK4⟩
 have ks4:Kp S w w4:=HK3.out.trans' hK4
 have d4_1:=(ks4.cell lb nS).trans c1
 have d4_2:=(ks4.cell lb nS).trans c2
 have lb4:b0 < w4.heap.size:=Nat.lt_of_lt_of_le lb ks4.size
 have HI4:=hd_ hI4;have HK4:=hd_ ks4;clear hI4 hK4 ks4
 go_wp2_with fail
 refine bodyPost_end (v:=.tuple #[]) (by simp [results,Tryz.results57,go_sem]) rfl ⟨⟨_,rfl⟩,?_,HK4.out⟩
 have hfin:=HI4.out
 try simp only [aa_] at hfin
 simpa [Th.pre,Th.pl,Th.kind,Th.pos,Th.fin,Ty.pre,Ty.kind,Ty.pos,Ty.fin] using hfin
theorem walk_map (p q r:Int) (y x:Ty) (hy:WalkP (.ty y)) (hx:WalkP (.ty x)):WalkP (.ty (.map p q y r x)):=by
 intro cap F S Inv hV w l u hI h hok hN
 have HLEN:=hd_ hN;clear hN
 have hself:=h
 simp only [Th.At,Ty.At] at h
 obtain ⟨v,v',⟨b0,rfl,hF0,hb⟩,hat,hat'⟩:=h
 obtain ⟨vb,rfl⟩:=hat.ptr
 obtain ⟨vc,rfl⟩:=hat'.ptr
 have HAT:=hd_ hat;have HATT:=hd_ hat';clear hat hat'
 have HX:=hd_ hx;have HY:=hd_ hy;clear hx hy
 have hoky:(Th.ty y).ok:=by obtain ⟨⟨z,hz⟩,hs⟩:=hok;simp only [Ty.ok] at hz;simp only [Ty.nd,fl,Nd.miss,Nd.size,Nd.sizeL] at hs;exact ⟨⟨false,hz.2.2.2.1⟩,by omega⟩
 have hokx:(Th.ty x).ok:=by obtain ⟨⟨z,hz⟩,hs⟩:=hok;simp only [Ty.ok] at hz;simp only [Ty.nd,fl,Nd.miss,Nd.size,Nd.sizeL] at hs;exact ⟨⟨false,hz.2.2.2.2.2⟩,by omega⟩
 have lb:=ltb hb
 have c1:=cO hb 1 _ rfl
 have c2:=cO hb 2 _ rfl
 have ha:=hV.apart
 have nS:¬ S b0:=hV.apart b0 hF0
 have HV:=hd_ hV;have HSELF:=hd_ hself;have HI:=hd_ hI;have HOK:=hd_ hok
 clear hV hself hI hok hb
 have nv:=nv_Visit;have mv:=mv_Visit
 simp only [Th.ty',Ty.ty,It.ty,Dc.ty]
 go_enter Tryz.func57,Tryz.ntmps57
 go_wp2_with fail
 refine (HV.out.node w l (.ty (.map p q y r x)) (.pointer (some ⟨b0,0,none⟩)) HI.out HSELF.out HOK.out (by have hN:=HLEN.out;simp only [Th.pre,Ty.pre,It.pre,Dc.pre,tyPre,rvPre,bdPre,tagPl,itsPre,thsPre_nms,thsPre_fds,thsPre_vls,thsPre_its,la_,lc_,ln_,lm_,if_true,Bool.false_eq_true,if_false] at hN ⊢;omega)).mono ?_
 rintro e w1 ⟨rfl,hI1,hK1⟩
 have ks1:Kp S w w1:=hK1
 have d1_1:=(ks1.cell lb nS).trans c1
 have d1_2:=(ks1.cell lb nS).trans c2
 have lb1:b0 < w1.heap.size:=Nat.lt_of_lt_of_le lb ks1.size
 have HI1:=hd_ hI1;have HK1:=hd_ ks1;clear hI1 hK1 ks1
 go_wp2_with fail
 refine (HY.out cap F S Inv HV.out w1 _ (.pointer (some ⟨vb,0,none⟩)) HI1.out (Th.At.on (show Th.At w F (.ty y) _ from HAT.out) HK1.out ha) hoky (by have hN:=HLEN.out;simp only [Th.pre,Ty.pre,It.pre,Dc.pre,tyPre,rvPre,bdPre,tagPl,itsPre,thsPre_nms,thsPre_fds,thsPre_vls,thsPre_its,la_,lc_,ln_,lm_,if_true,Bool.false_eq_true,if_false] at hN ⊢;omega)).mono ?_
 rintro e w2 ⟨⟨v2,rfl⟩,hI2,hK2⟩
 have ks2:Kp S w w2:=HK1.out.trans' hK2
 have d2_1:=(ks2.cell lb nS).trans c1
 have d2_2:=(ks2.cell lb nS).trans c2
 have lb2:b0 < w2.heap.size:=Nat.lt_of_lt_of_le lb ks2.size
 have HI2:=hd_ hI2;have HK2:=hd_ ks2;clear hI2 hK2 ks2
 go_wp2_with fail
 refine (HX.out cap F S Inv HV.out w2 _ (.pointer (some ⟨vc,0,none⟩)) HI2.out (Th.At.on (show Th.At w F (.ty x) _ from HATT.out) HK2.out ha) hokx (by have hN:=HLEN.out;simp only [Th.pre,Ty.pre,It.pre,Dc.pre,tyPre,rvPre,bdPre,tagPl,itsPre,thsPre_nms,thsPre_fds,thsPre_vls,thsPre_its,la_,lc_,ln_,lm_,if_true,Bool.false_eq_true,if_false] at hN ⊢;omega)).mono ?_
 rintro e w3 ⟨⟨v3,rfl⟩,hI3,hK3⟩
 have ks3:Kp S w w3:=HK2.out.trans' hK3
 have d3_1:=(ks3.cell lb nS).trans c1
 have d3_2:=(ks3.cell lb nS).trans c2
 have lb3:b0 < w3.heap.size:=Nat.lt_of_lt_of_le lb ks3.size
 have HI3:=hd_ hI3;have HK3:=hd_ ks3;clear hI3 hK3 ks3
 go_wp2_with fail
 refine (HV.out.nil w3 _ HI3.out).mono ?_
 rintro e w4 ⟨⟨vn,rfl⟩,hI4,hK4⟩
 have ks4:Kp S w w4:=HK3.out.trans' hK4
 have d4_1:=(ks4.cell lb nS).trans c1
 have d4_2:=(ks4.cell lb nS).trans c2
 have lb4:b0 < w4.heap.size:=Nat.lt_of_lt_of_le lb ks4.size
 have HI4:=hd_ hI4;have HK4:=hd_ ks4;clear hI4 hK4 ks4
 go_wp2_with fail
 refine bodyPost_end (v:=.tuple #[]) (by simp [results,Tryz.results57,go_sem]) rfl ⟨⟨_,rfl⟩,?_,HK4.out⟩
 have hfin:=HI4.out
 try simp only [aa_] at hfin
 simpa [Th.pre,Th.pl,Th.kind,Th.pos,Th.fin,Ty.pre,Ty.kind,Ty.pos,Ty.fin] using hfin
theorem walk_struct (p o:Int) (f:Fs) (c:Int) (hf:WalkP (.fl o f c)):WalkP (.ty (.struct p o f c)):=by
 intro cap F S Inv hV w l u hI h hok hN
 have HLEN:=hd_ hN;clear hN
 have hself:=h
 simp only [Th.At,Ty.At] at h
 obtain ⟨v,⟨b0,rfl,hF0,hb⟩,hat⟩:=h
 have hat:FlAt w F o f c v:=hat
 obtain ⟨vb,rfl⟩:=hat.ptr
 have HAT:=hd_ hat;clear hat
 have HF:=hd_ hf;clear hf
 have hokf:(Th.fl o f c).ok:=by obtain ⟨⟨z,hz⟩,hs⟩:=hok;simp only [Ty.ok,if_true,Bool.false_eq_true,if_false] at hz;simp only [Ty.nd,fl,Nd.miss,Nd.size,Nd.sizeL,if_true,Bool.false_eq_true,if_false] at hs;exact ⟨hz.2.2.1,hz.2.2.2.2,⟨false,hz.2.2.2.1⟩,by omega⟩
 have lb:=ltb hb
 have c1:=cO hb 1 _ rfl
 have ha:=hV.apart
 have nS:¬ S b0:=hV.apart b0 hF0
 have HV:=hd_ hV;have HSELF:=hd_ hself;have HI:=hd_ hI;have HOK:=hd_ hok
 clear hV hself hI hok hb
 have nv:=nv_Visit;have mv:=mv_Visit
 simp only [Th.ty',Ty.ty,It.ty,Dc.ty]
 go_enter Tryz.func57,Tryz.ntmps57
 go_wp2_with fail
 refine (HV.out.node w l (.ty (.struct p o f c)) (.pointer (some ⟨b0,0,none⟩)) HI.out HSELF.out HOK.out (by have hN:=HLEN.out;simp only [Th.pre,Ty.pre,It.pre,Dc.pre,tyPre,rvPre,bdPre,tagPl,itsPre,thsPre_nms,thsPre_fds,thsPre_vls,thsPre_its,la_,lc_,ln_,lm_,if_true,Bool.false_eq_true,if_false] at hN ⊢;omega)).mono ?_
 rintro e w1 ⟨rfl,hI1,hK1⟩
 have ks1:Kp S w w1:=hK1
 have d1_1:=(ks1.cell lb nS).trans c1
 have lb1:b0 < w1.heap.size:=Nat.lt_of_lt_of_le lb ks1.size
 have HI1:=hd_ hI1;have HK1:=hd_ ks1;clear hI1 hK1 ks1
 go_wp2_with fail
 refine (HF.out cap F S Inv HV.out w1 _ (.pointer (some ⟨vb,0,none⟩)) HI1.out (Th.At.on (show Th.At w F (.fl o f c) _ from HAT.out) HK1.out ha) hokf (by have hN:=HLEN.out;simp only [Th.pre,Ty.pre,It.pre,Dc.pre,tyPre,rvPre,bdPre,tagPl,itsPre,thsPre_nms,thsPre_fds,thsPre_vls,thsPre_its,la_,lc_,ln_,lm_,if_true,Bool.false_eq_true,if_false] at hN ⊢;omega)).mono ?_
 rintro e w2 ⟨⟨v2,rfl⟩,hI2,hK2⟩
 have ks2:Kp S w w2:=HK1.out.trans' hK2
 have d2_1:=(ks2.cell lb nS).trans c1
 have lb2:b0 < w2.heap.size:=Nat.lt_of_lt_of_le lb ks2.size
 have HI2:=hd_ hI2;have HK2:=hd_ ks2;clear hI2 hK2 ks2
 go_wp2_with fail
 refine (HV.out.nil w2 _ HI2.out).mono ?_
 rintro e w3 ⟨⟨vn,rfl⟩,hI3,hK3⟩
 have ks3:Kp S w w3:=HK2.out.trans' hK3
 have d3_1:=(ks3.cell lb nS).trans c1
 have lb3:b0 < w3.heap.size:=Nat.lt_of_lt_of_le lb ks3.size
 have HI3:=hd_ hI3;have HK3:=hd_ ks3;clear hI3 hK3 ks3
 go_wp2_with fail
 refine bodyPost_end (v:=.tuple #[]) (by simp [results,Tryz.results57,go_sem]) rfl ⟨⟨_,rfl⟩,?_,HK3.out⟩
 have hfin:=HI3.out
 try simp only [aa_] at hfin
 simpa [Th.pre,Th.pl,Th.kind,Th.pos,Th.fin,Ty.pre,Ty.kind,Ty.pos,Ty.fin] using hfin
theorem walk_iface (p o:Int) (f:Fs) (c:Int) (hf:WalkP (.fl o f c)):WalkP (.ty (.iface p o f c)):=by
 intro cap F S Inv hV w l u hI h hok hN
 have HLEN:=hd_ hN;clear hN
 have hself:=h
 simp only [Th.At,Ty.At] at h
 obtain ⟨v,⟨b0,rfl,hF0,hb⟩,hat⟩:=h
 have hat:FlAt w F o f c v:=hat
 obtain ⟨vb,rfl⟩:=hat.ptr
 have HAT:=hd_ hat;clear hat
 have HF:=hd_ hf;clear hf
 have hokf:(Th.fl o f c).ok:=by obtain ⟨⟨z,hz⟩,hs⟩:=hok;simp only [Ty.ok,if_true,Bool.false_eq_true,if_false] at hz;simp only [Ty.nd,fl,Nd.miss,Nd.size,Nd.sizeL,if_true,Bool.false_eq_true,if_false] at hs;exact ⟨hz.2.2.1,hz.2.2.2.2,⟨true,hz.2.2.2.1⟩,by omega⟩
 have lb:=ltb hb
 have c1:=cO hb 1 _ rfl
 have ha:=hV.apart
 have nS:¬ S b0:=hV.apart b0 hF0
 have HV:=hd_ hV;have HSELF:=hd_ hself;have HI:=hd_ hI;have HOK:=hd_ hok
 clear hV hself hI hok hb
 have nv:=nv_Visit;have mv:=mv_Visit
 simp only [Th.ty',Ty.ty,It.ty,Dc.ty]
 go_enter Tryz.func57,Tryz.ntmps57
 go_wp2_with fail
 refine (HV.out.node w l (.ty (.iface p o f c)) (.pointer (some ⟨b0,0,none⟩)) HI.out HSELF.out HOK.out (by have hN:=HLEN.out;simp only [Th.pre,Ty.pre,It.pre,Dc.pre,tyPre,rvPre,bdPre,tagPl,itsPre,thsPre_nms,thsPre_fds,thsPre_vls,thsPre_its,la_,lc_,ln_,lm_,if_true,Bool.false_eq_true,if_false] at hN ⊢;omega)).mono ?_
 rintro e w1 ⟨rfl,hI1,hK1⟩
 have ks1:Kp S w w1:=hK1
 have d1_1:=(ks1.cell lb nS).trans c1
 have lb1:b0 < w1.heap.size:=Nat.lt_of_lt_of_le lb ks1.size
 have HI1:=hd_ hI1;have HK1:=hd_ ks1;clear hI1 hK1 ks1
 go_wp2_with fail
 refine (HF.out cap F S Inv HV.out w1 _ (.pointer (some ⟨vb,0,none⟩)) HI1.out (Th.At.on (show Th.At w F (.fl o f c) _ from HAT.out) HK1.out ha) hokf (by have hN:=HLEN.out;simp only [Th.pre,Ty.pre,It.pre,Dc.pre,tyPre,rvPre,bdPre,tagPl,itsPre,thsPre_nms,thsPre_fds,thsPre_vls,thsPre_its,la_,lc_,ln_,lm_,if_true,Bool.false_eq_true,if_false] at hN ⊢;omega)).mono ?_
 rintro e w2 ⟨⟨v2,rfl⟩,hI2,hK2⟩
 have ks2:Kp S w w2:=HK1.out.trans' hK2
 have d2_1:=(ks2.cell lb nS).trans c1
 have lb2:b0 < w2.heap.size:=Nat.lt_of_lt_of_le lb ks2.size
 have HI2:=hd_ hI2;have HK2:=hd_ ks2;clear hI2 hK2 ks2
 go_wp2_with fail
 refine (HV.out.nil w2 _ HI2.out).mono ?_
 rintro e w3 ⟨⟨vn,rfl⟩,hI3,hK3⟩
 have ks3:Kp S w w3:=HK2.out.trans' hK3
 have d3_1:=(ks3.cell lb nS).trans c1
 have lb3:b0 < w3.heap.size:=Nat.lt_of_lt_of_le lb ks3.size
 have HI3:=hd_ hI3;have HK3:=hd_ ks3;clear hI3 hK3 ks3
 go_wp2_with fail
 refine bodyPost_end (v:=.tuple #[]) (by simp [results,Tryz.results57,go_sem]) rfl ⟨⟨_,rfl⟩,?_,HK3.out⟩
 have hfin:=HI3.out
 try simp only [aa_] at hfin
 simpa [Th.pre,Th.pl,Th.kind,Th.pos,Th.fin,Ty.pre,Ty.kind,Ty.pos,Ty.fin] using hfin
theorem walk_sigt (p o:Int) (ps:Fs) (c o':Int) (rs:Fs) (c':Int) (hp:WalkP (.fl o ps c)) (hr:WalkP (.fl o' rs c')):WalkP (.ty (.sig p o ps c true o' rs c')):=by
 intro cap F S Inv hV w l u hI h hok hN
 have HLEN:=hd_ hN;clear hN
 have hself:=h
 simp only [Th.At,Ty.At] at h
 obtain ⟨v,v',⟨b0,rfl,hF0,hb⟩,hat,hat'⟩:=h
 have hat:FlAt w F o ps c v:=hat
 simp only [if_true] at hat'
 have hat':FlAt w F o' rs c' v':=hat'
 obtain ⟨vb,rfl⟩:=hat.ptr
 have HAT:=hd_ hat;clear hat
 have HP:=hd_ hp;clear hp
 have hokp:(Th.fl o ps c).ok:=by obtain ⟨⟨z,hz⟩,hs⟩:=hok;simp only [Ty.ok,if_true,Bool.false_eq_true,if_false] at hz;simp only [Ty.nd,fl,Nd.miss,Nd.size,Nd.sizeL,if_true,Bool.false_eq_true,if_false] at hs;exact ⟨hz.2.1,hz.2.2.2.1,⟨false,hz.2.2.1⟩,by omega⟩
 obtain ⟨vc,rfl⟩:=hat'.ptr
 have HATT:=hd_ hat';clear hat'
 have HR:=hd_ hr;clear hr
 have hokr:(Th.fl o' rs c').ok:=by obtain ⟨⟨z,hz⟩,hs⟩:=hok;simp only [Ty.ok,if_true,Bool.false_eq_true,if_false] at hz;simp only [Ty.nd,fl,Nd.miss,Nd.size,Nd.sizeL,if_true,Bool.false_eq_true,if_false] at hs;exact ⟨hz.2.2.2.2.1,hz.2.2.2.2.2.2,⟨false,hz.2.2.2.2.2.1⟩,by omega⟩
 have lb:=ltb hb
 have c1:=cO hb 1 _ rfl
 have c2:=cO hb 2 _ rfl
 have c3:=cO hb 3 _ rfl
 have ha:=hV.apart
 have nS:¬ S b0:=hV.apart b0 hF0
 have HV:=hd_ hV;have HSELF:=hd_ hself;have HI:=hd_ hI;have HOK:=hd_ hok
 clear hV hself hI hok hb
 have nv:=nv_Visit;have mv:=mv_Visit
 simp only [Th.ty',Ty.ty,It.ty,Dc.ty]
 go_enter Tryz.func57,Tryz.ntmps57
 go_wp2_with fail
 refine (HV.out.node w l (.ty (.sig p o ps c true o' rs c')) (.pointer (some ⟨b0,0,none⟩)) HI.out HSELF.out HOK.out (by have hN:=HLEN.out;simp only [Th.pre,Ty.pre,It.pre,Dc.pre,tyPre,rvPre,bdPre,tagPl,itsPre,thsPre_nms,thsPre_fds,thsPre_vls,thsPre_its,la_,lc_,ln_,lm_,if_true,Bool.false_eq_true,if_false] at hN ⊢;omega)).mono ?_
 rintro e w1 ⟨rfl,hI1,hK1⟩
 have ks1:Kp S w w1:=hK1
 have d1_1:=(ks1.cell lb nS).trans c1
 have d1_2:=(ks1.cell lb nS).trans c2
 have d1_3:=(ks1.cell lb nS).trans c3
 have lb1:b0 < w1.heap.size:=Nat.lt_of_lt_of_le lb ks1.size
 have HI1:=hd_ hI1;have HK1:=hd_ ks1;clear hI1 hK1 ks1
 go_wp2_with fail
 refine (HP.out cap F S Inv HV.out w1 _ (.pointer (some ⟨vb,0,none⟩)) HI1.out (Th.At.on (show Th.At w F (.fl o ps c) _ from HAT.out) HK1.out ha) hokp (by have hN:=HLEN.out;simp only [Th.pre,Ty.pre,It.pre,Dc.pre,tyPre,rvPre,bdPre,tagPl,itsPre,thsPre_nms,thsPre_fds,thsPre_vls,thsPre_its,la_,lc_,ln_,lm_,if_true,Bool.false_eq_true,if_false] at hN ⊢;omega)).mono ?_
 rintro e w2 ⟨⟨v2,rfl⟩,hI2,hK2⟩
 have ks2:Kp S w w2:=HK1.out.trans' hK2
 have d2_1:=(ks2.cell lb nS).trans c1
 have d2_2:=(ks2.cell lb nS).trans c2
 have d2_3:=(ks2.cell lb nS).trans c3
 have lb2:b0 < w2.heap.size:=Nat.lt_of_lt_of_le lb ks2.size
 have HI2:=hd_ hI2;have HK2:=hd_ ks2;clear hI2 hK2 ks2
 go_wp2_with fail
 refine (HR.out cap F S Inv HV.out w2 _ (.pointer (some ⟨vc,0,none⟩)) HI2.out (Th.At.on (show Th.At w F (Th.fl o' rs c') _ from HATT.out) HK2.out ha) hokr (by have hN:=HLEN.out;simp only [Th.pre,Ty.pre,It.pre,Dc.pre,tyPre,rvPre,bdPre,tagPl,itsPre,thsPre_nms,thsPre_fds,thsPre_vls,thsPre_its,la_,lc_,ln_,lm_,if_true,Bool.false_eq_true,if_false] at hN ⊢;omega)).mono ?_
 rintro e w3 ⟨⟨v3,rfl⟩,hI3,hK3⟩
 have ks3:Kp S w w3:=HK2.out.trans' hK3
 have d3_1:=(ks3.cell lb nS).trans c1
 have d3_2:=(ks3.cell lb nS).trans c2
 have d3_3:=(ks3.cell lb nS).trans c3
 have lb3:b0 < w3.heap.size:=Nat.lt_of_lt_of_le lb ks3.size
 have HI3:=hd_ hI3;have HK3:=hd_ ks3;clear hI3 hK3 ks3
 go_wp2_with fail
 refine (HV.out.nil w3 _ HI3.out).mono ?_
 rintro e w4 ⟨⟨vn,rfl⟩,hI4,hK4⟩
 have ks4:Kp S w w4:=HK3.out.trans' hK4
 have d4_1:=(ks4.cell lb nS).trans c1
 have d4_2:=(ks4.cell lb nS).trans c2
 have d4_3:=(ks4.cell lb nS).trans c3
 have lb4:b0 < w4.heap.size:=Nat.lt_of_lt_of_le lb ks4.size
 have HI4:=hd_ hI4;have HK4:=hd_ ks4;clear hI4 hK4 ks4
 go_wp2_with fail
 refine bodyPost_end (v:=.tuple #[]) (by simp [results,Tryz.results57,go_sem]) rfl ⟨⟨_,rfl⟩,?_,HK4.out⟩
 have hfin:=HI4.out
 try simp only [aa_] at hfin
 simpa [Th.pre,Th.pl,Th.kind,Th.pos,Th.fin,Ty.pre,Ty.kind,Ty.pos,Ty.fin] using hfin
theorem walk_sigf (p o:Int) (ps:Fs) (c o':Int) (rs:Fs) (c':Int) (hp:WalkP (.fl o ps c)):WalkP (.ty (.sig p o ps c false o' rs c')):=by
 intro cap F S Inv hV w l u hI h hok hN
 have HLEN:=hd_ hN;clear hN
 have hself:=h
 simp only [Th.At,Ty.At] at h
 obtain ⟨v,v',⟨b0,rfl,hF0,hb⟩,hat,hat'⟩:=h
 have hat:FlAt w F o ps c v:=hat
 simp only [Bool.false_eq_true,if_false] at hat'
 subst hat'
 obtain ⟨vb,rfl⟩:=hat.ptr
 have HAT:=hd_ hat;clear hat
 have HP:=hd_ hp;clear hp
 have hokp:(Th.fl o ps c).ok:=by obtain ⟨⟨z,hz⟩,hs⟩:=hok;simp only [Ty.ok,if_true,Bool.false_eq_true,if_false] at hz;simp only [Ty.nd,fl,Nd.miss,Nd.size,Nd.sizeL,if_true,Bool.false_eq_true,if_false] at hs;exact ⟨hz.2.1,hz.2.2.2.1,⟨false,hz.2.2.1⟩,by omega⟩
 have lb:=ltb hb
 have c1:=cO hb 1 _ rfl
 have c2:=cO hb 2 _ rfl
 have c3:=cO hb 3 _ rfl
 have ha:=hV.apart
 have nS:¬ S b0:=hV.apart b0 hF0
 have HV:=hd_ hV;have HSELF:=hd_ hself;have HI:=hd_ hI;have HOK:=hd_ hok
 clear hV hself hI hok hb
 have nv:=nv_Visit;have mv:=mv_Visit
 simp only [Th.ty',Ty.ty,It.ty,Dc.ty]
 go_enter Tryz.func57,Tryz.ntmps57
 go_wp2_with fail
 refine (HV.out.node w l (.ty (.sig p o ps c false o' rs c')) (.pointer (some ⟨b0,0,none⟩)) HI.out HSELF.out HOK.out (by have hN:=HLEN.out;simp only [Th.pre,Ty.pre,It.pre,Dc.pre,tyPre,rvPre,bdPre,tagPl,itsPre,thsPre_nms,thsPre_fds,thsPre_vls,thsPre_its,la_,lc_,ln_,lm_,if_true,Bool.false_eq_true,if_false] at hN ⊢;omega)).mono ?_
 rintro e w1 ⟨rfl,hI1,hK1⟩
 have ks1:Kp S w w1:=hK1
 have d1_1:=(ks1.cell lb nS).trans c1
 have d1_2:=(ks1.cell lb nS).trans c2
 have d1_3:=(ks1.cell lb nS).trans c3
 have lb1:b0 < w1.heap.size:=Nat.lt_of_lt_of_le lb ks1.size
 have HI1:=hd_ hI1;have HK1:=hd_ ks1;clear hI1 hK1 ks1
 go_wp2_with fail
 refine (HP.out cap F S Inv HV.out w1 _ (.pointer (some ⟨vb,0,none⟩)) HI1.out (Th.At.on (show Th.At w F (.fl o ps c) _ from HAT.out) HK1.out ha) hokp (by have hN:=HLEN.out;simp only [Th.pre,Ty.pre,It.pre,Dc.pre,tyPre,rvPre,bdPre,tagPl,itsPre,thsPre_nms,thsPre_fds,thsPre_vls,thsPre_its,la_,lc_,ln_,lm_,if_true,Bool.false_eq_true,if_false] at hN ⊢;omega)).mono ?_
 rintro e w2 ⟨⟨v2,rfl⟩,hI2,hK2⟩
 have ks2:Kp S w w2:=HK1.out.trans' hK2
 have d2_1:=(ks2.cell lb nS).trans c1
 have d2_2:=(ks2.cell lb nS).trans c2
 have d2_3:=(ks2.cell lb nS).trans c3
 have lb2:b0 < w2.heap.size:=Nat.lt_of_lt_of_le lb ks2.size
 have HI2:=hd_ hI2;have HK2:=hd_ ks2;clear hI2 hK2 ks2
 go_wp2_with fail
 refine (HV.out.nil w2 _ HI2.out).mono ?_
 rintro e w3 ⟨⟨vn,rfl⟩,hI3,hK3⟩
 have ks3:Kp S w w3:=HK2.out.trans' hK3
 have d3_1:=(ks3.cell lb nS).trans c1
 have d3_2:=(ks3.cell lb nS).trans c2
 have d3_3:=(ks3.cell lb nS).trans c3
 have lb3:b0 < w3.heap.size:=Nat.lt_of_lt_of_le lb ks3.size
 have HI3:=hd_ hI3;have HK3:=hd_ ks3;clear hI3 hK3 ks3
 go_wp2_with fail
 refine bodyPost_end (v:=.tuple #[]) (by simp [results,Tryz.results57,go_sem]) rfl ⟨⟨_,rfl⟩,?_,HK3.out⟩
 have hfin:=HI3.out
 try simp only [aa_] at hfin
 simpa [Th.pre,Th.pl,Th.kind,Th.pos,Th.fin,Ty.pre,Ty.kind,Ty.pos,Ty.fin] using hfin
end
section
open Go Go.RowKit
theorem walk_path (p:Int) (s:ByteArray) :WalkP (.it (.path p s)):=by
 intro cap F S Inv hV w l u hI h hok hN
 have HLEN:=hd_ hN;clear hN
 have hself:=h
 obtain ⟨v,⟨b0,rfl,hF0,hb⟩,hl⟩:=h
 obtain ⟨lb0,rfl⟩:=hl.ptr
 have HL:Hid (Th.At w F (.ty (.lit p s)) (.pointer (some ⟨lb0,0,none⟩))):=hl;clear hl
 have hokl:(Th.ty (.lit p s)).ok:=⟨⟨false,by simp only [Ty.ok];exact ⟨trivial,hok.1.1,hok.1.2⟩⟩,by simp [Ty.nd,Nd.lit,Nd.name,Nd.size,Nd.sizeL]⟩
 have lb:=ltb hb
 have c0:=cO hb 0 _ rfl
 have c1:=cO hb 1 _ rfl
 have c2:=cO hb 2 _ rfl
 have c3:=cO hb 3 _ rfl
 have ha:=hV.apart
 have nS:¬ S b0:=hV.apart b0 hF0
 have HV:=hd_ hV;have HSELF:=hd_ hself;have HI:=hd_ hI;have HOK:=hd_ hok
 clear hV hself hI hok hb
 have nv:=nv_Visit;have mv:=mv_Visit
 simp only [Th.ty',Ty.ty,It.ty,Dc.ty]
 go_enter Tryz.func57,Tryz.ntmps57
 go_wp2_with fail
 refine (HV.out.node w l (.it (.path p s)) (.pointer (some ⟨b0,0,none⟩)) HI.out HSELF.out HOK.out (by have hN:=HLEN.out;simp only [Th.pre,Ty.pre,It.pre,Dc.pre,tyPre,rvPre,bdPre,tagPl,itsPre,thsPre_nms,thsPre_fds,thsPre_vls,thsPre_its,la_,lc_,ln_,lm_,if_true,Bool.false_eq_true,if_false] at hN ⊢;omega)).mono ?_
 rintro e w1 ⟨rfl,hI1,hK1⟩
 have ks1:Kp S w w1:=hK1
 have d1_0:=(ks1.cell lb nS).trans c0
 have d1_1:=(ks1.cell lb nS).trans c1
 have d1_2:=(ks1.cell lb nS).trans c2
 have d1_3:=(ks1.cell lb nS).trans c3
 have lb1:b0 < w1.heap.size:=Nat.lt_of_lt_of_le lb ks1.size
 have HI1:=hd_ hI1;have HK1:=hd_ ks1;clear hI1 hK1 ks1
 go_wp2_with fail
 refine (walk_lit (p) (s) cap F S Inv HV.out w1 _ (.pointer (some ⟨lb0,0,none⟩)) HI1.out (Th.At.on HL.out HK1.out ha) hokl (by have hN:=HLEN.out;simp only [Th.pre,Ty.pre,It.pre,Dc.pre,tyPre,rvPre,bdPre,tagPl,itsPre,thsPre_nms,thsPre_fds,thsPre_vls,thsPre_its,la_,lc_,ln_,lm_,if_true,Bool.false_eq_true,if_false] at hN ⊢;omega)).mono ?_
 rintro e w2 ⟨⟨v2,rfl⟩,hI2,hK2⟩
 have ks2:Kp S w w2:=HK1.out.trans' hK2
 have d2_0:=(ks2.cell lb nS).trans c0
 have d2_1:=(ks2.cell lb nS).trans c1
 have d2_2:=(ks2.cell lb nS).trans c2
 have d2_3:=(ks2.cell lb nS).trans c3
 have lb2:b0 < w2.heap.size:=Nat.lt_of_lt_of_le lb ks2.size
 have HI2:=hd_ hI2;have HK2:=hd_ ks2;clear hI2 hK2 ks2
 go_wp2_with fail
 refine (HV.out.nil w2 _ HI2.out).mono ?_
 rintro e w3 ⟨⟨vn,rfl⟩,hI3,hK3⟩
 have ks3:Kp S w w3:=HK2.out.trans' hK3
 have d3_0:=(ks3.cell lb nS).trans c0
 have d3_1:=(ks3.cell lb nS).trans c1
 have d3_2:=(ks3.cell lb nS).trans c2
 have d3_3:=(ks3.cell lb nS).trans c3
 have lb3:b0 < w3.heap.size:=Nat.lt_of_lt_of_le lb ks3.size
 have HI3:=hd_ hI3;have HK3:=hd_ ks3;clear hI3 hK3 ks3
 go_wp2_with fail
 refine bodyPost_end (v:=.tuple #[]) (by simp [results,Tryz.results57,go_sem]) rfl ⟨⟨_,rfl⟩,?_,HK3.out⟩
 have hfin:=HI3.out
 try simp only [aa_] at hfin
 simpa [Th.pre,Th.pl,Th.kind,Th.pos,Th.fin,It.pre,It.kind,It.pos,It.fin,Dc.pre,Dc.kind,Dc.pos,Dc.fin,Ty.pre,tyPre,tyFin,rvPre,bdPre,bdFin,itsPre,vsPre,vsFin] using hfin
theorem walk_pathn (q:Int) (m:ByteArray) (p:Int) (s:ByteArray) :WalkP (.it (.pathn q m p s)):=by
 intro cap F S Inv hV w l u hI h hok hN
 have HLEN:=hd_ hN;clear hN
 have hself:=h
 obtain ⟨i,v,⟨b0,rfl,hF0,hb⟩,hi,hl⟩:=h
 obtain ⟨lb0,rfl⟩:=hl.ptr
 obtain ⟨ib,rfl⟩:=hi.ptr
 have HL:Hid (Th.At w F (.ty (.lit p s)) (.pointer (some ⟨lb0,0,none⟩))):=hl;clear hl
 have HN:Hid (Th.At w F (.ty (.name q m)) (.pointer (some ⟨ib,0,none⟩))):=hi;clear hi
 have hokl:(Th.ty (.lit p s)).ok:=⟨⟨false,by simp only [Ty.ok];exact ⟨trivial,hok.1.2.2.1,hok.1.2.2.2⟩⟩,by simp [Ty.nd,Nd.lit,Nd.name,Nd.size,Nd.sizeL]⟩
 have hokn:(Th.ty (.name q m)).ok:=⟨⟨false,by simp only [Ty.ok];exact ⟨trivial,hok.1.1,hok.1.2.1⟩⟩,by simp [Ty.nd,Nd.lit,Nd.name,Nd.size,Nd.sizeL]⟩
 have lb:=ltb hb
 have c0:=cO hb 0 _ rfl
 have c1:=cO hb 1 _ rfl
 have c2:=cO hb 2 _ rfl
 have c3:=cO hb 3 _ rfl
 have ha:=hV.apart
 have nS:¬ S b0:=hV.apart b0 hF0
 have HV:=hd_ hV;have HSELF:=hd_ hself;have HI:=hd_ hI;have HOK:=hd_ hok
 clear hV hself hI hok hb
 have nv:=nv_Visit;have mv:=mv_Visit
 simp only [Th.ty',Ty.ty,It.ty,Dc.ty]
 go_enter Tryz.func57,Tryz.ntmps57
 go_wp2_with fail
 refine (HV.out.node w l (.it (.pathn q m p s)) (.pointer (some ⟨b0,0,none⟩)) HI.out HSELF.out HOK.out (by have hN:=HLEN.out;simp only [Th.pre,Ty.pre,It.pre,Dc.pre,tyPre,rvPre,bdPre,tagPl,itsPre,thsPre_nms,thsPre_fds,thsPre_vls,thsPre_its,la_,lc_,ln_,lm_,if_true,Bool.false_eq_true,if_false] at hN ⊢;omega)).mono ?_
 rintro e w1 ⟨rfl,hI1,hK1⟩
 have ks1:Kp S w w1:=hK1
 have d1_0:=(ks1.cell lb nS).trans c0
 have d1_1:=(ks1.cell lb nS).trans c1
 have d1_2:=(ks1.cell lb nS).trans c2
 have d1_3:=(ks1.cell lb nS).trans c3
 have lb1:b0 < w1.heap.size:=Nat.lt_of_lt_of_le lb ks1.size
 have HI1:=hd_ hI1;have HK1:=hd_ ks1;clear hI1 hK1 ks1
 go_wp2_with fail
 refine (walk_name (q) (m) cap F S Inv HV.out w1 _ (.pointer (some ⟨ib,0,none⟩)) HI1.out (Th.At.on HN.out HK1.out ha) hokn (by have hN:=HLEN.out;simp only [Th.pre,Ty.pre,It.pre,Dc.pre,tyPre,rvPre,bdPre,tagPl,itsPre,thsPre_nms,thsPre_fds,thsPre_vls,thsPre_its,la_,lc_,ln_,lm_,if_true,Bool.false_eq_true,if_false] at hN ⊢;omega)).mono ?_
 rintro e w2 ⟨⟨v2,rfl⟩,hI2,hK2⟩
 have ks2:Kp S w w2:=HK1.out.trans' hK2
 have d2_0:=(ks2.cell lb nS).trans c0
 have d2_1:=(ks2.cell lb nS).trans c1
 have d2_2:=(ks2.cell lb nS).trans c2
 have d2_3:=(ks2.cell lb nS).trans c3
 have lb2:b0 < w2.heap.size:=Nat.lt_of_lt_of_le lb ks2.size
 have HI2:=hd_ hI2;have HK2:=hd_ ks2;clear hI2 hK2 ks2
 go_wp2_with fail
 refine (walk_lit (p) (s) cap F S Inv HV.out w2 _ (.pointer (some ⟨lb0,0,none⟩)) HI2.out (Th.At.on HL.out HK2.out ha) hokl (by have hN:=HLEN.out;simp only [Th.pre,Ty.pre,It.pre,Dc.pre,tyPre,rvPre,bdPre,tagPl,itsPre,thsPre_nms,thsPre_fds,thsPre_vls,thsPre_its,la_,lc_,ln_,lm_,if_true,Bool.false_eq_true,if_false] at hN ⊢;omega)).mono ?_
 rintro e w3 ⟨⟨v3,rfl⟩,hI3,hK3⟩
 have ks3:Kp S w w3:=HK2.out.trans' hK3
 have d3_0:=(ks3.cell lb nS).trans c0
 have d3_1:=(ks3.cell lb nS).trans c1
 have d3_2:=(ks3.cell lb nS).trans c2
 have d3_3:=(ks3.cell lb nS).trans c3
 have lb3:b0 < w3.heap.size:=Nat.lt_of_lt_of_le lb ks3.size
 have HI3:=hd_ hI3;have HK3:=hd_ ks3;clear hI3 hK3 ks3
 go_wp2_with fail
 refine (HV.out.nil w3 _ HI3.out).mono ?_
 rintro e w4 ⟨⟨vn,rfl⟩,hI4,hK4⟩
 have ks4:Kp S w w4:=HK3.out.trans' hK4
 have d4_0:=(ks4.cell lb nS).trans c0
 have d4_1:=(ks4.cell lb nS).trans c1
 have d4_2:=(ks4.cell lb nS).trans c2
 have d4_3:=(ks4.cell lb nS).trans c3
 have lb4:b0 < w4.heap.size:=Nat.lt_of_lt_of_le lb ks4.size
 have HI4:=hd_ hI4;have HK4:=hd_ ks4;clear hI4 hK4 ks4
 go_wp2_with fail
 refine bodyPost_end (v:=.tuple #[]) (by simp [results,Tryz.results57,go_sem]) rfl ⟨⟨_,rfl⟩,?_,HK4.out⟩
 have hfin:=HI4.out
 try simp only [aa_] at hfin
 simpa [Th.pre,Th.pl,Th.kind,Th.pos,Th.fin,It.pre,It.kind,It.pos,It.fin,Dc.pre,Dc.kind,Dc.pos,Dc.fin,Ty.pre,tyPre,tyFin,rvPre,bdPre,bdFin,itsPre,vsPre,vsFin] using hfin
theorem walk_type (p:Int) (s:ByteArray) (t:Ty) (ht:WalkP (.ty t)):WalkP (.it (.type p s t)):=by
 intro cap F S Inv hV w l u hI h hok hN
 have HLEN:=hd_ hN;clear hN
 have hself:=h
 obtain ⟨i,x,⟨b0,rfl,hF0,hb⟩,hi,hat⟩:=h
 obtain ⟨ib,rfl⟩:=hi.ptr
 obtain ⟨xb,rfl⟩:=hat.ptr
 have HN:Hid (Th.At w F (.ty (.name p s)) (.pointer (some ⟨ib,0,none⟩))):=hi;clear hi
 have HAT:=hd_ hat;clear hat
 have HT:=hd_ ht;clear ht
 have hokn:(Th.ty (.name p s)).ok:=⟨⟨false,by simp only [Ty.ok];exact ⟨trivial,hok.1.1,hok.1.2.1⟩⟩,by simp [Ty.nd,Nd.lit,Nd.name,Nd.size,Nd.sizeL]⟩
 have hokt:(Th.ty t).ok:=⟨⟨false,hok.1.2.2⟩,by have h1:=hok.2;simp only [It.nd,Nd.size,Nd.sizeL] at h1;omega⟩
 have lb:=ltb hb
 have c0:=cO hb 0 _ rfl
 have c1:=cO hb 1 _ rfl
 have c2:=cO hb 2 _ rfl
 have c4:=cO hb 4 _ rfl
 have c5:=cO hb 5 _ rfl
 have ha:=hV.apart
 have nS:¬ S b0:=hV.apart b0 hF0
 have HV:=hd_ hV;have HSELF:=hd_ hself;have HI:=hd_ hI;have HOK:=hd_ hok
 clear hV hself hI hok hb
 have nv:=nv_Visit;have mv:=mv_Visit
 simp only [Th.ty',Ty.ty,It.ty,Dc.ty]
 go_enter Tryz.func57,Tryz.ntmps57
 go_wp2_with fail
 refine (HV.out.node w l (.it (.type p s t)) (.pointer (some ⟨b0,0,none⟩)) HI.out HSELF.out HOK.out (by have hN:=HLEN.out;simp only [Th.pre,Ty.pre,It.pre,Dc.pre,tyPre,rvPre,bdPre,tagPl,itsPre,thsPre_nms,thsPre_fds,thsPre_vls,thsPre_its,la_,lc_,ln_,lm_,if_true,Bool.false_eq_true,if_false] at hN ⊢;omega)).mono ?_
 rintro e w1 ⟨rfl,hI1,hK1⟩
 have ks1:Kp S w w1:=hK1
 have d1_0:=(ks1.cell lb nS).trans c0
 have d1_1:=(ks1.cell lb nS).trans c1
 have d1_2:=(ks1.cell lb nS).trans c2
 have d1_4:=(ks1.cell lb nS).trans c4
 have d1_5:=(ks1.cell lb nS).trans c5
 have lb1:b0 < w1.heap.size:=Nat.lt_of_lt_of_le lb ks1.size
 have HI1:=hd_ hI1;have HK1:=hd_ ks1;clear hI1 hK1 ks1
 go_wp2_with fail
 refine (walk_name (p) (s) cap F S Inv HV.out w1 _ (.pointer (some ⟨ib,0,none⟩)) HI1.out (Th.At.on HN.out HK1.out ha) hokn (by have hN:=HLEN.out;simp only [Th.pre,Ty.pre,It.pre,Dc.pre,tyPre,rvPre,bdPre,tagPl,itsPre,thsPre_nms,thsPre_fds,thsPre_vls,thsPre_its,la_,lc_,ln_,lm_,if_true,Bool.false_eq_true,if_false] at hN ⊢;omega)).mono ?_
 rintro e w2 ⟨⟨v2,rfl⟩,hI2,hK2⟩
 have ks2:Kp S w w2:=HK1.out.trans' hK2
 have d2_0:=(ks2.cell lb nS).trans c0
 have d2_1:=(ks2.cell lb nS).trans c1
 have d2_2:=(ks2.cell lb nS).trans c2
 have d2_4:=(ks2.cell lb nS).trans c4
 have d2_5:=(ks2.cell lb nS).trans c5
 have lb2:b0 < w2.heap.size:=Nat.lt_of_lt_of_le lb ks2.size
 have HI2:=hd_ hI2;have HK2:=hd_ ks2;clear hI2 hK2 ks2
 go_wp2_with fail
 refine (HT.out cap F S Inv HV.out w2 _ (.pointer (some ⟨xb,0,none⟩)) HI2.out (Th.At.on (show Th.At w F (.ty t) _ from HAT.out) HK2.out ha) hokt (by have hN:=HLEN.out;simp only [Th.pre,Ty.pre,It.pre,Dc.pre,tyPre,rvPre,bdPre,tagPl,itsPre,thsPre_nms,thsPre_fds,thsPre_vls,thsPre_its,la_,lc_,ln_,lm_,if_true,Bool.false_eq_true,if_false] at hN ⊢;omega)).mono ?_
 rintro e w3 ⟨⟨v3,rfl⟩,hI3,hK3⟩
 have ks3:Kp S w w3:=HK2.out.trans' hK3
 have d3_0:=(ks3.cell lb nS).trans c0
 have d3_1:=(ks3.cell lb nS).trans c1
 have d3_2:=(ks3.cell lb nS).trans c2
 have d3_4:=(ks3.cell lb nS).trans c4
 have d3_5:=(ks3.cell lb nS).trans c5
 have lb3:b0 < w3.heap.size:=Nat.lt_of_lt_of_le lb ks3.size
 have HI3:=hd_ hI3;have HK3:=hd_ ks3;clear hI3 hK3 ks3
 go_wp2_with fail
 refine (HV.out.nil w3 _ HI3.out).mono ?_
 rintro e w4 ⟨⟨vn,rfl⟩,hI4,hK4⟩
 have ks4:Kp S w w4:=HK3.out.trans' hK4
 have d4_0:=(ks4.cell lb nS).trans c0
 have d4_1:=(ks4.cell lb nS).trans c1
 have d4_2:=(ks4.cell lb nS).trans c2
 have d4_4:=(ks4.cell lb nS).trans c4
 have d4_5:=(ks4.cell lb nS).trans c5
 have lb4:b0 < w4.heap.size:=Nat.lt_of_lt_of_le lb ks4.size
 have HI4:=hd_ hI4;have HK4:=hd_ ks4;clear hI4 hK4 ks4
 go_wp2_with fail
 refine bodyPost_end (v:=.tuple #[]) (by simp [results,Tryz.results57,go_sem]) rfl ⟨⟨_,rfl⟩,?_,HK4.out⟩
 have hfin:=HI4.out
 try simp only [aa_] at hfin
 simpa [Th.pre,Th.pl,Th.kind,Th.pos,Th.fin,It.pre,It.kind,It.pos,It.fin,Dc.pre,Dc.kind,Dc.pos,Dc.fin,Ty.pre,tyPre,tyFin,rvPre,bdPre,bdFin,itsPre,vsPre,vsFin] using hfin
theorem walk_alias (p:Int) (s:ByteArray) (q:Int) (t:Ty) (ht:WalkP (.ty t)):WalkP (.it (.alias p s q t)):=by
 intro cap F S Inv hV w l u hI h hok hN
 have HLEN:=hd_ hN;clear hN
 have hself:=h
 obtain ⟨i,x,⟨b0,rfl,hF0,hb⟩,hi,hat⟩:=h
 obtain ⟨ib,rfl⟩:=hi.ptr
 obtain ⟨xb,rfl⟩:=hat.ptr
 have HN:Hid (Th.At w F (.ty (.name p s)) (.pointer (some ⟨ib,0,none⟩))):=hi;clear hi
 have HAT:=hd_ hat;clear hat
 have HT:=hd_ ht;clear ht
 have hokn:(Th.ty (.name p s)).ok:=⟨⟨false,by simp only [Ty.ok];exact ⟨trivial,hok.1.1,hok.1.2.1⟩⟩,by simp [Ty.nd,Nd.lit,Nd.name,Nd.size,Nd.sizeL]⟩
 have hokt:(Th.ty t).ok:=⟨⟨false,hok.1.2.2.2⟩,by have h1:=hok.2;simp only [It.nd,Nd.size,Nd.sizeL] at h1;omega⟩
 have lb:=ltb hb
 have c0:=cO hb 0 _ rfl
 have c1:=cO hb 1 _ rfl
 have c2:=cO hb 2 _ rfl
 have c4:=cO hb 4 _ rfl
 have c5:=cO hb 5 _ rfl
 have ha:=hV.apart
 have nS:¬ S b0:=hV.apart b0 hF0
 have HV:=hd_ hV;have HSELF:=hd_ hself;have HI:=hd_ hI;have HOK:=hd_ hok
 clear hV hself hI hok hb
 have nv:=nv_Visit;have mv:=mv_Visit
 simp only [Th.ty',Ty.ty,It.ty,Dc.ty]
 go_enter Tryz.func57,Tryz.ntmps57
 go_wp2_with fail
 refine (HV.out.node w l (.it (.alias p s q t)) (.pointer (some ⟨b0,0,none⟩)) HI.out HSELF.out HOK.out (by have hN:=HLEN.out;simp only [Th.pre,Ty.pre,It.pre,Dc.pre,tyPre,rvPre,bdPre,tagPl,itsPre,thsPre_nms,thsPre_fds,thsPre_vls,thsPre_its,la_,lc_,ln_,lm_,if_true,Bool.false_eq_true,if_false] at hN ⊢;omega)).mono ?_
 rintro e w1 ⟨rfl,hI1,hK1⟩
 have ks1:Kp S w w1:=hK1
 have d1_0:=(ks1.cell lb nS).trans c0
 have d1_1:=(ks1.cell lb nS).trans c1
 have d1_2:=(ks1.cell lb nS).trans c2
 have d1_4:=(ks1.cell lb nS).trans c4
 have d1_5:=(ks1.cell lb nS).trans c5
 have lb1:b0 < w1.heap.size:=Nat.lt_of_lt_of_le lb ks1.size
 have HI1:=hd_ hI1;have HK1:=hd_ ks1;clear hI1 hK1 ks1
 go_wp2_with fail
 refine (walk_name (p) (s) cap F S Inv HV.out w1 _ (.pointer (some ⟨ib,0,none⟩)) HI1.out (Th.At.on HN.out HK1.out ha) hokn (by have hN:=HLEN.out;simp only [Th.pre,Ty.pre,It.pre,Dc.pre,tyPre,rvPre,bdPre,tagPl,itsPre,thsPre_nms,thsPre_fds,thsPre_vls,thsPre_its,la_,lc_,ln_,lm_,if_true,Bool.false_eq_true,if_false] at hN ⊢;omega)).mono ?_
 rintro e w2 ⟨⟨v2,rfl⟩,hI2,hK2⟩
 have ks2:Kp S w w2:=HK1.out.trans' hK2
 have d2_0:=(ks2.cell lb nS).trans c0
 have d2_1:=(ks2.cell lb nS).trans c1
 have d2_2:=(ks2.cell lb nS).trans c2
 have d2_4:=(ks2.cell lb nS).trans c4
 have d2_5:=(ks2.cell lb nS).trans c5
 have lb2:b0 < w2.heap.size:=Nat.lt_of_lt_of_le lb ks2.size
 have HI2:=hd_ hI2;have HK2:=hd_ ks2;clear hI2 hK2 ks2
 go_wp2_with fail
 refine (HT.out cap F S Inv HV.out w2 _ (.pointer (some ⟨xb,0,none⟩)) HI2.out (Th.At.on (show Th.At w F (.ty t) _ from HAT.out) HK2.out ha) hokt (by have hN:=HLEN.out;simp only [Th.pre,Ty.pre,It.pre,Dc.pre,tyPre,rvPre,bdPre,tagPl,itsPre,thsPre_nms,thsPre_fds,thsPre_vls,thsPre_its,la_,lc_,ln_,lm_,if_true,Bool.false_eq_true,if_false] at hN ⊢;omega)).mono ?_
 rintro e w3 ⟨⟨v3,rfl⟩,hI3,hK3⟩
 have ks3:Kp S w w3:=HK2.out.trans' hK3
 have d3_0:=(ks3.cell lb nS).trans c0
 have d3_1:=(ks3.cell lb nS).trans c1
 have d3_2:=(ks3.cell lb nS).trans c2
 have d3_4:=(ks3.cell lb nS).trans c4
 have d3_5:=(ks3.cell lb nS).trans c5
 have lb3:b0 < w3.heap.size:=Nat.lt_of_lt_of_le lb ks3.size
 have HI3:=hd_ hI3;have HK3:=hd_ ks3;clear hI3 hK3 ks3
 go_wp2_with fail
 refine (HV.out.nil w3 _ HI3.out).mono ?_
 rintro e w4 ⟨⟨vn,rfl⟩,hI4,hK4⟩
 have ks4:Kp S w w4:=HK3.out.trans' hK4
 have d4_0:=(ks4.cell lb nS).trans c0
 have d4_1:=(ks4.cell lb nS).trans c1
 have d4_2:=(ks4.cell lb nS).trans c2
 have d4_4:=(ks4.cell lb nS).trans c4
 have d4_5:=(ks4.cell lb nS).trans c5
 have lb4:b0 < w4.heap.size:=Nat.lt_of_lt_of_le lb ks4.size
 have HI4:=hd_ hI4;have HK4:=hd_ ks4;clear hI4 hK4 ks4
 go_wp2_with fail
 refine bodyPost_end (v:=.tuple #[]) (by simp [results,Tryz.results57,go_sem]) rfl ⟨⟨_,rfl⟩,?_,HK4.out⟩
 have hfin:=HI4.out
 try simp only [aa_] at hfin
 simpa [Th.pre,Th.pl,Th.kind,Th.pos,Th.fin,It.pre,It.kind,It.pos,It.fin,Dc.pre,Dc.kind,Dc.pos,Dc.fin,Ty.pre,tyPre,tyFin,rvPre,bdPre,bdFin,itsPre,vsPre,vsFin] using hfin
theorem walk_valuen (ns:List Nm) (vs:List (Int × Ty)) (hvs:∀ v∈vs,WalkP (.ty v.2)):WalkP (.it (.value ns none vs)):=by
 intro cap F S Inv hV w l u hI h hok hN
 have HLEN:=hd_ hN;clear hN
 have hself:=h
 obtain ⟨s,us,y,zz,zs,⟨b0,rfl,hF0,hb⟩,hr,hn,hy,hz,hv⟩:=h
 obtain ⟨sp,sc,rfl⟩:=hr.form
 obtain ⟨zp,zc,rfl⟩:=hz.form
 have hul:=hn.length;have hzl:=LAt.length _ _ hv
 obtain rfl:y=.nilIface:=hy
 have HR:=hd_ hr;have HN:=hd_ (NmsAt.lat _ _ hn);have HZ:=hd_ hz;have HVV:=hd_ (LAt.vls _ _ hv)
 have hlen:us.length≤400:=by have h1:=hok.2;have:=Nd.sizeL_length (ns.map Nm.nd);simp only [It.nd,ls,Nd.size,Nd.sizeL,lm_] at h1 this;omega
 have hlenz:zs.length≤400:=by have h1:=hok.2;have:=Nd.sizeL_length (vs.map fun v=>v.2.nd);simp only [It.nd,ls,Nd.size,Nd.sizeL,lm_] at h1 this;omega
 have hoks:Hid (∀ x∈ns.map nmTh,WalkP x∧x.ok∧x.ty'=70):=by
  intro x hx
  obtain ⟨n,hn,rfl⟩:=List.mem_map.1 hx
  exact ⟨walk_name n.p n.s,nmTh_ok (hok.1.2.1 n hn),rfl⟩
 have hokz:Hid (∀ x∈vs.map vlTh,WalkP x∧x.ok):=by
  intro x hx
  obtain ⟨v,hv,rfl⟩:=List.mem_map.1 hx
  have h1:=hok.2
  simp only [It.nd,ls,Nd.size,Nd.sizeL] at h1
  exact ⟨hvs v hv,⟨⟨false,(hok.1.2.2.2 v hv).2⟩,Nat.le_trans (Nd.sizeL_mem (List.mem_map_of_mem (f:=fun v:Int × Ty=>v.2.nd) hv)) (by omega)⟩⟩
 clear hr hn hz hv hul hzl hvs
 have lb:=ltb hb
 have c0:=cO hb 0 _ rfl
 have c1:=cO hb 1 _ rfl
 have c2:=cO hb 2 _ rfl
 have c3:=cO hb 3 _ rfl
 have c4:=cO hb 4 _ rfl
 have ha:=hV.apart
 have nS:¬ S b0:=hV.apart b0 hF0
 have HV:=hd_ hV;have HSELF:=hd_ hself;have HI:=hd_ hI;have HOK:=hd_ hok
 clear hV hself hI hok hb
 have nv:=nv_Visit;have mv:=mv_Visit
 simp only [Th.ty',Ty.ty,It.ty,Dc.ty]
 go_enter Tryz.func57,Tryz.ntmps57
 go_wp2_with fail
 refine (HV.out.node w l (.it (.value ns none vs)) (.pointer (some ⟨b0,0,none⟩)) HI.out HSELF.out HOK.out (by have hN:=HLEN.out;simp only [Th.pre,Ty.pre,It.pre,Dc.pre,tyPre,rvPre,bdPre,tagPl,itsPre,thsPre_nms,thsPre_fds,thsPre_vls,thsPre_its,la_,lc_,ln_,lm_,if_true,Bool.false_eq_true,if_false] at hN ⊢;omega)).mono ?_
 rintro e w1 ⟨rfl,hI1,hK1⟩
 have ks1:Kp S w w1:=hK1
 have d1_0:=(ks1.cell lb nS).trans c0
 have d1_1:=(ks1.cell lb nS).trans c1
 have d1_2:=(ks1.cell lb nS).trans c2
 have d1_3:=(ks1.cell lb nS).trans c3
 have d1_4:=(ks1.cell lb nS).trans c4
 have lb1:b0 < w1.heap.size:=Nat.lt_of_lt_of_le lb ks1.size
 have HI1:=hd_ hI1;have HK1:=hd_ ks1;clear hI1 hK1 ks1
 go_wp2_with fail
 refine (wlid_c (ns.map nmTh) hoks.out cap F S Inv HV.out w1 _ (.slice sp us.length sc) us (HR.out.on HK1.out ha) (HN.out.pton HK1.out ha) HI1.out hlen (by have hN:=HLEN.out;simp only [Th.pre,Ty.pre,It.pre,Dc.pre,tyPre,rvPre,bdPre,tagPl,itsPre,thsPre_nms,thsPre_fds,thsPre_vls,thsPre_its,la_,lc_,ln_,lm_,if_true,Bool.false_eq_true,if_false] at hN ⊢;omega)).mono ?_
 rintro e w2 ⟨⟨v2,rfl⟩,hI2,hK2⟩
 have ks2:Kp S w w2:=HK1.out.trans' hK2
 have d2_0:=(ks2.cell lb nS).trans c0
 have d2_1:=(ks2.cell lb nS).trans c1
 have d2_2:=(ks2.cell lb nS).trans c2
 have d2_3:=(ks2.cell lb nS).trans c3
 have d2_4:=(ks2.cell lb nS).trans c4
 have lb2:b0 < w2.heap.size:=Nat.lt_of_lt_of_le lb ks2.size
 have HI2:=hd_ hI2;have HK2:=hd_ ks2;clear hI2 hK2 ks2
 go_wp2_with fail
 refine (wlex_c (vs.map vlTh) hokz.out cap F S Inv HV.out w2 _ (.slice zp zs.length zc) zs (HZ.out.on HK2.out ha) (HVV.out.ifon HK2.out ha) HI2.out hlenz (by have hN:=HLEN.out;simp only [Th.pre,Ty.pre,It.pre,Dc.pre,tyPre,rvPre,bdPre,tagPl,itsPre,thsPre_nms,thsPre_fds,thsPre_vls,thsPre_its,la_,lc_,ln_,lm_,if_true,Bool.false_eq_true,if_false] at hN ⊢;omega)).mono ?_
 rintro e w3 ⟨⟨v3,rfl⟩,hI3,hK3⟩
 have ks3:Kp S w w3:=HK2.out.trans' hK3
 have d3_0:=(ks3.cell lb nS).trans c0
 have d3_1:=(ks3.cell lb nS).trans c1
 have d3_2:=(ks3.cell lb nS).trans c2
 have d3_3:=(ks3.cell lb nS).trans c3
 have d3_4:=(ks3.cell lb nS).trans c4
 have lb3:b0 < w3.heap.size:=Nat.lt_of_lt_of_le lb ks3.size
 have HI3:=hd_ hI3;have HK3:=hd_ ks3;clear hI3 hK3 ks3
 go_wp2_with fail
 refine (HV.out.nil w3 _ HI3.out).mono ?_
 rintro e w4 ⟨⟨vn,rfl⟩,hI4,hK4⟩
 have ks4:Kp S w w4:=HK3.out.trans' hK4
 have d4_0:=(ks4.cell lb nS).trans c0
 have d4_1:=(ks4.cell lb nS).trans c1
 have d4_2:=(ks4.cell lb nS).trans c2
 have d4_3:=(ks4.cell lb nS).trans c3
 have d4_4:=(ks4.cell lb nS).trans c4
 have lb4:b0 < w4.heap.size:=Nat.lt_of_lt_of_le lb ks4.size
 have HI4:=hd_ hI4;have HK4:=hd_ ks4;clear hI4 hK4 ks4
 go_wp2_with fail
 refine bodyPost_end (v:=.tuple #[]) (by simp [results,Tryz.results57,go_sem]) rfl ⟨⟨_,rfl⟩,?_,HK4.out⟩
 have hfin:=HI4.out
 try simp only [aa_] at hfin
 rw [thsPre_nms,thsPre_vls] at hfin
 simpa [Th.pre,Th.pl,Th.kind,Th.pos,Th.fin,It.pre,It.kind,It.pos,It.fin,Dc.pre,Dc.kind,Dc.pos,Dc.fin,Ty.pre,tyPre,tyFin,rvPre,bdPre,bdFin,itsPre,vsPre,vsFin] using hfin
theorem walk_valuet (ns:List Nm) (t:Ty) (vs:List (Int × Ty)) (ht:WalkP (.ty t)) (hvs:∀ v∈vs,WalkP (.ty v.2)):WalkP (.it (.value ns (some t) vs)):=by
 intro cap F S Inv hV w l u hI h hok hN
 have HLEN:=hd_ hN;clear hN
 have hself:=h
 obtain ⟨s,us,y,zz,zs,⟨b0,rfl,hF0,hb⟩,hr,hn,hy,hz,hv⟩:=h
 obtain ⟨sp,sc,rfl⟩:=hr.form
 obtain ⟨zp,zc,rfl⟩:=hz.form
 have hul:=hn.length;have hzl:=LAt.length _ _ hv
 obtain ⟨x,rfl,hat⟩:=hy
 obtain ⟨xb,rfl⟩:=hat.ptr
 have HAT:=hd_ hat;clear hat
 have HT:=hd_ ht;clear ht
 have hokt:(Th.ty t).ok:=⟨⟨false,hok.1.2.2.1 t rfl⟩,by have h1:=hok.2;simp only [It.nd,tyOpt,ls,Nd.size,Nd.sizeL] at h1;omega⟩
 have HR:=hd_ hr;have HN:=hd_ (NmsAt.lat _ _ hn);have HZ:=hd_ hz;have HVV:=hd_ (LAt.vls _ _ hv)
 have hlen:us.length≤400:=by have h1:=hok.2;have:=Nd.sizeL_length (ns.map Nm.nd);simp only [It.nd,ls,Nd.size,Nd.sizeL,lm_] at h1 this;omega
 have hlenz:zs.length≤400:=by have h1:=hok.2;have:=Nd.sizeL_length (vs.map fun v=>v.2.nd);simp only [It.nd,ls,Nd.size,Nd.sizeL,lm_] at h1 this;omega
 have hoks:Hid (∀ x∈ns.map nmTh,WalkP x∧x.ok∧x.ty'=70):=by
  intro x hx
  obtain ⟨n,hn,rfl⟩:=List.mem_map.1 hx
  exact ⟨walk_name n.p n.s,nmTh_ok (hok.1.2.1 n hn),rfl⟩
 have hokz:Hid (∀ x∈vs.map vlTh,WalkP x∧x.ok):=by
  intro x hx
  obtain ⟨v,hv,rfl⟩:=List.mem_map.1 hx
  have h1:=hok.2
  simp only [It.nd,ls,Nd.size,Nd.sizeL] at h1
  exact ⟨hvs v hv,⟨⟨false,(hok.1.2.2.2 v hv).2⟩,Nat.le_trans (Nd.sizeL_mem (List.mem_map_of_mem (f:=fun v:Int × Ty=>v.2.nd) hv)) (by omega)⟩⟩
 clear hr hn hz hv hul hzl hvs
 have lb:=ltb hb
 have c0:=cO hb 0 _ rfl
 have c1:=cO hb 1 _ rfl
 have c2:=cO hb 2 _ rfl
 have c3:=cO hb 3 _ rfl
 have c4:=cO hb 4 _ rfl
 have ha:=hV.apart
 have nS:¬ S b0:=hV.apart b0 hF0
 have HV:=hd_ hV;have HSELF:=hd_ hself;have HI:=hd_ hI;have HOK:=hd_ hok
 clear hV hself hI hok hb
 have nv:=nv_Visit;have mv:=mv_Visit
 simp only [Th.ty',Ty.ty,It.ty,Dc.ty]
 go_enter Tryz.func57,Tryz.ntmps57
 go_wp2_with fail
 refine (HV.out.node w l (.it (.value ns (some t) vs)) (.pointer (some ⟨b0,0,none⟩)) HI.out HSELF.out HOK.out (by have hN:=HLEN.out;simp only [Th.pre,Ty.pre,It.pre,Dc.pre,tyPre,rvPre,bdPre,tagPl,itsPre,thsPre_nms,thsPre_fds,thsPre_vls,thsPre_its,la_,lc_,ln_,lm_,if_true,Bool.false_eq_true,if_false] at hN ⊢;omega)).mono ?_
 rintro e w1 ⟨rfl,hI1,hK1⟩
 have ks1:Kp S w w1:=hK1
 have d1_0:=(ks1.cell lb nS).trans c0
 have d1_1:=(ks1.cell lb nS).trans c1
 have d1_2:=(ks1.cell lb nS).trans c2
 have d1_3:=(ks1.cell lb nS).trans c3
 have d1_4:=(ks1.cell lb nS).trans c4
 have lb1:b0 < w1.heap.size:=Nat.lt_of_lt_of_le lb ks1.size
 have HI1:=hd_ hI1;have HK1:=hd_ ks1;clear hI1 hK1 ks1
 go_wp2_with fail
 refine (wlid_c (ns.map nmTh) hoks.out cap F S Inv HV.out w1 _ (.slice sp us.length sc) us (HR.out.on HK1.out ha) (HN.out.pton HK1.out ha) HI1.out hlen (by have hN:=HLEN.out;simp only [Th.pre,Ty.pre,It.pre,Dc.pre,tyPre,rvPre,bdPre,tagPl,itsPre,thsPre_nms,thsPre_fds,thsPre_vls,thsPre_its,la_,lc_,ln_,lm_,if_true,Bool.false_eq_true,if_false] at hN ⊢;omega)).mono ?_
 rintro e w2 ⟨⟨v2,rfl⟩,hI2,hK2⟩
 have ks2:Kp S w w2:=HK1.out.trans' hK2
 have d2_0:=(ks2.cell lb nS).trans c0
 have d2_1:=(ks2.cell lb nS).trans c1
 have d2_2:=(ks2.cell lb nS).trans c2
 have d2_3:=(ks2.cell lb nS).trans c3
 have d2_4:=(ks2.cell lb nS).trans c4
 have lb2:b0 < w2.heap.size:=Nat.lt_of_lt_of_le lb ks2.size
 have HI2:=hd_ hI2;have HK2:=hd_ ks2;clear hI2 hK2 ks2
 go_wp2_with fail
 refine (HT.out cap F S Inv HV.out w2 _ (.pointer (some ⟨xb,0,none⟩)) HI2.out (Th.At.on (show Th.At w F (.ty t) _ from HAT.out) HK2.out ha) hokt (by have hN:=HLEN.out;simp only [Th.pre,Ty.pre,It.pre,Dc.pre,tyPre,rvPre,bdPre,tagPl,itsPre,thsPre_nms,thsPre_fds,thsPre_vls,thsPre_its,la_,lc_,ln_,lm_,if_true,Bool.false_eq_true,if_false] at hN ⊢;omega)).mono ?_
 rintro e w3 ⟨⟨v3,rfl⟩,hI3,hK3⟩
 have ks3:Kp S w w3:=HK2.out.trans' hK3
 have d3_0:=(ks3.cell lb nS).trans c0
 have d3_1:=(ks3.cell lb nS).trans c1
 have d3_2:=(ks3.cell lb nS).trans c2
 have d3_3:=(ks3.cell lb nS).trans c3
 have d3_4:=(ks3.cell lb nS).trans c4
 have lb3:b0 < w3.heap.size:=Nat.lt_of_lt_of_le lb ks3.size
 have HI3:=hd_ hI3;have HK3:=hd_ ks3;clear hI3 hK3 ks3
 go_wp2_with fail
 refine (wlex_c (vs.map vlTh) hokz.out cap F S Inv HV.out w3 _ (.slice zp zs.length zc) zs (HZ.out.on HK3.out ha) (HVV.out.ifon HK3.out ha) HI3.out hlenz (by have hN:=HLEN.out;simp only [Th.pre,Ty.pre,It.pre,Dc.pre,tyPre,rvPre,bdPre,tagPl,itsPre,thsPre_nms,thsPre_fds,thsPre_vls,thsPre_its,la_,lc_,ln_,lm_,if_true,Bool.false_eq_true,if_false] at hN ⊢;omega)).mono ?_
 rintro e w4 ⟨⟨v4,rfl⟩,hI4,hK4⟩
 have ks4:Kp S w w4:=HK3.out.trans' hK4
 have d4_0:=(ks4.cell lb nS).trans c0
 have d4_1:=(ks4.cell lb nS).trans c1
 have d4_2:=(ks4.cell lb nS).trans c2
 have d4_3:=(ks4.cell lb nS).trans c3
 have d4_4:=(ks4.cell lb nS).trans c4
 have lb4:b0 < w4.heap.size:=Nat.lt_of_lt_of_le lb ks4.size
 have HI4:=hd_ hI4;have HK4:=hd_ ks4;clear hI4 hK4 ks4
 go_wp2_with fail
 refine (HV.out.nil w4 _ HI4.out).mono ?_
 rintro e w5 ⟨⟨vn,rfl⟩,hI5,hK5⟩
 have ks5:Kp S w w5:=HK4.out.trans' hK5
 have d5_0:=(ks5.cell lb nS).trans c0
 have d5_1:=(ks5.cell lb nS).trans c1
 have d5_2:=(ks5.cell lb nS).trans c2
 have d5_3:=(ks5.cell lb nS).trans c3
 have d5_4:=(ks5.cell lb nS).trans c4
 have lb5:b0 < w5.heap.size:=Nat.lt_of_lt_of_le lb ks5.size
 have HI5:=hd_ hI5;have HK5:=hd_ ks5;clear hI5 hK5 ks5
 go_wp2_with fail
 refine bodyPost_end (v:=.tuple #[]) (by simp [results,Tryz.results57,go_sem]) rfl ⟨⟨_,rfl⟩,?_,HK5.out⟩
 have hfin:=HI5.out
 try simp only [aa_] at hfin
 rw [thsPre_nms,thsPre_vls] at hfin
 simpa [Th.pre,Th.pl,Th.kind,Th.pos,Th.fin,It.pre,It.kind,It.pos,It.fin,Dc.pre,Dc.kind,Dc.pos,Dc.fin,Ty.pre,tyPre,tyFin,rvPre,bdPre,bdFin,itsPre,vsPre,vsFin] using hfin
end
end Go.Proofs.YtnkbglhdpmbgfaaGreatFmt
