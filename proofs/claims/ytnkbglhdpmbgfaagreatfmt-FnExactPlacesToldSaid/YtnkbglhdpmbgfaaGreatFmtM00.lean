/- A part of the proof; no condition: Base, Tree, Mem, BNext, App, Decl, PlRow, Nest, PlA, PlB, BKid, BTok. -/
import Derived.Test.YtnkbglhdpmbgfaaGreatFmtM
import Derived.Test.YtnkbglhdpmbgfaaGreatFmtProg
import Derived.WalkKit
import Derived.Deep.Draws
import Derived.WalkSpells
import Derived.Lib.Hide
import Derived.Deep.AppendLies
import Derived.Deep.RegionHeld3
import Derived.Deep.RegionLaw
import Derived.Deep.QuietTactic
import Derived.BigQuiet
import Derived.IntWalk
set_option linter.all false
set_option maxHeartbeats 16000000
set_option maxRecDepth 100000
namespace Go.Proofs.YtnkbglhdpmbgfaaGreatFmt
section
open Go Go.RowKit
structure Kp (S:Nat→Prop) (w w':World):Prop where
 os:w'.os=w.os
 tape:w'.tape=w.tape
 output:w'.output=w.output
 size:w.heap.size≤w'.heap.size
 block:∀ k,k < w.heap.size→¬ S k→w'.heap[k]?=w.heap[k]?
abbrev No:Nat→Prop:=fun _=>False
theorem Kp.refl (S:Nat→Prop) (w:World):Kp S w w:=⟨rfl,rfl,rfl,Nat.le_refl _,fun _ _ _=>rfl⟩
theorem Kp.trans {S S':Nat→Prop} {a b c:World} (h:Kp S a b) (k:Kp S' b c) (hs:∀ i,i < a.heap.size→S' i→S i):Kp S a c :=
 ⟨k.os.trans h.os,k.tape.trans h.tape,k.output.trans h.output,Nat.le_trans h.size k.size,
  fun i hi hn=>(k.block i (Nat.lt_of_lt_of_le hi h.size) (fun hc=>hn (hs i hi hc))).trans (h.block i hi hn)⟩
theorem Kp.trans' {S:Nat→Prop} {a b c:World} (h:Kp S a b) (k:Kp S b c):Kp S a c:=h.trans k fun _ _ h=>h
theorem Kp.no {S:Nat→Prop} {a b c:World} (h:Kp S a b) (k:Kp No b c):Kp S a c:=h.trans k fun _ _ h=>h.elim
theorem Kp.mono {S S':Nat→Prop} {a b:World} (h:Kp S a b) (hs:∀ i,i < a.heap.size→S i→S' i):Kp S' a b :=
 ⟨h.os,h.tape,h.output,h.size,fun i hi hn=>h.block i hi fun hc=>hn (hs i hi hc)⟩
theorem Kp.drew {S:Nat→Prop} {a w:World} (h:Kp S a w):Kp S a w.drew:=⟨h.os,h.tape,h.output,h.size,h.block⟩
theorem Kp.drewN {S:Nat→Prop} {a w:World} (h:Kp S a w) (n:Nat):Kp S a (w.drewN n):=⟨h.os,h.tape,h.output,h.size,h.block⟩
theorem Kp.alloc {S:Nat→Prop} {a w:World} (h:Kp S a w) (o:Obj):Kp S a (w.alloc o) :=
 h.no ⟨rfl,rfl,rfl,by simp,fun k hk _=>Below.heap_alloc _ _ _ hk⟩
theorem Kp.setCell {S:Nat→Prop} {a w:World} (h:Kp S a w) {p:Addr} (hp:p.block < a.heap.size→S p.block) (u:Value):Kp S a (w.setCell p u) :=
 h.trans (S':=fun k=>k=p.block) ⟨rfl,rfl,rfl,by simp [World.setCell],fun k _ hn=>Below.heap_setCell _ _ _ _ hn⟩ fun i hi e=>by subst e;exact hp hi
theorem Kp.grown {S:Nat→Prop} {a w w':World} {row:Option Nat} (h:Kp S a w) (hg:w.grownBy w' row) (hr:∀ k,row=some k→k < a.heap.size→S k):Kp S a w' :=
 h.trans (S':=fun k=>row=some k) ⟨hg.os,hg.tape,hg.output,hg.size,fun k hk hn=>hg.block k hk fun e=>hn e.symm⟩ fun i hi e=>hr i e hi
theorem Kp.below {a w:World} (h:Kp No a w):Below a.heap.size a w:=⟨h.os,h.tape,h.output,h.size,fun k hk=>h.block k hk id⟩
theorem Kp.of_below {a w:World} (h:Below a.heap.size a w):Kp No a w:=⟨h.os,h.tape,h.output,h.size,fun k hk _=>h.block k hk⟩
theorem Kp.at {S:Nat→Prop} {a w:World} (h:Kp S a w) {k:Nat} {o:Obj} (hk:a.heap[k]?=some o) (hn:¬ S k):w.heap[k]?=some o :=
 (h.block k (ltb hk) hn).trans hk
theorem Kp.cell {S:Nat→Prop} {a w:World} (h:Kp S a w) {b o:Nat} (hb:b < a.heap.size) (hn:¬ S b):w.cell? ⟨b,o,none⟩=a.cell? ⟨b,o,none⟩:=World.cell?_of_block (w:=a) (h.block b hb hn)
theorem Kp.frozen {S:Nat→Prop} {a w:World} (h:Kp S a w) {b o:Nat} (hb:b < a.heap.size) (hn:¬ S b):w.frozen? ⟨b,o,none⟩=a.frozen? ⟨b,o,none⟩:=World.frozen?_of_block (w:=a) (h.block b hb hn)
theorem cO {w:World} {b:Nat} {cs:Array Value} {T:TypeId} {z:Nat × Nat} (h:w.heap[b]?=some (.cells cs T z)) (i:Nat) (v:Value) (hv:cs[i]?=some v):w.cell? ⟨b,i,none⟩=some v:=by
 simp [World.cell?,h,hv]
theorem fO {w:World} {b:Nat} {cs:Array Value} {T:TypeId} (h:w.heap[b]?=some (.cells cs T (0,0))) (i:Nat):w.frozen? ⟨b,i,none⟩=false:=by
 simp [World.frozen?,h]
theorem setOf {w:World} {b:Nat} {cs:Array Value} {T:TypeId} {z:Nat × Nat} (h:w.heap[b]?=some (.cells cs T z)) (i:Nat) (u:Value):(w.setCell ⟨b,i,none⟩ u).heap[b]?=some (.cells (cs.setIfInBounds i u) T z):=by
 have hlt:=ltb h
 have h':w.heap[b]=.cells cs T z:=by simpa [Array.getElem?_eq_getElem hlt] using h
 show (w.heap.modify b _)[b]?=_
 rw [Array.getElem?_eq_getElem (by simpa using hlt),Array.getElem_modify_self,h']
 rfl
theorem setOther {w:World} {b:Nat} {o:Obj} (h:w.heap[b]?=some o) {p:Addr} (hp:b≠p.block) (u:Value):(w.setCell p u).heap[b]?=some o:=(Below.heap_setCell w p u b hp).trans h
theorem newOf (w:World) (o:Obj):(w.alloc o).heap[w.heap.size]?=some o:=heap_alloc_new w o
theorem newOf2 (w:World) (o o':Obj):((w.alloc o).alloc o').heap[w.heap.size+1]?=some o':=by
 simpa using newOf (w.alloc o) o'
theorem allocOf {w:World} {b:Nat} {o:Obj} (h:w.heap[b]?=some o) (o':Obj):(w.alloc o').heap[b]?=some o:=(Below.heap_alloc w o' b (ltb h)).trans h
theorem bs_empty {t:ByteArray} (h:t.size=0):t=⟨#[]⟩:=by
 cases t with | mk d=>simpa [ByteArray.size] using h
theorem bs_ne {t:ByteArray} (h:¬ t.size=0):¬ t.toList=[]∧t.toList.isEmpty=false:=by
 have:¬ t.toList=[]:=fun e=>h (by rw [ByteArray.toList_eq] at e;cases t with | mk d=>simpa [ByteArray.size] using e)
 exact ⟨this,by simpa using this⟩
theorem lts {b n:Nat} (h:b < n):b≤n∧b < n+1∧b≤n+1∧b < n+1+1∧b < n+2:=by omega
def Row (w:World) (F:Nat→Prop) (T:TypeId) (v:Value) (us:List Value):Prop :=
 (v=.slice none 0 0∧us=[]) ∨
   ∃ g cap cur,v=.slice (some ⟨g,0,none⟩) us.length cap∧F g∧w.heap[g]?=some (.cells cur T (0,0))∧us.length≤cap∧cap≤maxLen∧cur.size=cap∧cur.toList.take us.length=us
theorem Row.owns {w:World} {F:Nat→Prop} {T:TypeId} {v:Value} {us:List Value} (h:Row w F T v us):w.ownsRow 0 T 1 v us.length us:=by
 refine ⟨by simp,?_⟩
 rcases h with ⟨rfl,rfl⟩ | ⟨g,cap,cur,rfl,_,hg,h1,h2,h3,h4⟩
 ·exact .inl ⟨rfl,rfl⟩
 ·exact .inr ⟨g,cap,cur,rfl,Nat.zero_le _,hg,h1,h2,by simpa using h3,by simpa using h4⟩
theorem Row.of_owns {w:World} {F:Nat→Prop} {T:TypeId} {v:Value} {n:Nat} {us:List Value} (h:w.ownsRow 0 T 1 v n us) (hF:∀ g,v.ownBlock=some g→F g):Row w F T v us:=by
 obtain ⟨hl,h⟩:=h
 have hl:us.length=n:=by simpa using hl
 subst hl
 rcases h with ⟨rfl,h0⟩ | ⟨g,cap,cur,rfl,_,hg,h1,h2,h3,h4⟩
 ·exact .inl ⟨rfl,List.eq_nil_of_length_eq_zero h0⟩
 ·exact .inr ⟨g,cap,cur,rfl,hF g rfl,hg,h1,h2,by simpa using h3,by simpa using h4⟩
def Stay (F F':Nat→Prop) (w w':World):Prop:=∀ b,b < w.heap.size→F b→w'.heap[b]?=w.heap[b]?∧F' b
theorem Stay.at {F F':Nat→Prop} {w w':World} (h:Stay F F' w w') {b:Nat} {o:Obj} (hF:F b) (hb:w.heap[b]?=some o):w'.heap[b]?=some o∧F' b :=
 ⟨(h b (ltb hb) hF).1.trans hb,(h b (ltb hb) hF).2⟩
theorem Row.stay {F F':Nat→Prop} {w w':World} {T:TypeId} {v:Value} {us:List Value} (h:Row w F T v us) (hs:Stay F F' w w'):Row w' F' T v us:=by
 rcases h with h | ⟨g,cap,cur,rfl,hF,hg,h1⟩
 ·exact .inl h
 ·obtain ⟨hg',hF'⟩:=hs.at hF hg
  exact .inr ⟨g,cap,cur,rfl,hF',hg',h1⟩
theorem Row.form {F:Nat→Prop} {w:World} {T:TypeId} {v:Value} {us:List Value} (h:Row w F T v us):∃ p cap,v=.slice p us.length cap:=by
 rcases h with ⟨rfl,rfl⟩ | ⟨g,cap,cur,rfl,_⟩
 ·exact ⟨none,0,rfl⟩
 ·exact ⟨_,cap,rfl⟩
theorem Row.get {F:Nat→Prop} {w:World} {T:TypeId} {v:Value} {us:List Value} (h:Row w F T v us) {i:Nat} {u:Value} (hu:us[i]?=some u) :
 ∃ g cap,v=.slice (some ⟨g,0,none⟩) us.length cap∧w.cell? ⟨g,i,none⟩=some u∧F g∧us.length≤cap∧i < us.length:=by
 have hi:i < us.length:=(List.getElem?_eq_some_iff.1 hu).1
 rcases h with ⟨rfl,rfl⟩ | ⟨g,cap,cur,rfl,hF,hg,h1,h2,h3,h4⟩
 ·simp at hu
 ·refine ⟨g,cap,rfl,cO hg i u ?_,hF,h1,hi⟩
  rw [← h4,List.getElem?_take,if_pos hi] at hu
  simpa using hu
def Blk (w:World) (F:Nat→Prop) (v:Value) (T:TypeId) (cs:Array Value):Prop :=
 ∃ b,v=.pointer (some ⟨b,0,none⟩)∧F b∧w.heap[b]?=some (.cells cs T (0,0))
theorem Blk.stay {F F':Nat→Prop} {w w':World} {v:Value} {T:TypeId} {cs:Array Value} (h:Blk w F v T cs) (hs:Stay F F' w w'):Blk w' F' v T cs:=by
 obtain ⟨b,rfl,hF,hb⟩:=h
 obtain ⟨hb',hF'⟩:=hs.at hF hb
 exact ⟨b,rfl,hF',hb'⟩
end
section
open Go Go.RowKit
inductive Nd where
 | mk (k t:ByteArray) (l:List Nd)
def Nd.k:Nd→ByteArray | .mk k _ _=>k
def Nd.t:Nd→ByteArray | .mk _ t _=>t
def Nd.l:Nd→List Nd | .mk _ _ l=>l
mutual
def Nd.size:Nd→Nat
 | .mk _ _ l=>1+Nd.sizeL l
def Nd.sizeL:List Nd→Nat
 | []=>0
 | n::l=>n.size+Nd.sizeL l
end
mutual
def Nd.short:Nd→Prop
 | .mk _ t l=>t.size≤1048576∧Nd.shortL l
def Nd.shortL:List Nd→Prop
 | []=>True
 | n::l=>n.short∧Nd.shortL l
end
def Nd.miss:Nd:=.mk ⟨#[110,111,110,101]⟩ ⟨#[]⟩ []
def Nd.name (s:ByteArray):Nd:=.mk ⟨#[110,97,109,101]⟩ s []
def Nd.lit (s:ByteArray):Nd:=.mk ⟨#[108,105,116,101,114,97,108]⟩ s []
structure Nm where
 c:Int
 p:Int
 s:ByteArray
mutual
inductive Ty where
 | name (p:Int) (s:ByteArray)
 | lit (p:Int) (s:ByteArray)
 | sel (x:Ty) (d p:Int) (s:ByteArray)
 | star (p:Int) (x:Ty)
 | sl (p q:Int) (x:Ty)
 | arr (p:Int) (l:Ty) (q:Int) (x:Ty)
 | map (p q:Int) (k:Ty) (r:Int) (v:Ty)
 | ch (p:Int) (x:Ty)
 | chs (p q:Int) (x:Ty)
 | chr (p q:Int) (x:Ty)
 | sig (p o:Int) (ps:Fs) (c:Int) (b:Bool) (o':Int) (rs:Fs) (c':Int)
 | struct (p o:Int) (f:Fs) (c:Int)
 | iface (p o:Int) (f:Fs) (c:Int)
inductive Fs where
 | nil
 | cons (c:Int) (ns:List Nm) (t:Ty) (tp:Int) (tag:ByteArray) (l:Fs)
end
mutual
def Ty.sz:Ty→Nat
 | .name .. | .lit ..=>1
 | .sel x .. | .star _ x | .sl _ _ x | .ch _ x | .chs _ _ x | .chr _ _ x=>x.sz+1
 | .arr _ l _ x=>l.sz+x.sz+1
 | .map _ _ k _ v=>k.sz+v.sz+1
 | .sig _ _ ps _ _ _ rs _=>ps.sz+rs.sz+1
 | .struct _ _ f _ | .iface _ _ f _=>f.sz+1
def Fs.sz:Fs→Nat
 | .nil=>1
 | .cons _ _ t _ _ l=>t.sz+l.sz+1
end
def Nm.nd (n:Nm):Nd:=.name n.s
def fl (l:List Nd):Nd:=.mk ⟨#[102,105,101,108,100,115]⟩ ⟨#[]⟩ l
mutual
def Ty.nd:Ty→Nd
 | .name _ s=>.name s
 | .lit _ s=>.lit s
 | .sel x _ _ s=>.mk ⟨#[115,101,108,101,99,116]⟩ s [x.nd]
 | .star _ x=>.mk ⟨#[115,116,97,114]⟩ ⟨#[]⟩ [x.nd]
 | .sl _ _ x=>.mk ⟨#[97,114,114,97,121]⟩ ⟨#[]⟩ [.miss,x.nd]
 | .arr _ l _ x=>.mk ⟨#[97,114,114,97,121]⟩ ⟨#[]⟩ [l.nd,x.nd]
 | .map _ _ k _ v=>.mk ⟨#[109,97,112]⟩ ⟨#[]⟩ [k.nd,v.nd]
 | .ch _ x=>.mk ⟨#[99,104,97,110]⟩ ⟨#[]⟩ [x.nd]
 | .chs _ _ x=>.mk ⟨#[99,104,97,110]⟩ ⟨#[115,101,110,100]⟩ [x.nd]
 | .chr _ _ x=>.mk ⟨#[99,104,97,110]⟩ ⟨#[114,101,99,101,105,118,101]⟩ [x.nd]
 | .sig _ _ ps _ b _ rs _=>.mk ⟨#[115,105,103,110,97,116,117,114,101]⟩ ⟨#[]⟩ [fl ps.nds,if b then fl rs.nds else .miss]
 | .struct _ _ f _=>.mk ⟨#[115,116,114,117,99,116]⟩ ⟨#[]⟩ [fl f.nds]
 | .iface _ _ f _=>.mk ⟨#[105,110,116,101,114,102,97,99,101]⟩ ⟨#[]⟩ [fl f.nds]
def Fs.nds:Fs→List Nd
 | .nil=>[]
 | .cons _ ns t _ tag l=>.mk ⟨#[102,105,101,108,100]⟩ tag (t.nd::ns.map Nm.nd)::l.nds
end
structure Pl where
 k:ByteArray
 a:Int
 b:Int
def Ty.kind:Ty→ByteArray
 | .name ..=>⟨#[110,97,109,101]⟩
 | .lit ..=>⟨#[108,105,116,101,114,97,108]⟩
 | .sel ..=>⟨#[115,101,108,101,99,116]⟩
 | .star ..=>⟨#[115,116,97,114]⟩
 | .sl .. | .arr ..=>⟨#[97,114,114,97,121]⟩
 | .map ..=>⟨#[109,97,112]⟩
 | .ch .. | .chs .. | .chr ..=>⟨#[99,104,97,110]⟩
 | .sig ..=>⟨#[115,105,103,110,97,116,117,114,101]⟩
 | .struct ..=>⟨#[115,116,114,117,99,116]⟩
 | .iface ..=>⟨#[105,110,116,101,114,102,97,99,101]⟩
theorem Ty.nd_k (t:Ty):t.nd.k=t.kind:=by cases t <;> rfl
def Ty.pos:Ty→Int
 | .name p _ | .lit p _ | .star p _ | .sl p _ _ | .arr p _ _ _ | .map p _ _ _ _ | .ch p _ | .chs p _ _ | .chr p _ _ | .struct p _ _ _ | .iface p _ _ _=>p
 | .sel x _ _ _=>x.pos
 | .sig p o _ _ _ _ _ _=>if p=0 then o else p
def Ty.fin:Ty→Int
 | .name p s | .lit p s | .sel _ _ p s=>p+s.size
 | .star _ x | .sl _ _ x | .arr _ _ _ x | .map _ _ _ _ x | .ch _ x | .chs _ _ x | .chr _ _ x=>x.fin
 | .sig _ _ _ c b _ _ c'=>if b then c'+1 else c+1
 | .struct _ _ _ c | .iface _ _ _ c=>c+1
def Nm.pl (n:Nm):Pl:=⟨⟨#[110,97,109,101]⟩,n.p,n.p+n.s.size⟩
def tagPl (tp:Int) (tag:ByteArray):List Pl:=if tag.size=0 then [] else [⟨⟨#[108,105,116,101,114,97,108]⟩,tp,tp+tag.size⟩]
def fpos (ns:List Nm) (t:Ty):Int:=match ns with | []=>t.pos | n::_=>n.p
def ffin (t:Ty) (tp:Int) (tag:ByteArray):Int:=if tag.size=0 then t.fin else tp+tag.size
mutual
def Ty.pre:Ty→List Pl
 | .name p s=>[⟨⟨#[110,97,109,101]⟩,p,p+s.size⟩]
 | .lit p s=>[⟨⟨#[108,105,116,101,114,97,108]⟩,p,p+s.size⟩]
 | .sel x _ p s=>⟨⟨#[115,101,108,101,99,116]⟩,x.pos,p+s.size⟩::(x.pre++[⟨⟨#[110,97,109,101]⟩,p,p+s.size⟩])
 | .star p x=>⟨⟨#[115,116,97,114]⟩,p,x.fin⟩::x.pre
 | .sl p _ x=>⟨⟨#[97,114,114,97,121]⟩,p,x.fin⟩::x.pre
 | .arr p l _ x=>⟨⟨#[97,114,114,97,121]⟩,p,x.fin⟩::(l.pre++x.pre)
 | .map p _ k _ v=>⟨⟨#[109,97,112]⟩,p,v.fin⟩::(k.pre++v.pre)
 | .ch p x=>⟨⟨#[99,104,97,110]⟩,p,x.fin⟩::x.pre
 | .chs p _ x=>⟨⟨#[99,104,97,110]⟩,p,x.fin⟩::x.pre
 | .chr p _ x=>⟨⟨#[99,104,97,110]⟩,p,x.fin⟩::x.pre
 | .sig p o ps c b o' rs c'=>⟨⟨#[115,105,103,110,97,116,117,114,101]⟩,if p=0 then o else p,if b then c'+1 else c+1⟩::((⟨⟨#[102,105,101,108,100,115]⟩,o,c+1⟩::ps.pre)++(if b then ⟨⟨#[102,105,101,108,100,115]⟩,o',c'+1⟩::rs.pre else []))
 | .struct p o f c=>⟨⟨#[115,116,114,117,99,116]⟩,p,c+1⟩::⟨⟨#[102,105,101,108,100,115]⟩,o,c+1⟩::f.pre
 | .iface p o f c=>⟨⟨#[105,110,116,101,114,102,97,99,101]⟩,p,c+1⟩::⟨⟨#[102,105,101,108,100,115]⟩,o,c+1⟩::f.pre
def Fs.pre:Fs→List Pl
 | .nil=>[]
 | .cons _ ns t tp tag l=>(⟨⟨#[102,105,101,108,100]⟩,fpos ns t,ffin t tp tag⟩::(ns.map Nm.pl++(t.pre++tagPl tp tag)))++l.pre
end
def nmToks:Bool→List Nm→List Int
 | _,[]=>[]
 | first,n::l=>(if first then [] else [n.c])++n.p::nmToks false l
mutual
def Ty.toks:Bool→Ty→List Int
 | _,.name p _=>[p]
 | _,.lit p _=>[p]
 | _,.sel x d p _=>x.toks false++[d,p]
 | _,.star p x=>p::x.toks false
 | _,.sl p q x=>p::q::x.toks false
 | _,.arr p l q x=>p::(l.toks false++q::x.toks false)
 | _,.map p q k r v=>p::q::(k.toks false++r::v.toks false)
 | _,.ch p x=>p::x.toks false
 | _,.chs p q x=>p::q::x.toks false
 | _,.chr p q x=>p::q::x.toks false
 | z,.sig p o ps c b o' rs c'=>(if z then [] else [p])++((o::(ps.toks true true false++[c]))++(if b then o'::(rs.toks true true false++[c']) else []))
 | _,.struct p o f c=>p::o::(f.toks false true false++[c])
 | _,.iface p o f c=>p::o::(f.toks false true true++[c])
def Fs.toks:Bool→Bool→Bool→Fs→List Int
 | _,_,_,.nil=>[]
 | comma,first,meth,.cons c ns t tp tag l=>((if comma && !first then [c] else [])++(nmToks true ns++(t.toks (meth && !ns.isEmpty)++(if tag.size=0 then [] else [tp]))))++l.toks comma false meth
end
def Pk (p:Int):Prop:=1≤p∧p≤1125899906842624
def Nm.ok (n:Nm):Prop:=Pk n.c∧Pk n.p∧n.s.size≤1048576
mutual
def Ty.ok:Bool→Ty→Prop
 | z,.name p s=>z=false∧Pk p∧s.size≤1048576
 | z,.lit p s=>z=false∧Pk p∧s.size≤1048576
 | z,.sel x d p s=>z=false∧x.ok false∧Pk d∧Pk p∧s.size≤1048576
 | z,.star p x=>z=false∧Pk p∧x.ok false
 | z,.sl p q x=>z=false∧Pk p∧Pk q∧x.ok false
 | z,.arr p l q x=>z=false∧Pk p∧l.ok false∧Pk q∧x.ok false
 | z,.map p q k r v=>z=false∧Pk p∧Pk q∧k.ok false∧Pk r∧v.ok false
 | z,.ch p x=>z=false∧Pk p∧x.ok false
 | z,.chs p q x=>z=false∧Pk p∧Pk q∧x.ok false
 | z,.chr p q x=>z=false∧Pk p∧Pk q∧x.ok false
 | z,.sig p o ps c b o' rs c'=>(if z then p=0 else Pk p)∧Pk o∧ps.ok false∧Pk c∧(if b then Pk o'∧rs.ok false∧Pk c' else rs=.nil)
 | z,.struct p o f c=>z=false∧Pk p∧Pk o∧f.ok false∧Pk c
 | z,.iface p o f c=>z=false∧Pk p∧Pk o∧f.ok true∧Pk c
def Fs.ok:Bool→Fs→Prop
 | _,.nil=>True
 | meth,.cons c ns t tp tag l=>Pk c∧(∀ n∈ns,n.ok)∧t.ok (meth && !ns.isEmpty)∧Pk tp∧tag.size≤1048576∧l.ok meth
end
end
section
open Go Go.RowKit
mutual
def Nd.In (w:World) (B:Nat) (s:Value):Nd→Prop
 | .mk _ _ l=>∃ p c,s=.slice p l.length c∧l.length≤c∧(l=[]∨∃ b o,p=some ⟨b,o,none⟩∧b < B∧Nd.RowIn w B b o l)
def Nd.RowIn (w:World) (B:Nat) (b o:Nat):List Nd→Prop
 | []=>True
 | n::l=>(w.cell? ⟨b,o,none⟩=some (.string n.k)∧w.cell? ⟨b,o+1,none⟩=some (.string n.t)∧∃ s,w.cell? ⟨b,o+2,none⟩=some s∧n.In w B s)∧Nd.RowIn w B b (o+3) l
end
def Ls (w:World) (B:Nat) (s:Value) (l:List Nd):Prop :=
 ∃ p c,s=.slice p l.length c∧l.length≤c∧(l=[]∨∃ b o,p=some ⟨b,o,none⟩∧b < B∧Nd.RowIn w B b o l)
theorem Nd.In_iff {w:World} {B:Nat} {s:Value} {n:Nd}:n.In w B s↔Ls w B s n.l:=by
 cases n;simp only [Nd.In,Ls,Nd.l]
mutual
theorem Nd.In.stay {w w':World} {B:Nat} (hs:∀ b,b < B→w'.heap[b]?=w.heap[b]?):∀ (n:Nd) (s:Value),n.In w B s→n.In w' B s
 | .mk _ _ l,s,h=>by
  simp only [Nd.In] at h ⊢
  obtain ⟨p,c,rfl,hc,h⟩:=h
  refine ⟨p,c,rfl,hc,?_⟩
  rcases h with h | ⟨b,o,rfl,hb,hr⟩
  ·exact .inl h
  ·exact .inr ⟨b,o,rfl,hb,Nd.RowIn.stay hs b hb l o hr⟩
theorem Nd.RowIn.stay {w w':World} {B:Nat} (hs:∀ b,b < B→w'.heap[b]?=w.heap[b]?) (b:Nat) (hb:b < B):∀ (l:List Nd) (o:Nat),Nd.RowIn w B b o l→Nd.RowIn w' B b o l
 | [],_,_=>by simp [Nd.RowIn]
 | n::l,o,h=>by
  simp only [Nd.RowIn] at h ⊢
  obtain ⟨⟨h1,h2,s,h3,h4⟩,h5⟩:=h
  have hc:∀ i,w'.cell? ⟨b,i,none⟩=w.cell? ⟨b,i,none⟩:=fun i=>World.cell?_of_block (hs b hb)
  exact ⟨⟨(hc _).trans h1,(hc _).trans h2,s,(hc _).trans h3,Nd.In.stay hs n s h4⟩,Nd.RowIn.stay hs b hb l (o+3) h5⟩
end
theorem Ls.stay {w w':World} {B:Nat} {s:Value} {l:List Nd} (h:Ls w B s l) (hs:∀ b,b < B→w'.heap[b]?=w.heap[b]?):Ls w' B s l:=by
 have:=Nd.In.stay hs (.mk ⟨#[]⟩ ⟨#[]⟩ l) s (Nd.In_iff.2 h)
 exact Nd.In_iff.1 this
theorem Nd.RowIn.get {w:World} {B b:Nat}:∀ (l:List Nd) (o i:Nat) (n:Nd),Nd.RowIn w B b o l→l[i]?=some n →
 w.cell? ⟨b,o+i*3,none⟩=some (.string n.k)∧w.cell? ⟨b,o+i*3+1,none⟩=some (.string n.t)∧∃ s,w.cell? ⟨b,o+i*3+2,none⟩=some s∧n.In w B s
 | [],_,_,_,_,h=>by simp at h
 | n::l,o,0,m,hr,h=>by
  simp only [List.getElem?_cons_zero,Option.some.injEq] at h
  subst h
  simp only [Nd.RowIn] at hr
  exact hr.1
 | n::l,o,i+1,m,hr,h=>by
  simp only [List.getElem?_cons_succ] at h
  simp only [Nd.RowIn] at hr
  have:=Nd.RowIn.get l (o+3) i m hr.2 h
  rw [show o+3+i*3=o+(i+1)*3 by omega] at this
  exact this
theorem Nd.In.form {w:World} {B:Nat} {s:Value} {n:Nd} (h:n.In w B s):∃ q c,s=.slice q n.l.length c∧n.l.length≤c:=by
 obtain ⟨q,c,h1,h2,_⟩:=Nd.In_iff.1 h
 exact ⟨q,c,h1,h2⟩
theorem Ls.get {w:World} {B:Nat} {s:Value} {l:List Nd} (h:Ls w B s l) {i:Nat} {n:Nd} (hn:l[i]?=some n) :
 ∃ b o c q d,s=.slice (some ⟨b,o,none⟩) l.length c∧l.length≤c∧b < B∧i < l.length∧w.cell? ⟨b,o+i*3,none⟩=some (.string n.k)∧w.cell? ⟨b,o+i*3+1,none⟩=some (.string n.t) ∧
  w.cell? ⟨b,o+i*3+2,none⟩=some (.slice q n.l.length d)∧n.In w B (.slice q n.l.length d)∧b < w.heap.size:=by
 have hi:i < l.length:=(List.getElem?_eq_some_iff.1 hn).1
 obtain ⟨p,c,rfl,hc,h⟩:=h
 rcases h with rfl | ⟨b,o,rfl,hb,hr⟩
 ·simp at hn
 ·obtain ⟨h1,h2,u,h3,h4⟩:=Nd.RowIn.get l o i n hr hn
  obtain ⟨q,d,rfl,_⟩:=h4.form
  exact ⟨b,o,c,q,d,rfl,hc,hb,hi,h1,h2,h3,h4,World.block_lt_of_cell? w _ h1⟩
section
variable (w:World) (F:Nat→Prop)
def IdAt (p:Int) (s:ByteArray) (u:Value):Prop:=Blk w F u 107 #[.int .i64 p,.string s,.pointer none]
def LitAt (p:Int) (s:ByteArray) (u:Value):Prop:=Blk w F u 131 #[.int .i64 p,.int .i64 (p+s.size),.int .i64 9,.string s]
def NmsAt:List Nm→List Value→Prop
 | [],us=>us=[]
 | n::l,us=>∃ u us',us=u::us'∧IdAt w F n.p n.s u∧NmsAt l us'
def Ty.ty:Ty→TypeId
 | .name ..=>70
 | .lit ..=>112
 | .sel ..=>135
 | .star ..=>138
 | .sl .. | .arr ..=>141
 | .map ..=>144
 | .ch .. | .chs .. | .chr ..=>147
 | .sig ..=>73
 | .struct ..=>152
 | .iface ..=>155
mutual
def Ty.At:Ty→Value→Prop
 | .name p s,u=>IdAt w F p s u
 | .lit p s,u=>LitAt w F p s u
 | .sel x _ p s,u=>∃ v i,Blk w F u 137 #[.iface x.ty v,i]∧x.At v∧IdAt w F p s i
 | .star p x,u=>∃ v,Blk w F u 140 #[.int .i64 p,.iface x.ty v]∧x.At v
 | .sl p _ x,u=>∃ v,Blk w F u 143 #[.int .i64 p,.nilIface,.iface x.ty v]∧x.At v
 | .arr p l _ x,u=>∃ v v',Blk w F u 143 #[.int .i64 p,.iface l.ty v,.iface x.ty v']∧l.At v∧x.At v'
 | .map p _ k _ x,u=>∃ v v',Blk w F u 146 #[.int .i64 p,.iface k.ty v,.iface x.ty v']∧k.At v∧x.At v'
 | .ch p x,u=>∃ a v,Blk w F u 151 #[.int .i64 p,.int .i64 a,.int .i64 3,.iface x.ty v]∧x.At v
 | .chs p _ x,u=>∃ a v,Blk w F u 151 #[.int .i64 p,.int .i64 a,.int .i64 1,.iface x.ty v]∧x.At v
 | .chr p _ x,u=>∃ a v,Blk w F u 151 #[.int .i64 p,.int .i64 a,.int .i64 2,.iface x.ty v]∧x.At v
 | .sig p o ps c b o' rs c',u=>∃ v v',Blk w F u 109 #[.int .i64 p,.pointer none,v,v'] ∧
  (∃ s us,Blk w F v 102 #[.int .i64 o,s,.int .i64 c]∧Row w F 92 s us∧ps.At us) ∧
  (if b then ∃ s us,Blk w F v' 102 #[.int .i64 o',s,.int .i64 c']∧Row w F 92 s us∧rs.At us else v'=.pointer none)
 | .struct p o f c,u=>∃ v,Blk w F u 154 #[.int .i64 p,v,.bool false] ∧
  ∃ s us,Blk w F v 102 #[.int .i64 o,s,.int .i64 c]∧Row w F 92 s us∧f.At us
 | .iface p o f c,u=>∃ v,Blk w F u 157 #[.int .i64 p,v,.bool false] ∧
  ∃ s us,Blk w F v 102 #[.int .i64 o,s,.int .i64 c]∧Row w F 92 s us∧f.At us
def Fs.At:Fs→List Value→Prop
 | .nil,us=>us=[]
 | .cons _ ns t tp tag l,us=>∃ u us' s vs v g,us=u::us'∧Blk w F u 168 #[.pointer none,s,.iface t.ty v,g,.pointer none] ∧
  Row w F 70 s vs∧NmsAt w F ns vs∧t.At v∧(if tag.size=0 then g=.pointer none else LitAt w F tp tag g)∧l.At us'
end
def FlAt (o:Int) (f:Fs) (c:Int) (v:Value):Prop:=∃ s us,Blk w F v 102 #[.int .i64 o,s,.int .i64 c]∧Row w F 92 s us∧f.At w F us
end
section
variable {w w':World} {F F':Nat→Prop}
theorem NmsAt.stay (hs:Stay F F' w w'):∀ (l:List Nm) (us:List Value),NmsAt w F l us→NmsAt w' F' l us
 | [],_,h=>h
 | _::l,_,h=>by
  obtain ⟨u,us',rfl,h1,h2⟩:=h
  exact ⟨u,us',rfl,h1.stay hs,NmsAt.stay hs l us' h2⟩
mutual
theorem Ty.At.stay (hs:Stay F F' w w'):∀ (t:Ty) (u:Value),t.At w F u→t.At w' F' u
 | .name p s,u,h=>by simp only [Ty.At] at h ⊢;exact Blk.stay h hs
 | .lit p s,u,h=>by simp only [Ty.At] at h ⊢;exact Blk.stay h hs
 | .sel x _ p s,u,h=>by
  simp only [Ty.At] at h ⊢
  obtain ⟨v,i,h1,h2,h3⟩:=h
  exact ⟨v,i,h1.stay hs,Ty.At.stay hs x v h2,Blk.stay h3 hs⟩
 | .star p x,u,h=>by
  simp only [Ty.At] at h ⊢
  obtain ⟨v,h1,h2⟩:=h
  exact ⟨v,h1.stay hs,Ty.At.stay hs x v h2⟩
 | .sl p _ x,u,h=>by
  simp only [Ty.At] at h ⊢
  obtain ⟨v,h1,h2⟩:=h
  exact ⟨v,h1.stay hs,Ty.At.stay hs x v h2⟩
 | .arr p l _ x,u,h=>by
  simp only [Ty.At] at h ⊢
  obtain ⟨v,v',h1,h2,h3⟩:=h
  exact ⟨v,v',h1.stay hs,Ty.At.stay hs l v h2,Ty.At.stay hs x v' h3⟩
 | .map p _ k _ x,u,h=>by
  simp only [Ty.At] at h ⊢
  obtain ⟨v,v',h1,h2,h3⟩:=h
  exact ⟨v,v',h1.stay hs,Ty.At.stay hs k v h2,Ty.At.stay hs x v' h3⟩
 | .ch p x,u,h=>by
  simp only [Ty.At] at h ⊢
  obtain ⟨a,v,h1,h2⟩:=h
  exact ⟨a,v,h1.stay hs,Ty.At.stay hs x v h2⟩
 | .chs p _ x,u,h=>by
  simp only [Ty.At] at h ⊢
  obtain ⟨a,v,h1,h2⟩:=h
  exact ⟨a,v,h1.stay hs,Ty.At.stay hs x v h2⟩
 | .chr p _ x,u,h=>by
  simp only [Ty.At] at h ⊢
  obtain ⟨a,v,h1,h2⟩:=h
  exact ⟨a,v,h1.stay hs,Ty.At.stay hs x v h2⟩
 | .sig p o ps c b o' rs c',u,h=>by
  simp only [Ty.At] at h ⊢
  obtain ⟨v,v',h1,⟨s,us,h2,h3,h4⟩,h5⟩:=h
  refine ⟨v,v',h1.stay hs,⟨s,us,h2.stay hs,h3.stay hs,Fs.At.stay hs ps us h4⟩,?_⟩
  cases b with
  | false=>simpa using h5
  | true =>
   simp only [if_true] at h5 ⊢
   obtain ⟨s,us,h2,h3,h4⟩:=h5
   exact ⟨s,us,h2.stay hs,h3.stay hs,Fs.At.stay hs rs us h4⟩
 | .struct p o f c,u,h=>by
  simp only [Ty.At] at h ⊢
  obtain ⟨v,h1,s,us,h2,h3,h4⟩:=h
  exact ⟨v,h1.stay hs,s,us,h2.stay hs,h3.stay hs,Fs.At.stay hs f us h4⟩
 | .iface p o f c,u,h=>by
  simp only [Ty.At] at h ⊢
  obtain ⟨v,h1,s,us,h2,h3,h4⟩:=h
  exact ⟨v,h1.stay hs,s,us,h2.stay hs,h3.stay hs,Fs.At.stay hs f us h4⟩
theorem Fs.At.stay (hs:Stay F F' w w'):∀ (f:Fs) (us:List Value),f.At w F us→f.At w' F' us
 | .nil,us,h=>by simp only [Fs.At] at h ⊢;exact h
 | .cons _ ns t tp tag l,us,h=>by
  simp only [Fs.At] at h ⊢
  obtain ⟨u,us',s,vs,v,g,rfl,h1,h2,h3,h4,h5,h6⟩:=h
  refine ⟨u,us',s,vs,v,g,rfl,h1.stay hs,h2.stay hs,NmsAt.stay hs ns vs h3,Ty.At.stay hs t v h4,?_,Fs.At.stay hs l us' h6⟩
  split at h5
  ·rename_i hz;rw [if_pos hz];exact h5
  ·rename_i hz;rw [if_neg hz];exact Blk.stay h5 hs
end
theorem FlAt.stay {o:Int} {f:Fs} {c:Int} {v:Value} (h:FlAt w F o f c v) (hs:Stay F F' w w'):FlAt w' F' o f c v:=by
 obtain ⟨s,us,h1,h2,h3⟩:=h
 exact ⟨s,us,h1.stay hs,h2.stay hs,Fs.At.stay hs f us h3⟩
end
end
section
open Go Go.RowKit
def Ints (w:World) (B:Nat) (s:Value) (l:List Int):Prop :=
 ∃ p c,s=.slice p l.length c∧l.length≤c∧(l=[]∨∃ b o,p=some ⟨b,o,none⟩∧b < B∧∀ i q,l[i]?=some q→w.cell? ⟨b,o+i,none⟩=some (.int .i64 q))
theorem Ints.stay {w w':World} {B:Nat} {s:Value} {l:List Int} (h:Ints w B s l) (hs:∀ b,b < B→w'.heap[b]?=w.heap[b]?):Ints w' B s l:=by
 obtain ⟨p,c,rfl,hc,h⟩:=h
 refine ⟨p,c,rfl,hc,?_⟩
 rcases h with h | ⟨b,o,rfl,hb,hr⟩
 ·exact .inl h
 ·exact .inr ⟨b,o,rfl,hb,fun i q hi=>(World.cell?_of_block (w:=w) (hs b hb)).trans (hr i q hi)⟩
def Bld (w:World) (bb:Nat) (l:List Int):Prop:=∃ s,w.heap[bb]?=some (.cells #[s] 65 (0,0))∧Ints w bb s l
abbrev On (bb:Nat):Nat→Prop:=fun k=>k=bb
theorem Bld.stay {w w':World} {bb:Nat} {l:List Int} (h:Bld w bb l) (hs:∀ b,b≤bb→w'.heap[b]?=w.heap[b]?):Bld w' bb l:=by
 obtain ⟨s,hb,hi⟩:=h
 exact ⟨s,(hs bb (Nat.le_refl _)).trans hb,hi.stay fun b h=>hs b (Nat.le_of_lt h)⟩
theorem next_c (w:World) (bb:Nat) (p:Int) (l:List Int) (hB:Bld w bb (p::l)) :
 Calls Tryz.prog 39 #[.pointer (some ⟨bb,0,none⟩)] w fun e w'=>e=.returned (.int .i64 p)∧Bld w' bb l∧Kp (On bb) w w':=by
 obtain ⟨s,hb,q,c,rfl,hc,h⟩:=hB
 obtain ⟨b,o,rfl,hlt,hr⟩:=h.resolve_left (by simp)
 have c0:=cO hb 0 _ rfl
 have c1:w.cell? ⟨b,o,none⟩=some (.int .i64 p):=hr 0 p rfl
 simp only [lc_] at hc c0 hb
 have f0:=fO hb 0
 have HR:Hid (∀ i q,(p::l)[i]?=some q→w.cell? ⟨b,o+i,none⟩=some (.int .i64 q)):=hr
 clear h hr
 go_enter Tryz.func39,Tryz.ntmps39
 go_wp2_with fail
 all_goals
  go_ret
  refine ⟨rfl,⟨_,setOf hb 0 _,Ints.stay ⟨_,_,rfl,by omega,?_⟩ (w:=w) fun i hi=>Below.heap_setCell _ _ _ _ (by simp;omega)⟩,(Kp.refl (On bb) _).setCell (p:=⟨bb,0,none⟩) (fun _=>rfl) _⟩
 ·exact .inl (List.eq_nil_of_length_eq_zero (by omega))
 ·refine .inr ⟨b,o+1,rfl,hlt,fun i q hi=>?_⟩
  rw [show o+1+i=o+(i+1) by omega]
  exact HR.out (i+1) q (by simpa using hi)
end
section
open Go Go.RowKit
section
variable {P:Program} {w:World}
theorem Row.run_append {F:Nat→Prop} {t ty T:TypeId} {i:TypeInfo} {z:Value} (ht:P.underlying t=some (.slice T)) (hi:P.info? T=some i) (hz:i.zero=some z) (hs1:i.size=1) (hby:i.bytes≤16) (hzs:z.cells.size=1)
 {v:Value} {us:List Value} (hrow:Row w F T v us) {bx c:Nat} {u:Value} (hu:w.cell? ⟨bx,0,none⟩=some u) (h1:u.oneCell'=true) (hn:us.length≤1048576) {H:Nat} (hH:w.heap.size=H) :
 ∃ g cap w',(Builtin.append_ #[t,t] ty #[v,.slice (some ⟨bx,0,none⟩) 1 c]).run P w=.ok (.slice (some ⟨g,0,none⟩) (us.length+1) cap) w' ∧
  Row w' (fun b=>b=g) T (.slice (some ⟨g,0,none⟩) (us.length+1) cap) (us++[u])∧w.grownBy w' v.ownBlock∧(v.ownBlock=some g∨g=H)∧g < w'.heap.size:=by
 obtain ⟨g,cap,w',hr,h2,h3,h4,h5⟩:=run_append_lies (P:=P) w t ty 0 T i z 1 i.bytes ht hi hz hs1 rfl hzs (by omega) v us.length us hrow.owns ⟨bx,0,none⟩ 1 c [u] rfl
  (fun j x hx=>by
    cases j with
    | zero=>simp only [List.getElem?_cons_zero,Option.some.injEq] at hx;subst hx;exact hu
    | succ j=>simp at hx)
  (fun x hx=>by simp only [List.mem_singleton] at hx;subst hx;exact h1) (by omega) (by unfold maxLen;omega)
  (by have:=Nat.mul_le_mul (Nat.add_le_add_right hn 1) hby;omega) (Nat.zero_le _) H hH
 refine ⟨g,cap,w',hr,Row.of_owns (n:=us.length+1) h2 (fun k hk=>?_),h3,h4,h5⟩
 simpa [Value.ownBlock,eq_comm] using hk
theorem wp_append_row {F:Nat→Prop} {o:Oper} {a:Act} {K:Act→World→Prop} {Q:Exit→Act→World→Prop} (s x:Operand) (t:TypeId)
 (ho:o.op=.call { callee:=.builtin .append,args:=#[s,x],argTypes:=#[t,t] })
 {T:TypeId} {i:TypeInfo} {z:Value} (ht:P.underlying t=some (.slice T)) (hi:P.info? T=some i) (hz:i.zero=some z) (hs1:i.size=1) (hby:i.bytes≤16) (hzs:z.cells.size=1)
 {v:Value} {us:List Value} (hs:a.eval s=v) (hrow:Row w F T v us) {bx c:Nat} {u:Value} (hx:a.eval x=.slice (some ⟨bx,0,none⟩) 1 c) (hu:w.cell? ⟨bx,0,none⟩=some u) (h1:u.oneCell'=true) (hn:us.length≤1048576) (H:Nat) (hH:w.heap.size=H)
 (h:∀ g cap w',Row w' (fun b=>b=g) T (.slice (some ⟨g,0,none⟩) (us.length+1) cap) (us++[u])→w.grownBy w' v.ownBlock→(v.ownBlock=some g∨g=H)→g < w'.heap.size→K (a.put o.dst (.slice (some ⟨g,0,none⟩) (us.length+1) cap)) w'):o.wp P a w K Q:=by
 obtain ⟨g,cap,w',hr,h2,h3,h4,h5⟩:=Row.run_append (P:=P) (ty:=o.type) (c:=c) ht hi hz hs1 hby hzs hrow hu h1 hn hH
 unfold Oper.wp execOp
 simp only [ho,resolve,invoke,builtin,Sem.run_bind,Sem.run_pure,Result.andThen_ok,List.map_toArray,List.map_cons,List.map_nil,hs,hx,hr]
 exact h g cap w' h2 h3 h4 h5
theorem wpList_append_row {F:Nat→Prop} {ops:Array Oper} {rest:List Oper} {o:Oper} {a:Act} {Q:Exit→Act→World→Prop} (hgd:o.guard=none) (s x:Operand) (t:TypeId)
 (ho:o.op=.call { callee:=.builtin .append,args:=#[s,x],argTypes:=#[t,t] })
 {T:TypeId} {i:TypeInfo} {z:Value} (ht:P.underlying t=some (.slice T)) (hi:P.info? T=some i) (hz:i.zero=some z) (hs1:i.size=1) (hby:i.bytes≤16) (hzs:z.cells.size=1)
 {v:Value} {us:List Value} (hs:a.eval s=v) (hrow:Row w F T v us) {bx c:Nat} {u:Value} (hx:a.eval x=.slice (some ⟨bx,0,none⟩) 1 c) (hu:w.cell? ⟨bx,0,none⟩=some u) (h1:u.oneCell'=true) (hn:us.length≤1048576) (H:Nat) (hH:w.heap.size=H)
 (h:∀ g cap w',Row w' (fun b=>b=g) T (.slice (some ⟨g,0,none⟩) (us.length+1) cap) (us++[u])→w.grownBy w' v.ownBlock→(v.ownBlock=some g∨g=H)→g < w'.heap.size→wpList P ops Q rest (a.put o.dst (.slice (some ⟨g,0,none⟩) (us.length+1) cap)) w'):wpList P ops Q (o::rest) a w :=
 wpList_plain hgd fun _ hK=>wp_append_row s x t ho ht hi hz hs1 hby hzs hs hrow hx hu h1 hn H hH fun g cap w' h2 h3 h4 h5=>hK _ _ (h g cap w' h2 h3 h4 h5)
theorem step_append_row {F:Nat→Prop} {ops:Array Oper} {o:Oper} {a:Act} {K:Act→World→Prop} {Q:Exit→Act→World→Prop} {E:Prop} (hgd:o.guard=none) (s x:Operand) (t:TypeId)
 (ho:o.op=.call { callee:=.builtin .append,args:=#[s,x],argTypes:=#[t,t] })
 {T:TypeId} {i:TypeInfo} {z:Value} (ht:P.underlying t=some (.slice T)) (hi:P.info? T=some i) (hz:i.zero=some z) (hs1:i.size=1) (hby:i.bytes≤16) (hzs:z.cells.size=1)
 {v:Value} {us:List Value} (hs:a.eval s=v) (hrow:Row w F T v us) {bx c:Nat} {u:Value} (hx:a.eval x=.slice (some ⟨bx,0,none⟩) 1 c) (hu:w.cell? ⟨bx,0,none⟩=some u) (h1:u.oneCell'=true) (hn:us.length≤1048576) (H:Nat) (hH:w.heap.size=H)
 (h:∀ g cap w',Row w' (fun b=>b=g) T (.slice (some ⟨g,0,none⟩) (us.length+1) cap) (us++[u])→w.grownBy w' v.ownBlock→(v.ownBlock=some g∨g=H)→g < w'.heap.size→K (a.put o.dst (.slice (some ⟨g,0,none⟩) (us.length+1) cap)) w') :
 if Region.wanted o (yielded ops a.tmps)=true then Oper.wp P o a w K Q else E:=by
 have hw:Region.wanted o (yielded ops a.tmps)=true:=by simp [Region.wanted,hgd]
 rw [if_pos hw]
 exact wp_append_row s x t ho ht hi hz hs1 hby hzs hs hrow hx hu h1 hn H hH h
end
abbrev Ex (lo:Nat) (v:Value):Nat→Prop:=fun b=>lo≤b∧v.ownBlock≠some b
abbrev Fr (lo:Nat):Nat→Prop:=fun b=>lo≤b
theorem Stay.grown {w w':World} {lo:Nat} {v:Value} {g n cap:Nat} (hg:w.grownBy w' v.ownBlock) (hl:v.ownBlock=some g∨g=w.heap.size):Stay (Ex lo v) (Ex lo (.slice (some ⟨g,0,none⟩) n cap)) w w':=by
 intro b hb hF
 refine ⟨hg.block b hb (fun e=>hF.2 e.symm),hF.1,fun e=>?_⟩
 simp only [Value.ownBlock,Option.some.injEq] at e
 subst e
 rcases hl with h | h
 ·exact hF.2 h
 ·omega
theorem Stay.of_kp {S F F':Nat→Prop} {w w':World} (h:Kp S w w') (hs:∀ b,b < w.heap.size→F b→¬ S b∧F' b):Stay F F' w w' :=
 fun b hb hF=>⟨h.block b hb (hs b hb hF).1,(hs b hb hF).2⟩
end
section
open Go Go.RowKit
inductive It where
 | path (p:Int) (s:ByteArray)
 | pathn (q:Int) (m:ByteArray) (p:Int) (s:ByteArray)
 | value (ns:List Nm) (t:Option Ty) (vs:List (Int × Ty))
 | type (p:Int) (s:ByteArray) (t:Ty)
 | alias (p:Int) (s:ByteArray) (q:Int) (t:Ty)
inductive Wd where
 | imp | con | var | typ
def Wd.kind:Wd→ByteArray
 | .imp=>⟨#[100,101,99,108,97,114,101,32,105,109,112,111,114,116]⟩
 | .con=>⟨#[100,101,99,108,97,114,101,32,99,111,110,115,116]⟩
 | .var=>⟨#[100,101,99,108,97,114,101,32,118,97,114]⟩
 | .typ=>⟨#[100,101,99,108,97,114,101,32,116,121,112,101]⟩
def Wd.word:Wd→ByteArray
 | .imp=>⟨#[105,109,112,111,114,116]⟩
 | .con=>⟨#[99,111,110,115,116]⟩
 | .var=>⟨#[118,97,114]⟩
 | .typ=>⟨#[116,121,112,101]⟩
def Wd.tok:Wd→Nat
 | .imp=>75
 | .con=>64
 | .var=>85
 | .typ=>84
inductive Dc where
 | gen (wd:Wd) (p:Int) (it:It)
 | group (wd:Wd) (p o:Int) (its:List It) (c:Int)
 | func (p:Int) (rv:Option (Int × Fs × Int)) (np:Int) (s:ByteArray) (o:Int) (ps:Fs) (c:Int) (b:Bool) (o':Int) (rs:Fs) (c':Int) (bd:Option (Int × Int))
def ls (l:List Nd):Nd:=.mk ⟨#[108,105,115,116]⟩ ⟨#[]⟩ l
def tyOpt:Option Ty→Nd
 | none=>.miss
 | some t=>t.nd
def It.nd:It→Nd
 | .path _ s=>.mk ⟨#[112,97,116,104]⟩ s [.miss]
 | .pathn _ m _ s=>.mk ⟨#[112,97,116,104]⟩ s [.name m]
 | .value ns t vs=>.mk ⟨#[118,97,108,117,101]⟩ ⟨#[]⟩ [ls (ns.map Nm.nd),tyOpt t,ls (vs.map fun v=>v.2.nd)]
 | .type _ s t=>.mk ⟨#[116,121,112,101]⟩ s [t.nd]
 | .alias _ s _ t=>.mk ⟨#[97,108,105,97,115]⟩ s [t.nd]
def rvNd:Option (Int × Fs × Int)→Nd
 | none=>.miss
 | some (_,f,_)=>fl f.nds
def bdNd:Option (Int × Int)→Nd
 | none=>.miss
 | some _=>.mk ⟨#[98,111,100,121]⟩ ⟨#[]⟩ []
def Dc.nd:Dc→Nd
 | .gen wd _ it=>.mk wd.kind ⟨#[]⟩ [it.nd]
 | .group wd _ _ its _=>.mk wd.kind ⟨#[103,114,111,117,112]⟩ (its.map It.nd)
 | .func p rv _ s o ps c b o' rs c' bd=>.mk ⟨#[102,117,110,99]⟩ s [rvNd rv,(Ty.sig p o ps c b o' rs c').nd,bdNd bd]
def vsToks:List (Int × Ty)→List Int
 | []=>[]
 | v::l=>v.1::(v.2.toks false++vsToks l)
def tyToks:Option Ty→List Int
 | none=>[]
 | some t=>t.toks false
def It.toks:It→List Int
 | .path p _=>[p]
 | .pathn q _ p _=>[q,p]
 | .value ns t vs=>nmToks true ns++(tyToks t++vsToks vs)
 | .type p _ t=>p::t.toks false
 | .alias p _ q t=>p::q::t.toks false
def itsToks:List It→List Int
 | []=>[]
 | it::l=>it.toks++itsToks l
def rvToks:Option (Int × Fs × Int)→List Int
 | none=>[]
 | some (o,f,c)=>o::(f.toks true true false++[c])
def bdToks:Option (Int × Int)→List Int
 | none=>[]
 | some (o,c)=>[o,c]
def Dc.toks:Dc→List Int
 | .gen _ p it=>p::it.toks
 | .group _ p o its c=>p::o::(itsToks its++[c])
 | .func p rv np _ o ps c b o' rs c' bd=>p::(rvToks rv++np::((Ty.sig p o ps c b o' rs c').toks true++bdToks bd))
def It.kind:It→ByteArray
 | .path .. | .pathn ..=>⟨#[112,97,116,104]⟩
 | .value ..=>⟨#[118,97,108,117,101]⟩
 | .type ..=>⟨#[116,121,112,101]⟩
 | .alias ..=>⟨#[97,108,105,97,115]⟩
def nmsFin:List Nm→Int
 | []=>0
 | [n]=>n.p+n.s.size
 | _::l=>nmsFin l
def nmsPos:List Nm→Int
 | []=>0
 | n::_=>n.p
def vsFin (d:Int):List (Int × Ty)→Int
 | []=>d
 | v::l=>vsFin v.2.fin l
def tyFin (d:Int):Option Ty→Int
 | none=>d
 | some t=>t.fin
def It.pos:It→Int
 | .path p _=>p
 | .pathn q _ _ _=>q
 | .value ns _ _=>nmsPos ns
 | .type p _ _=>p
 | .alias p _ _ _=>p
def It.fin:It→Int
 | .path p s=>p+s.size
 | .pathn _ _ p s=>p+s.size
 | .value ns t vs=>vsFin (tyFin (nmsFin ns) t) vs
 | .type _ _ t=>t.fin
 | .alias _ _ _ t=>t.fin
def tyPre:Option Ty→List Pl
 | none=>[]
 | some t=>t.pre
def vsPre:List (Int × Ty)→List Pl
 | []=>[]
 | v::l=>v.2.pre++vsPre l
def It.pre:It→List Pl
 | .path p s=>[⟨⟨#[112,97,116,104]⟩,p,p+s.size⟩,⟨⟨#[108,105,116,101,114,97,108]⟩,p,p+s.size⟩]
 | .pathn q m p s=>[⟨⟨#[112,97,116,104]⟩,q,p+s.size⟩,⟨⟨#[110,97,109,101]⟩,q,q+m.size⟩,⟨⟨#[108,105,116,101,114,97,108]⟩,p,p+s.size⟩]
 | .value ns t vs=>⟨⟨#[118,97,108,117,101]⟩,nmsPos ns,vsFin (tyFin (nmsFin ns) t) vs⟩::(ns.map Nm.pl++(tyPre t++vsPre vs))
 | .type p s t=>⟨⟨#[116,121,112,101]⟩,p,t.fin⟩::⟨⟨#[110,97,109,101]⟩,p,p+s.size⟩::t.pre
 | .alias p s _ t=>⟨⟨#[97,108,105,97,115]⟩,p,t.fin⟩::⟨⟨#[110,97,109,101]⟩,p,p+s.size⟩::t.pre
def itsPre:List It→List Pl
 | []=>[]
 | it::l=>it.pre++itsPre l
def Dc.pos:Dc→Int
 | .gen _ p _=>p
 | .group _ p _ _ _=>p
 | .func p _ _ _ _ _ _ _ _ _ _ _=>p
def bdFin (d:Int):Option (Int × Int)→Int
 | none=>d
 | some (_,c)=>c+1
def Dc.fin:Dc→Int
 | .gen _ _ it=>it.fin
 | .group _ _ _ _ c=>c+1
 | .func p _ _ _ o ps c b o' rs c' bd=>bdFin (Ty.sig p o ps c b o' rs c').fin bd
def Dc.kind:Dc→ByteArray
 | .gen wd _ _=>wd.kind
 | .group wd _ _ _ _=>wd.kind
 | .func ..=>⟨#[102,117,110,99]⟩
def rvPre:Option (Int × Fs × Int)→List Pl
 | none=>[]
 | some (o,f,c)=>⟨⟨#[102,105,101,108,100,115]⟩,o,c+1⟩::f.pre
def bdPre:Option (Int × Int)→List Pl
 | none=>[]
 | some (o,c)=>[⟨⟨#[98,111,100,121]⟩,o,c+1⟩]
def Dc.pre:Dc→List Pl
 | .gen wd p it=>⟨wd.kind,p,it.fin⟩::it.pre
 | .group wd p _ its c=>⟨wd.kind,p,c+1⟩::itsPre its
 | .func p rv np s o ps c b o' rs c' bd=>⟨⟨#[102,117,110,99]⟩,p,bdFin (Ty.sig p o ps c b o' rs c').fin bd⟩::(rvPre rv++(⟨⟨#[110,97,109,101]⟩,np,np+s.size⟩::((Ty.sig p o ps c b o' rs c').pre++bdPre bd)))
def It.ok:It→Prop
 | .path p s=>Pk p∧s.size≤1048576
 | .pathn q m p s=>Pk q∧m.size≤1048576∧Pk p∧s.size≤1048576
 | .value ns t vs=>ns≠[]∧(∀ n∈ns,n.ok)∧(∀ x,t=some x→x.ok false)∧∀ v∈vs,Pk v.1∧v.2.ok false
 | .type p s t=>Pk p∧s.size≤1048576∧t.ok false
 | .alias p s q t=>Pk p∧s.size≤1048576∧Pk q∧t.ok false
def Dc.ok:Dc→Prop
 | .gen _ p it=>Pk p∧it.ok
 | .group _ p o its c=>Pk p∧Pk o∧(∀ it∈its,it.ok)∧Pk c
 | .func p rv np s o ps c b o' rs c' bd=>Pk p∧(∀ o f c,rv=some (o,f,c)→Pk o∧f.ok false∧Pk c)∧Pk np∧s.size≤1048576∧(Ty.sig p o ps c b o' rs c').ok false∧∀ o c,bd=some (o,c)→Pk o∧Pk c
def LAt {α:Type} (At:World→(Nat→Prop)→α→Value→Prop) (w:World) (F:Nat→Prop):List α→List Value→Prop
 | [],us=>us=[]
 | d::l,us=>∃ u us',us=u::us'∧At w F d u∧LAt At w F l us'
def VlAt (w:World) (F:Nat→Prop) (v:Int × Ty) (u:Value):Prop:=∃ x,u=.iface v.2.ty x∧v.2.At w F x
def TyAt (w:World) (F:Nat→Prop):Option Ty→Value→Prop
 | none,u=>u=.nilIface
 | some t,u=>∃ x,u=.iface t.ty x∧t.At w F x
def It.ty:It→TypeId
 | .path .. | .pathn ..=>111
 | .value ..=>116
 | .type .. | .alias ..=>123
def It.At (w:World) (F:Nat→Prop):It→Value→Prop
 | .path p s,u=>∃ v,Blk w F u 114 #[.pointer none,.pointer none,v,.pointer none,.int .i64 0]∧LitAt w F p s v
 | .pathn q m p s,u=>∃ i v,Blk w F u 114 #[.pointer none,i,v,.pointer none,.int .i64 0]∧IdAt w F q m i∧LitAt w F p s v
 | .value ns t vs,u=>∃ s us y z zs,Blk w F u 121 #[.pointer none,s,y,z,.pointer none]∧Row w F 70 s us∧NmsAt w F ns us∧TyAt w F t y∧Row w F 94 z zs∧LAt VlAt w F vs zs
 | .type p s t,u=>∃ i x,Blk w F u 125 #[.pointer none,i,.pointer none,.int .i64 0,.iface t.ty x,.pointer none]∧IdAt w F p s i∧t.At w F x
 | .alias p s q t,u=>∃ i x,Blk w F u 125 #[.pointer none,i,.pointer none,.int .i64 q,.iface t.ty x,.pointer none]∧IdAt w F p s i∧t.At w F x
def ItAt (w:World) (F:Nat→Prop) (it:It) (u:Value):Prop:=∃ x,u=.iface it.ty x∧it.At w F x
def RvAt (w:World) (F:Nat→Prop):Option (Int × Fs × Int)→Value→Prop
 | none,u=>u=.pointer none
 | some (o,f,c),u=>FlAt w F o f c u
def BdAt (w:World) (F:Nat→Prop):Option (Int × Int)→Value→Prop
 | none,u=>u=.pointer none
 | some (o,c),u=>Blk w F u 80 #[.int .i64 o,.slice none 0 0,.int .i64 c]
def Dc.ty:Dc→TypeId
 | .gen .. | .group ..=>81
 | .func ..=>66
def Dc.At (w:World) (F:Nat→Prop):Dc→Value→Prop
 | .gen wd p it,u=>∃ z x,Blk w F u 85 #[.pointer none,.int .i64 p,.int .i64 wd.tok,.int .i64 0,z,.int .i64 0]∧Row w F 88 z [x]∧ItAt w F it x
 | .group wd p o its c,u=>∃ z zs,Blk w F u 85 #[.pointer none,.int .i64 p,.int .i64 wd.tok,.int .i64 o,z,.int .i64 c]∧Row w F 88 z zs∧LAt ItAt w F its zs
 | .func p rv np s o ps c b o' rs c' bd,u=>∃ r i y d,Blk w F u 76 #[.pointer none,r,i,y,d]∧RvAt w F rv r∧IdAt w F np s i∧(Ty.sig p o ps c b o' rs c').At w F y∧BdAt w F bd d
section
variable {w w':World} {F F':Nat→Prop}
theorem LAt.stay {α:Type} {At:World→(Nat→Prop)→α→Value→Prop} (hA:∀ (d:α) (u:Value),At w F d u→At w' F' d u):∀ (l:List α) (us:List Value),LAt At w F l us→LAt At w' F' l us
 | [],_,h=>h
 | d::l,_,h=>by
  obtain ⟨u,us',rfl,h1,h2⟩:=h
  exact ⟨u,us',rfl,hA d u h1,LAt.stay hA l us' h2⟩
theorem LAt.snoc {α:Type} {At:World→(Nat→Prop)→α→Value→Prop}:∀ (l:List α) (us:List Value) (d:α) (u:Value),LAt At w F l us→At w F d u→LAt At w F (l++[d]) (us++[u])
 | [],us,n,u,h,hu=>by
  obtain rfl:us=[]:=h
  exact ⟨u,[],rfl,hu,rfl⟩
 | m::l,us,n,u,h,hu=>by
  obtain ⟨v,us',rfl,h1,h2⟩:=h
  exact ⟨v,us'++[u],rfl,h1,LAt.snoc l us' n u h2 hu⟩
theorem LAt.length {α:Type} {At:World→(Nat→Prop)→α→Value→Prop}:∀ (l:List α) (us:List Value),LAt At w F l us→us.length=l.length
 | [],us,h=>by obtain rfl:us=[]:=h;rfl
 | m::l,us,h=>by
  obtain ⟨v,us',rfl,_,h2⟩:=h
  simp [LAt.length l us' h2]
theorem VlAt.stay (hs:Stay F F' w w') (v:Int × Ty) (u:Value) (h:VlAt w F v u):VlAt w' F' v u:=by
 obtain ⟨x,rfl,h⟩:=h
 exact ⟨x,rfl,Ty.At.stay hs _ _ h⟩
theorem TyAt.stay (hs:Stay F F' w w'):∀ (t:Option Ty) (u:Value),TyAt w F t u→TyAt w' F' t u
 | none,_,h=>h
 | some t,u,h=>by
  obtain ⟨x,rfl,h⟩:=h
  exact ⟨x,rfl,Ty.At.stay hs _ _ h⟩
theorem It.At.stay (hs:Stay F F' w w'):∀ (t:It) (u:Value),t.At w F u→t.At w' F' u
 | .path p s,u,h=>by
  obtain ⟨v,h1,h2⟩:=h
  exact ⟨v,h1.stay hs,Blk.stay h2 hs⟩
 | .pathn q m p s,u,h=>by
  obtain ⟨i,v,h1,h2,h3⟩:=h
  exact ⟨i,v,h1.stay hs,Blk.stay h2 hs,Blk.stay h3 hs⟩
 | .value ns t vs,u,h=>by
  obtain ⟨s,us,y,z,zs,h1,h2,h3,h4,h5,h6⟩:=h
  exact ⟨s,us,y,z,zs,h1.stay hs,h2.stay hs,NmsAt.stay hs _ _ h3,TyAt.stay hs _ _ h4,h5.stay hs,LAt.stay (VlAt.stay hs) _ _ h6⟩
 | .type p s t,u,h=>by
  obtain ⟨i,x,h1,h2,h3⟩:=h
  exact ⟨i,x,h1.stay hs,Blk.stay h2 hs,Ty.At.stay hs _ _ h3⟩
 | .alias p s q t,u,h=>by
  obtain ⟨i,x,h1,h2,h3⟩:=h
  exact ⟨i,x,h1.stay hs,Blk.stay h2 hs,Ty.At.stay hs _ _ h3⟩
theorem ItAt.stay (hs:Stay F F' w w') (v:It) (u:Value) (h:ItAt w F v u):ItAt w' F' v u:=by
 obtain ⟨x,rfl,h⟩:=h
 exact ⟨x,rfl,It.At.stay hs _ _ h⟩
theorem RvAt.stay (hs:Stay F F' w w'):∀ (t:Option (Int × Fs × Int)) (u:Value),RvAt w F t u→RvAt w' F' t u
 | none,_,h=>h
 | some (_,_,_),_,h=>FlAt.stay h hs
theorem BdAt.stay (hs:Stay F F' w w'):∀ (t:Option (Int × Int)) (u:Value),BdAt w F t u→BdAt w' F' t u
 | none,_,h=>h
 | some (_,_),_,h=>Blk.stay h hs
theorem Dc.At.stay (hs:Stay F F' w w'):∀ (t:Dc) (u:Value),t.At w F u→t.At w' F' u
 | .gen wd p it,u,h=>by
  obtain ⟨z,x,h1,h2,h3⟩:=h
  exact ⟨z,x,h1.stay hs,h2.stay hs,ItAt.stay hs _ _ h3⟩
 | .group wd p o its c,u,h=>by
  obtain ⟨z,zs,h1,h2,h3⟩:=h
  exact ⟨z,zs,h1.stay hs,h2.stay hs,LAt.stay (ItAt.stay hs) _ _ h3⟩
 | .func p rv np s o ps c b o' rs c' bd,u,h=>by
  obtain ⟨r,i,y,d,h1,h2,h3,h4,h5⟩:=h
  exact ⟨r,i,y,d,h1.stay hs,RvAt.stay hs _ _ h2,Blk.stay h3 hs,Ty.At.stay hs _ _ h4,BdAt.stay hs _ _ h5⟩
end
end
section
open Go Go.RowKit
def plCell (p:Pl):List Value:=[.string p.k,.int .i64 p.a,.int .i64 p.b]
def plCells (l:List Pl):List Value:=l.flatMap plCell
theorem plCells_nil:plCells []=[]:=rfl
theorem plCells_cons (p:Pl) (l:List Pl):plCells (p::l)=plCell p++plCells l:=rfl
theorem plCells_len (l:List Pl):(plCells l).length=l.length*3:=by
 induction l with
 | nil=>rfl
 | cons p l ih=>rw [plCells_cons,la_,ih];simp [plCell];omega
theorem plCells_snoc (l:List Pl) (p:Pl):plCells (l++[p])=plCells l++plCell p:=by
 unfold plCells
 rw [List.flatMap_append]
 simp
def PlRow (w:World) (base:Nat) (v:Value) (l:List Pl):Prop:=w.ownsRow base 32 3 v l.length (plCells l)
theorem PlRow.nil (w:World) (base:Nat):PlRow w base (.slice none 0 0) []:=⟨rfl,.inl ⟨rfl,rfl⟩⟩
theorem PlRow.on {w w':World} {base:Nat} {v:Value} {l:List Pl} {S:Nat→Prop} (h:PlRow w base v l) (hk:Kp S w w') (hs:∀ g,v.ownBlock=some g→¬ S g):PlRow w' base v l:=by
 refine ⟨h.1,?_⟩
 rcases h.2 with h | ⟨g,cap,cur,rfl,h1,h2,h3⟩
 ·exact .inl h
 ·exact .inr ⟨g,cap,cur,rfl,h1,hk.at h2 (hs g rfl),h3⟩
theorem PlRow.block {w:World} {base:Nat} {v:Value} {l:List Pl} (h:PlRow w base v l) {g:Nat} (hg:v.ownBlock=some g):base≤g∧g < w.heap.size:=by
 rcases h.2 with ⟨rfl,_⟩ | ⟨g',cap,cur,rfl,h1,h2,h3⟩
 ·simp [Value.ownBlock] at hg
 ·simp only [Value.ownBlock,Option.some.injEq] at hg
  subst hg
  exact ⟨h1,ltb h2⟩
theorem PlRow.form {w:World} {base:Nat} {v:Value} {l:List Pl} (h:PlRow w base v l):∃ p cap,v=.slice p l.length cap:=by
 rcases h.2 with ⟨rfl,h0⟩ | ⟨g',cap,cur,rfl,h1,h2,h3⟩
 ·exact ⟨none,0,by rw [h0]⟩
 ·exact ⟨_,cap,rfl⟩
section
variable {P:Program} {w:World}
theorem step_append_pl {ops:Array Oper} {o:Oper} {a:Act} {K:Act→World→Prop} {Q:Exit→Act→World→Prop} {E:Prop} (hgd:o.guard=none) (s x:Operand) (t:TypeId)
 (ho:o.op=.call { callee:=.builtin .append,args:=#[s,x],argTypes:=#[t,t] })
 {i:TypeInfo} {z:Value} (ht:P.underlying t=some (.slice 32)) (hi:P.info? 32=some i) (hz:i.zero=some z) (hs1:i.size=3) (hby:i.bytes≤64) (hzs:z.cells.size=3)
 {v:Value} {base:Nat} {l:List Pl} {p:Pl} (hs:a.eval s=v) (hrow:PlRow w base v l) {bx c:Nat} {fr:Nat × Nat} (hx:a.eval x=.slice (some ⟨bx,0,none⟩) 1 c) (hb:w.heap[bx]?=some (.cells #[.string p.k,.int .i64 p.a,.int .i64 p.b] 32 fr)) (hn:l.length≤1048576) (hbase:base≤w.heap.size) (H:Nat) (hH:w.heap.size=H)
 (h:∀ g cap w',PlRow w' base (.slice (some ⟨g,0,none⟩) (l.length+1) cap) (l++[p])→w.grownBy w' v.ownBlock→(v.ownBlock=some g∨g=H)→g < w'.heap.size→K (a.put o.dst (.slice (some ⟨g,0,none⟩) (l.length+1) cap)) w') :
 if Region.wanted o (yielded ops a.tmps)=true then Oper.wp P o a w K Q else E:=by
 refine step_append_lies w hgd s x t ho base 32 i z 3 i.bytes ht hi hz hs1 rfl hzs (by omega) v l.length (plCells l) hs hrow ⟨bx,0,none⟩ 1 c (plCell p) hx rfl (World.news_of_block (cs:=#[.string p.k,.int .i64 p.a,.int .i64 p.b]) hb) (fun u hu=>by
  simp only [plCell,List.mem_cons,List.not_mem_nil,or_false] at hu
  rcases hu with rfl | rfl | rfl <;> rfl) (by omega) (by unfold maxLen;omega) (by have:=Nat.mul_le_mul (Nat.add_le_add_right hn 1) hby;omega) hbase H hH ?_
 intro g cap w' h2 h3 h4 h5
 refine h g cap w' ?_ h3 h4 h5
 unfold PlRow
 rw [plCells_snoc,la_]
 exact h2
theorem wpList_append_pl {ops:Array Oper} {rest:List Oper} {o:Oper} {a:Act} {Q:Exit→Act→World→Prop} (hgd:o.guard=none) (s x:Operand) (t:TypeId)
 (ho:o.op=.call { callee:=.builtin .append,args:=#[s,x],argTypes:=#[t,t] })
 {i:TypeInfo} {z:Value} (ht:P.underlying t=some (.slice 32)) (hi:P.info? 32=some i) (hz:i.zero=some z) (hs1:i.size=3) (hby:i.bytes≤64) (hzs:z.cells.size=3)
 {v:Value} {base:Nat} {l:List Pl} {p:Pl} (hs:a.eval s=v) (hrow:PlRow w base v l) {bx c:Nat} {fr:Nat × Nat} (hx:a.eval x=.slice (some ⟨bx,0,none⟩) 1 c) (hb:w.heap[bx]?=some (.cells #[.string p.k,.int .i64 p.a,.int .i64 p.b] 32 fr)) (hn:l.length≤1048576) (hbase:base≤w.heap.size) (H:Nat) (hH:w.heap.size=H)
 (h:∀ g cap w',PlRow w' base (.slice (some ⟨g,0,none⟩) (l.length+1) cap) (l++[p])→w.grownBy w' v.ownBlock→(v.ownBlock=some g∨g=H)→g < w'.heap.size→wpList P ops Q rest (a.put o.dst (.slice (some ⟨g,0,none⟩) (l.length+1) cap)) w'):wpList P ops Q (o::rest) a w:=by
 refine wpList_append_lies w hgd s x t ho base 32 i z 3 i.bytes ht hi hz hs1 rfl hzs (by omega) v l.length (plCells l) hs hrow ⟨bx,0,none⟩ 1 c (plCell p) hx rfl (World.news_of_block (cs:=#[.string p.k,.int .i64 p.a,.int .i64 p.b]) hb) (fun u hu=>by
  simp only [plCell,List.mem_cons,List.not_mem_nil,or_false] at hu
  rcases hu with rfl | rfl | rfl <;> rfl) (by omega) (by unfold maxLen;omega) (by have:=Nat.mul_le_mul (Nat.add_le_add_right hn 1) hby;omega) hbase H hH ?_
 intro g cap w' h2 h3 h4 h5
 refine h g cap w' ?_ h3 h4 h5
 unfold PlRow
 rw [plCells_snoc,la_]
 exact h2
end
theorem plCells_get (l:List Pl) (i:Nat) (p:Pl) (h:l[i]?=some p):(plCells l)[i*3]?=some (.string p.k)∧(plCells l)[i*3+1]?=some (.int .i64 p.a)∧(plCells l)[i*3+2]?=some (.int .i64 p.b):=by
 induction l generalizing i with
 | nil=>simp at h
 | cons q l ih =>
  cases i with
  | zero =>
   simp only [List.getElem?_cons_zero,Option.some.injEq] at h
   subst h
   simp [plCells_cons,plCell]
  | succ i =>
   simp only [List.getElem?_cons_succ] at h
   have:=ih i h
   rw [show (i+1)*3=i*3+3 by omega]
   simpa [plCells_cons,plCell] using this
theorem PlRow.get {w:World} {base:Nat} {v:Value} {l:List Pl} (h:PlRow w base v l) {i:Nat} {p:Pl} (hi:l[i]?=some p) :
 ∃ g cap,v=.slice (some ⟨g,0,none⟩) l.length cap∧base≤g∧l.length≤cap∧i < l.length∧g < w.heap.size∧w.cell? ⟨g,i*3,none⟩=some (.string p.k)∧w.cell? ⟨g,i*3+1,none⟩=some (.int .i64 p.a)∧w.cell? ⟨g,i*3+2,none⟩=some (.int .i64 p.b):=by
 have hlt:i < l.length:=(List.getElem?_eq_some_iff.1 hi).1
 rcases h.2 with ⟨rfl,h0⟩ | ⟨g,cap,cur,rfl,h1,h2,h3,h4,h5,h6⟩
 ·omega
 ·obtain ⟨k1,k2,k3⟩:=plCells_get l i p hi
  rw [← h6] at k1 k2 k3
  refine ⟨g,cap,rfl,h1,h3,hlt,ltb h2,cO h2 _ _ ?_,cO h2 _ _ ?_,cO h2 _ _ ?_⟩
  ·rw [List.getElem?_take,if_pos (by omega)] at k1;simpa using k1
  ·rw [List.getElem?_take,if_pos (by omega)] at k2;simpa using k2
  ·rw [List.getElem?_take,if_pos (by omega)] at k3;simpa using k3
end
section
open Go Go.RowKit
def Apt (x y:Pl):Prop:=y.b≤x.b∨x.b≤y.a∨y.a≤x.a
def Nest (a b:Int) (l:List Pl):Prop:=(∀ x∈l,a≤x.a∧x.a≤x.b∧x.b≤b)∧l.Pairwise Apt
theorem Nest.nil (a b:Int):Nest a b []:=⟨by simp,.nil⟩
theorem Nest.mono {a b a' b':Int} {l:List Pl} (h:Nest a b l) (ha:a'≤a) (hb:b≤b'):Nest a' b' l :=
 ⟨fun x hx=>by have:=h.1 x hx;omega,h.2⟩
theorem Nest.append {a b c d:Int} {l m:List Pl} (h:Nest a b l) (k:Nest c d m) (hab:a≤b) (hbc:b≤c) (hcd:c≤d):Nest a d (l++m):=by
 refine ⟨fun x hx=>?_,List.pairwise_append.2 ⟨h.2,k.2,fun x hx y hy=>?_⟩⟩
 ·rcases List.mem_append.1 hx with hx | hx
  ·have:=h.1 x hx;omega
  ·have:=k.1 x hx;omega
 ·have h1:=h.1 x hx
  have h2:=k.1 y hy
  exact .inr (.inl (by omega))
theorem Nest.cons {a b:Int} {l:List Pl} (h:Nest a b l) (hab:a≤b) (k:ByteArray):Nest a b (⟨k,a,b⟩::l):=by
 refine ⟨fun x hx=>?_,List.pairwise_cons.2 ⟨fun y hy=>.inl ?_,h.2⟩⟩
 ·rcases List.mem_cons.1 hx with rfl | hx
  ·exact ⟨Int.le_refl _,hab,Int.le_refl _⟩
  ·exact h.1 x hx
 ·exact (h.1 y hy).2.2
theorem Nest.one {a b:Int} (hab:a≤b) (k:ByteArray):Nest a b [⟨k,a,b⟩]:=(Nest.nil a b).cons hab k
theorem Nest.sig {a b c:Int} {l m:List Pl} (h:Nest a b l) (k:Nest b c m) (hab:a≤b) (hbc:b≤c) (s:ByteArray):Nest a c (l++⟨s,a,c⟩::m):=by
 refine ⟨fun x hx=>?_,List.pairwise_append.2 ⟨h.2,List.pairwise_cons.2 ⟨fun y hy=>.inl ?_,k.2⟩,fun x hx y hy=>?_⟩⟩
 ·rcases List.mem_append.1 hx with hx | hx
  ·have:=h.1 x hx;omega
  ·rcases List.mem_cons.1 hx with rfl | hx
   ·exact ⟨Int.le_refl _,by show a≤c;omega,Int.le_refl _⟩
   ·have:=k.1 x hx;omega
 ·exact (k.1 y hy).2.2
 ·have h1:=h.1 x hx
  rcases List.mem_cons.1 hy with rfl | hy
  ·exact .inr (.inr h1.1)
  ·have h2:=k.1 y hy
   exact .inr (.inl (by omega))
theorem Nest.two {a b:Int} {l:List Pl} (h:Nest a b l) {i j:Nat} {x y:Pl} (hij:i < j) (hx:l[i]?=some x) (hy:l[j]?=some y):¬ (y.a < x.b∧x.b < y.b∧x.a < y.a):=by
 obtain ⟨hi,rfl⟩:=List.getElem?_eq_some_iff.1 hx
 obtain ⟨hj,rfl⟩:=List.getElem?_eq_some_iff.1 hy
 have:=List.pairwise_iff_getElem.1 h.2 i j hi hj hij
 unfold Apt at this
 omega
end
section
open Go Go.RowKit
def PSt (w:World) (base pb:Nat) (g:List Int) (at_:List Int) (e:Int) (out:List Pl):Prop :=
 ∃ gv av ov,w.heap[pb]?=some (.cells #[gv,av,.int .i64 e,ov] 37 (0,0))∧Ints w base gv g∧Row w (Fr base) 3 av (at_.map fun q=>.int .i64 q)∧PlRow w base ov out∧base≤pb∧base≤w.heap.size
def gapOf (g:List Int) (n:Nat):Int:=match g[n]? with
 | some q=>max 0 (min q 1000)
 | none=>1
theorem gapOf_le (g:List Int) (n:Nat):0≤gapOf g n∧gapOf g n≤1000:=by
 unfold gapOf
 split <;> omega
theorem PSt.lt {w:World} {base pb:Nat} {g at_:List Int} {e:Int} {out:List Pl} (h:PSt w base pb g at_ e out):pb < w.heap.size:=by
 obtain ⟨gv,av,ov,h,_⟩:=h
 exact ltb h
theorem PSt.on {w w':World} {base pb:Nat} {g at_:List Int} {e:Int} {out:List Pl} {S:Nat→Prop} (h:PSt w base pb g at_ e out) (hk:Kp S w w') (hS:∀ b,b < w.heap.size→¬ S b):PSt w' base pb g at_ e out:=by
 obtain ⟨gv,av,ov,h1,h2,h3,h4,h5,h6⟩:=h
 refine ⟨gv,av,ov,hk.at h1 (hS _ (ltb h1)),h2.stay fun b hb=>hk.block b (by omega) (hS b (by omega)),h3.stay fun b hb hF=>⟨hk.block b hb (hS b hb),hF⟩,?_,h5,Nat.le_trans h6 hk.size⟩
 exact h4.on (hk.mono (S':=fun b=>¬ b < w.heap.size) fun i hi hs=>absurd hs (hS i hi)) fun g hg hn=>hn (h4.block hg).2
theorem drewN2 (w:World) (a b:Nat):(w.drewN a).drewN b=w.drewN (a+b):=by simp [World.drewN,Nat.add_assoc]
theorem gap_c (w:World) (base pb:Nat) (g at_:List Int) (e:Int) (out:List Pl) (h:PSt w base pb g at_ e out) :
 Calls Tryz.prog 26 #[.pointer (some ⟨pb,0,none⟩)] w fun e' w'=>e'=.returned (.int .i64 (gapOf g at_.length))∧∃ m,w'=w.drewN m:=by
 obtain ⟨gv,av,ov,h1,⟨gp,gc,rfl,hgc,hg⟩,h3,h4,h5,h6⟩:=h
 obtain ⟨ap,ac,rfl⟩:=h3.form
 have c0:=cO h1 0 _ rfl
 have c1:=cO h1 1 _ rfl
 simp only [lm_] at c0 c1
 have HG:=hd_ hg
 clear h1 h3 h4 hg
 by_cases hlt:at_.length < g.length
 ·obtain ⟨q,hq⟩:∃ q,g[at_.length]?=some q:=⟨_,List.getElem?_eq_getElem hlt⟩
  have hne:¬ g=[]:=by rintro rfl;simp at hlt
  obtain ⟨b,o,rfl,hb,hr⟩:=HG.out.resolve_left hne
  have hcq:=hr _ _ hq
  have hgo:gapOf g at_.length=max 0 (min q 1000):=by unfold gapOf;rw [hq]
  rw [hgo]
  have HN:Hid (at_.length < g.length):=hlt
  clear HG hr hgo hq hne
  obtain ⟨val,hval⟩:∃ val,max 0 (min q 1000)=val:=⟨_,rfl⟩
  rw [hval]
  rcases (by omega:q≤0∧val=0∨(0 < q∧q≤1000∧val=q)∨(1000 < q∧val=1000)) with ⟨q1,rfl⟩ | ⟨q1,q2,rfl⟩ | ⟨q1,rfl⟩
  all_goals
   clear hval
   go_enter Tryz.func26,Tryz.ntmps26
   go_wp2_with fail
   go_quiet (fail)
   go_wp2_with fail
   go_quiet (fail)
   all_goals first
    | (exfalso;omega)
    | (go_wp2_with fail
       go_ret
       refine ⟨rfl,?_⟩
       first | exact ⟨_,rfl⟩ | exact ⟨_,drewN2 _ _ _⟩)
 ·have hgo:gapOf g at_.length=1:=by unfold gapOf;rw [List.getElem?_eq_none (by omega)]
  rw [hgo]
  clear HG hgo
  go_enter Tryz.func26,Tryz.ntmps26
  go_wp2_with fail
  go_quiet (fail)
  go_wp2_with fail
  go_ret
  exact ⟨rfl,_,rfl⟩
end
section
open Go Go.RowKit
def tkAt (g:List Int):List Int→Int→List ByteArray→List Int × Int
 | at_,e,[]=>(at_,e)
 | at_,e,s::ss=>tkAt g (at_++[e+gapOf g at_.length]) (e+gapOf g at_.length+s.size) ss
theorem tkAt_snoc (g:List Int) (s:ByteArray):∀ (ss:List ByteArray) (at_:List Int) (e:Int),tkAt g at_ e (ss++[s])=((tkAt g at_ e ss).1++[(tkAt g at_ e ss).2+gapOf g (tkAt g at_ e ss).1.length],(tkAt g at_ e ss).2+gapOf g (tkAt g at_ e ss).1.length+s.size)
 | [],at_,e=>by simp [tkAt]
 | t::ss,at_,e=>by
  simp only [List.cons_append,tkAt]
  exact tkAt_snoc g s ss _ _
theorem tkAt_len (g:List Int):∀ (ss:List ByteArray) (at_:List Int) (e:Int),(tkAt g at_ e ss).1.length=at_.length+ss.length
 | [],at_,e=>by simp [tkAt]
 | t::ss,at_,e=>by
  simp only [tkAt]
  rw [tkAt_len g ss]
  simp
  omega
theorem tkAt_le (g:List Int):∀ (ss:List ByteArray) (at_:List Int) (e:Int),(∀ s∈ss,s.size≤1048576)→e≤(tkAt g at_ e ss).2∧(tkAt g at_ e ss).2≤e+2097152*ss.length
 | [],at_,e,_=>by simp [tkAt]
 | t::ss,at_,e,h=>by
  simp only [tkAt]
  have h1:=tkAt_le g ss (at_++[e+gapOf g at_.length]) (e+gapOf g at_.length+t.size) fun s hs=>h s (List.mem_cons_of_mem _ hs)
  have h2:=gapOf_le g at_.length
  have h3:=h t List.mem_cons_self
  simp only [lc_]
  omega
theorem ne_blk {w:World} {a b:Nat} {o o':Obj} (ha:w.heap[a]?=some o) (hb:w.heap[b]?=some o') (h:o≠o'):a≠b:=by
 rintro rfl
 rw [ha] at hb
 cases hb
 exact h rfl
theorem Row.blk {w:World} {F:Nat→Prop} {T:TypeId} {v:Value} {us:List Value} (h:Row w F T v us) {g:Nat} (hg:v.ownBlock=some g):F g∧∃ cur,w.heap[g]?=some (.cells cur T (0,0)):=by
 rcases h with ⟨rfl,_⟩ | ⟨g',cap,cur,rfl,hF,h1,_⟩
 ·simp [Value.ownBlock] at hg
 ·simp only [Value.ownBlock,Option.some.injEq] at hg
  subst hg
  exact ⟨hF,cur,h1⟩
theorem Row.keep {w w':World} {F:Nat→Prop} {T:TypeId} {v:Value} {us:List Value} (h:Row w F T v us) (hs:∀ (g:Nat) (cur:Array Value),w.heap[g]?=some (.cells cur T (0,0))→w'.heap[g]?=w.heap[g]?):Row w' F T v us:=by
 rcases h with h | ⟨g,cap,cur,rfl,hF,hg,h1⟩
 ·exact .inl h
 ·exact .inr ⟨g,cap,cur,rfl,hF,(hs g cur hg).trans hg,h1⟩
def Kn (w w':World):Prop:=∀ (k:Nat) (cur:Array Value) (T:TypeId) (fr:Nat × Nat),w.heap[k]?=some (.cells cur T fr)→T≠37→T≠3→T≠32→w'.heap[k]?=some (.cells cur T fr)
structure Kq (base:Nat) (w w':World):Prop where
 kp:Kp (Fr base) w w'
 kn:Kn w w'
theorem Kq.refl (base:Nat) (w:World):Kq base w w:=⟨Kp.refl _ _,fun _ _ _ _ h _ _ _=>h⟩
theorem Kq.trans {base:Nat} {a b c:World} (h:Kq base a b) (k:Kq base b c):Kq base a c:=⟨h.kp.trans' k.kp,fun i cur T fr hi h1 h2 h3=>k.kn i cur T fr (h.kn i cur T fr hi h1 h2 h3) h1 h2 h3⟩
theorem Kq.of_no {base:Nat} {a b:World} (h:Kp No a b):Kq base a b:=⟨(Kp.refl _ a).no h,fun i cur T fr hi _ _ _=>h.at hi (by simp)⟩
theorem Kq.no {base:Nat} {a b c:World} (h:Kq base a b) (k:Kp No b c):Kq base a c:=h.trans (Kq.of_no k)
theorem Kq.of_kp {base:Nat} {a b:World} {S:Nat→Prop} (h:Kp S a b) (hS:∀ k,S k→base≤k) (hT:∀ k cur T fr,S k→a.heap[k]?=some (.cells cur T fr)→T=37∨T=3∨T=32):Kq base a b :=
 ⟨h.mono fun i _ hs=>hS i hs,fun i cur T fr hi h1 h2 h3=>h.at hi fun hs=>by rcases hT i cur T fr hs hi with h | h | h <;> contradiction⟩
def PStx (w:World) (base pb:Nat) (g:List Int) (at_:List Int) (e:Int) (out:List Pl) (gv av ov:Value):Prop :=
 w.heap[pb]?=some (.cells #[gv,av,.int .i64 e,ov] 37 (0,0))∧Ints w base gv g∧Row w (Fr base) 3 av (at_.map fun q=>.int .i64 q)∧PlRow w base ov out∧base≤pb∧base≤w.heap.size
theorem PlRow.blk {w:World} {base:Nat} {v:Value} {l:List Pl} (h:PlRow w base v l) {g:Nat} (hg:v.ownBlock=some g):base≤g∧∃ cur,w.heap[g]?=some (.cells cur 32 (0,0)):=by
 rcases h.2 with ⟨rfl,_⟩ | ⟨g',cap,cur,rfl,hF,h1,_⟩
 ·simp [Value.ownBlock] at hg
 ·simp only [Value.ownBlock,Option.some.injEq] at hg
  subst hg
  exact ⟨hF,cur,h1⟩
theorem PStx.tok {w w0 w3:World} {base pb gb cap:Nat} {g at_:List Int} {e e2 tk:Int} {out:List Pl} {gv av ov:Value} (h:PStx w base pb g at_ e out gv av ov) (hk0:Kp No w w0)
 (hrow:Row w3 (fun b=>b=gb) 3 (.slice (some ⟨gb,0,none⟩) (at_.length+1) cap) ((at_.map fun q=>.int .i64 q)++[.int .i64 tk]))
 (hg:(w0.alloc (.cells #[.int .i64 tk] 3 (0,0))).grownBy w3 av.ownBlock) (hat:av.ownBlock=some gb∨gb=w0.heap.size+1) :
 PStx ((w3.setCell ⟨pb,1,none⟩ (.slice (some ⟨gb,0,none⟩) (at_.length+1) cap)).setCell ⟨pb,2,none⟩ (.int .i64 e2)) base pb g (at_++[tk]) e2 out gv (.slice (some ⟨gb,0,none⟩) (at_.length+1) cap) ov ∧
  Kp (fun b=>b=pb∨av.ownBlock=some b) w ((w3.setCell ⟨pb,1,none⟩ (.slice (some ⟨gb,0,none⟩) (at_.length+1) cap)).setCell ⟨pb,2,none⟩ (.int .i64 e2)):=by
 obtain ⟨h1,h2,h3,h4,h5,h6⟩:=h
 have hk3:Kp (fun b=>b=pb∨av.ownBlock=some b) w w3:=(((Kp.refl (fun b=>b=pb∨av.ownBlock=some b) w).no hk0).alloc _).grown hg fun k hk _=>.inr hk
 have hne:∀ b,av.ownBlock=some b→b≠pb:=by
  intro b hb
  obtain ⟨_,cur,hc⟩:=h3.blk hb
  exact ne_blk hc h1 (by simp)
 have hpb3:w3.heap[pb]?=some (.cells #[gv,av,.int .i64 e,ov] 37 (0,0)):=by
  have hlt:=ltb h1
  have h7:=hk0.at h1 (by simp)
  exact (hg.block pb (by simp;have:=ltb h7;omega) (fun e=>hne pb e.symm rfl)).trans ((Below.heap_alloc _ _ _ (ltb h7)).trans h7)
 have hk4:Kp (fun b=>b=pb) w3 ((w3.setCell ⟨pb,1,none⟩ (.slice (some ⟨gb,0,none⟩) (at_.length+1) cap)).setCell ⟨pb,2,none⟩ (.int .i64 e2)) :=
  ((Kp.refl (fun b=>b=pb) w3).setCell (p:=⟨pb,1,none⟩) (fun _=>rfl) _).setCell (p:=⟨pb,2,none⟩) (fun _=>rfl) _
 refine ⟨⟨setOf (setOf hpb3 1 _) 2 _,?_,?_,?_,h5,?_⟩,hk3.trans hk4 fun i _ h=>.inl h⟩
 ·refine h2.stay fun b hb=>(hk4.block b (Nat.lt_of_lt_of_le hb (Nat.le_trans h6 hk3.size)) (by omega)).trans (hk3.block b (by omega) ?_)
  rintro (h | h)
  ·omega
  ·have:=(h3.blk h).1;simp only [Fr] at this;omega
 ·have hgb:gb≠pb:=by
   rcases hrow with ⟨h,_⟩ | ⟨g',cap',cur,he,hF,h7,_⟩
   ·cases h
   ·subst hF
    exact ne_blk h7 hpb3 (by simp)
  have hbg:base≤gb:=by
   rcases hat with h | h
   ·exact (h3.blk h).1
   ·have:=hk0.size;omega
  rw [List.map_append,List.map_cons,List.map_nil]
  have hlen:at_.length+1=((at_.map fun q=>Value.int .i64 q)++[Value.int .i64 tk]).length:=by simp
  generalize ((w3.setCell ⟨pb,1,none⟩ (.slice (some ⟨gb,0,none⟩) (at_.length+1) cap)).setCell ⟨pb,2,none⟩ (.int .i64 e2))=W at hk4 ⊢
  rw [hlen] at hrow ⊢
  refine hrow.stay fun b hb hF=>⟨hk4.block b hb (by omega),?_⟩
  subst hF
  exact hbg
 ·refine PlRow.on h4 (hk3.trans hk4 fun i _ h=>.inl h) ?_
  rintro b hb (h | h)
  ·obtain ⟨_,cur,hc⟩:=h4.blk hb
   exact ne_blk hc h1 (by simp) h
  ·obtain ⟨_,cur,hc⟩:=h4.blk hb
   obtain ⟨_,cur',hc'⟩:=h3.blk h
   rw [hc] at hc'
   simp at hc'
 ·exact Nat.le_trans h6 (Nat.le_trans hk3.size hk4.size)
theorem PStx.drew {w w':World} {base pb:Nat} {g at_:List Int} {e:Int} {out:List Pl} {gv av ov:Value} (h:PStx w base pb g at_ e out gv av ov) (hk:Kp No w w'):PStx w' base pb g at_ e out gv av ov:=by
 obtain ⟨h1,h2,h3,h4,h5,h6⟩:=h
 exact ⟨hk.at h1 (by simp),h2.stay fun b hb=>hk.block b (by omega) (by simp),h3.stay fun b hb hF=>⟨hk.block b hb (by simp),hF⟩,h4.on hk (by simp),h5,Nat.le_trans h6 hk.size⟩
theorem tokens_c (w:World) (base pb:Nat) (g at_:List Int) (e:Int) (out:List Pl) (ss:List ByteArray) (v:Value) (h:PSt w base pb g at_ e out) (hv:Row w (fun _=>True) 9 v (ss.map Value.string))
 (hs:∀ s∈ss,s.size≤1048576) (hl:ss.length≤400) (he:0≤e) (he2:e≤1125899906842624) (ha:at_.length+ss.length≤1048576) :
 Calls Tryz.prog 27 #[.pointer (some ⟨pb,0,none⟩),v] w fun e' w'=>(∃ v,e'=.returned v)∧PSt w' base pb g (tkAt g at_ e ss).1 (tkAt g at_ e ss).2 out∧Kq base w w':=by
 obtain ⟨sp,sc,rfl⟩:=hv.form
 rw [lm_] at hv ⊢
 have H:=hd_ h;have HV:=hd_ hv;have HS:=hd_ hs
 clear h hv hs
 go_enter Tryz.func27,Tryz.ntmps27
 go_wp2_with fail
 go_loopw [5,6,9] (fun _ _ i wr=>∃ k:Nat,k≤ss.length∧i=.int .i64 k∧PSt wr base pb g (tkAt g at_ e (ss.take k)).1 (tkAt g at_ e (ss.take k)).2 out∧Row wr (fun _=>True) 9 (.slice sp ss.length sc) (ss.map Value.string)∧Kq base w wr) (fun _ _ i _=>ss.length - (intOf i).toNat)
 case atStart=>exact ⟨0,Nat.zero_le _,rfl,by simpa [tkAt] using H.out,HV.out,Kq.refl _ _⟩
 case round =>
  obtain ⟨k,hk,rfl,hst,hsr,hkp⟩:=hrel
  by_cases hlt:k < ss.length
  ·obtain ⟨s,hs⟩:∃ s,ss[k]?=some s:=⟨_,List.getElem?_eq_getElem hlt⟩
   have htk:ss.take (k+1)=ss.take k++[s]:=by rw [List.take_add_one,hs];rfl
   have hsm:s.size≤1048576:=HS.out s (List.mem_of_getElem? hs)
   have hl1:=tkAt_len g (ss.take k) at_ e
   have hl2:=tkAt_le g (ss.take k) at_ e fun s hs=>HS.out s (List.mem_of_mem_take hs)
   rw [List.length_take] at hl1 hl2
   have hlk:min k ss.length=k:=by omega
   rw [hlk] at hl1 hl2
   have hsn:=tkAt_snoc g s (ss.take k) at_ e
   rw [← htk] at hsn
   have HSN:=hd_ hsn
   clear htk hsn
   generalize tkAt g at_ e (ss.take k)=r at *
   obtain ⟨at1,e1⟩:=r
   simp only at hst hl1 hl2
   have HL1:=hd_ hl1
   have hgap:=gapOf_le g at1.length
   have GC:=fun m=>gap_c (wr.drewN m) base pb g at1 e1 out (hst.on (Kp.drewN (Kp.refl No wr) m) (by simp))
   obtain ⟨gv,av,ov,hst⟩:=hst
   have hst:PStx wr base pb g at1 e1 out gv av ov:=hst
   obtain ⟨gs,scap,hse,hsc,_,_,_⟩:=hsr.get (i:=k) (u:=.string s) (by rw [List.getElem?_map,hs];rfl)
   rw [lm_] at hse
   cases hse
   obtain ⟨ap,ac,hav⟩:=hst.2.2.1.form
   rw [lm_] at hav
   subst hav
   have HNE:Hid (∀ b,(Value.slice ap at1.length ac).ownBlock=some b→b≠pb):=by
    intro b hb
    obtain ⟨_,cur,hc⟩:=hst.2.2.1.blk hb
    exact ne_blk hc hst.1 (by simp)
   have c0:=cO hst.1 0 _ rfl;have c1:=cO hst.1 1 _ rfl;have c2:=cO hst.1 2 _ rfl
   have f1:=fO hst.1 1;have f2:=fO hst.1 2
   have lpb:=ltb hst.1
   have HX:=a3_ hst hsr hkp
   have HGC:=hd_ GC
   have HH:=hd_ hs
   clear hst hsr hkp GC hl1 hs
   go_wp2_with fail
   go_quiet ((go_at_call 26;exact Calls.quiet_of (HGC.out _)))
   go_wp2_with (at_builtin;refine wpList_append_row rfl _ _ _ rfl Tryz.underlying25 Tryz.type3 rfl rfl (by decide) rfl rfl (HX.out.1.2.2.1.stay (F':=Fr base) fun b hb hF=>⟨Below.heap_alloc _ _ _ hb,hF⟩) rfl (cO (newOf (wr.drewN _) _) 0 _ rfl) rfl (by simp;have:=HL1.out;omega) (wr.heap.size+1) (by simp) ?_
                intro gb cap w3 hrow3 hgrow3 hat3 hlt3
                have hp3:w3.heap[pb]?=some (.cells #[gv,.slice ap at1.length ac,.int .i64 e1,ov] 37 (0,0)):=(hgrow3.block pb (by simp;omega) (fun e=>HNE.out _ e.symm rfl)).trans ((Below.heap_alloc _ _ _ lpb).trans HX.out.1.1)
                have d1:=cO hp3 1 _ rfl
                have d2:=cO hp3 2 _ rfl
                have g1:=fO hp3 1
                have g2:=fO hp3 2
                have l3:=ltb hp3
                have H3:=a3_ hrow3 hgrow3 hat3
                clear hrow3 hgrow3 hat3 hp3)
   go_roundw
   case rel =>
    have h3:=H3.out
    rw [lm_] at h3
    have hT:=PStx.tok (e2:=e1+gapOf g at1.length+s.size) HX.out.1 (Kp.drewN (Kp.refl No wr) _) h3.1 h3.2.1 h3.2.2
    refine ⟨k+1,by omega,by go_num,?_,?_,?_⟩
    ·rw [HSN.out]
     exact ⟨gv,_,ov,hT.1⟩
    ·refine HX.out.2.1.keep fun b cur hc=>hT.2.block b (ltb hc) ?_
     rintro (h | h)
     ·exact ne_blk hc HX.out.1.1 (by simp) h
     ·obtain ⟨_,cur',hc'⟩:=HX.out.1.2.2.1.blk h
      rw [hc] at hc'
      simp at hc'
    ·refine HX.out.2.2.trans (Kq.of_kp hT.2 ?_ ?_)
     ·rintro i (h | h)
      ·have:=HX.out.1.2.2.2.2.1;omega
      ·exact (HX.out.1.2.2.1.blk h).1
     ·rintro i cur T fr (h | h) hi
      ·subst h
       rw [HX.out.1.1] at hi
       simp at hi
       exact .inl hi.2.1.symm
      ·obtain ⟨_,cur',hc'⟩:=HX.out.1.2.2.1.blk h
       rw [hc'] at hi
       simp at hi
       exact .inr (.inl hi.2.1.symm)
   case measure=>simp [intOf];omega
  ·have hkn:k=ss.length:=by omega
   have HX:=a3_ hst hsr hkp
   clear hst hsr hkp
   go_wp2_with fail
   refine bodyPost_end (v:=.tuple #[]) (by simp [results,Tryz.results27,go_sem]) rfl ⟨⟨_,rfl⟩,?_,HX.out.2.2⟩
   have:=HX.out.1
   rwa [List.take_of_length_le (by omega)] at this
end
section
open Go Go.RowKit
theorem none_c (w:World):Calls Tryz.prog 59 #[] w fun e w'=>e=.returned (.agg #[.string ⟨#[110,111,110,101]⟩,.string ⟨#[]⟩,.slice none 0 0])∧Kp No w w':=by
 go_enter Tryz.func59,Tryz.ntmps59
 go_wp2_with fail
 exact bodyPost_ret (v:=.agg #[.string ⟨#[110,111,110,101]⟩,.string ⟨#[]⟩,.slice none 0 0]) (by simp [results,Tryz.results59,go_sem]) rfl ⟨rfl,(Kp.refl No _).alloc _⟩
theorem kid_c (w:World) (B:Nat) (k t:ByteArray) (s:Value) (l:List Nd) (z:Int) (n:Nd) (hl:Ls w B s l) (h0:0≤z) (hn:l[z.toNat]?=some n) :
 Calls Tryz.prog 41 #[.agg #[.string k,.string t,s],.int .i64 z] w fun e w'=>(∃ u,e=.returned (.agg #[.string n.k,.string n.t,u])∧n.In w B u)∧Kp No w w':=by
 obtain ⟨b,o,c,q,d,rfl,hc,hb,hi,h1,h2,h3,h4,hw⟩:=hl.get hn
 obtain ⟨q1,q2,q3,q4,q5⟩:=lts hw
 have H4:Hid (n.In w B (.slice q n.l.length d)):=h4
 clear hl hn h4
 go_enter Tryz.func41,Tryz.ntmps41
 go_wp2_with fail
 refine bodyPost_ret (v:=.agg #[.string n.k,.string n.t,.slice q n.l.length d]) (by simp [results,Tryz.results41,go_sem]) rfl ⟨⟨_,rfl,H4.out⟩,((Kp.refl No _).alloc _).alloc _⟩
end
section
open Go Go.RowKit
theorem Bld.lt {w:World} {bb:Nat} {l:List Int} (h:Bld w bb l):bb < w.heap.size:=by
 obtain ⟨s,hb,_⟩:=h;exact ltb hb
theorem ident_c (w:World) (bb:Nat) (s:ByteArray) (p:Int) (l:List Int) (hB:Bld w bb (p::l)) :
 Calls Tryz.prog 42 #[.pointer (some ⟨bb,0,none⟩),.string s] w fun e w'=>(∃ u,e=.returned u∧IdAt w' (Fr w.heap.size) p s u)∧Bld w' bb l∧Kp (On bb) w w':=by
 have HB:=hd_ hB
 have hlt:=hB.lt
 clear hB
 go_enter Tryz.func42,Tryz.ntmps42
 go_wp2_with (go_at_call 39;refine (next_c _ _ p l HB.out).mono ?_;rintro e w' ⟨rfl,hB,hK⟩;have HB1:=hd_ hB;have HK:=hd_ hK;clear hB hK)
 go_ret
 exact ⟨⟨_,rfl,_,rfl,HK.out.size,newOf _ _⟩,HB1.out.stay (fun b hb=>Below.heap_alloc _ _ _ (by have:=HK.out.size;omega)),HK.out.alloc _⟩
theorem literal_c (w:World) (bb:Nat) (s:ByteArray) (p:Int) (l:List Int) (hB:Bld w bb (p::l)) (hp:Pk p) (hs:s.size≤1048576) :
 Calls Tryz.prog 61 #[.pointer (some ⟨bb,0,none⟩),.string s] w fun e w'=>(∃ u,e=.returned u∧LitAt w' (Fr w.heap.size) p s u)∧Bld w' bb l∧Kp (On bb) w w':=by
 have HB:=hd_ hB
 have hlt:=hB.lt
 clear hB
 unfold Pk at hp
 obtain ⟨hp1,hp2⟩:=hp
 go_enter Tryz.func61,Tryz.ntmps61
 go_wp2_with (go_at_call 39;refine (next_c _ _ p l HB.out).mono ?_;rintro e w' ⟨rfl,hB,hK⟩;have HB1:=hd_ hB;have HK:=hd_ hK;clear hB hK)
 go_ret
 exact ⟨⟨_,rfl,_,rfl,HK.out.size,newOf _ _⟩,HB1.out.stay (fun b hb=>Below.heap_alloc _ _ _ (by have:=HK.out.size;omega)),HK.out.alloc _⟩
end
end Go.Proofs.YtnkbglhdpmbgfaaGreatFmt
