/- The law FnHeadWritten: Unm. -/
import Derived.StillTailTactics
import Derived.Test.YtejhpdcjafbklaaGreatDoorPar
set_option linter.all false
set_option maxHeartbeats 4000000
set_option maxRecDepth 4000
namespace Go.Proofs.YtejhpdcjafbklaaGreatDoor
open Go.RowKit
def umR(l:Tx)(sp en:UInt8)(i:Nat)(m:UM):Nat×UM:=KK l sp en (l.length+1-i) i m
theorem Kg{l:Tx}{sp en:UInt8}{i:Nat}{m:UM}(h:l.length=i):umR l sp en i m=(l.length,m):=by
 subst h;unfold umR;rw[show l.length+1-l.length=0+1 from by omega];simp only[KK,dif_neg (Nat.lt_irrefl _)]
theorem Kf{l:Tx}{sp en:UInt8}{i:Nat}{m:UM}(h:i<l.length)(he:l[i]=en):umR l sp en i m=(i,m):=by
 unfold umR;obtain⟨n,hn⟩:∃n,l.length+1-i=n+1:=⟨l.length-i,by omega⟩;rw[hn];simp only[KK,dif_pos h,if_pos he]
theorem CG{l:Tx}{sp en:UInt8}{i:Nat}{m:UM}(h:i<l.length)(he:l[i]≠en):umR l sp en i m=umR l sp en (i+1) (CR l sp i l[i] m):=by
 unfold umR;rw[show l.length+1-i=(l.length+1-(i+1))+1 from by omega];simp only[KK,dif_pos h,if_neg he]
theorem LK{x y:UInt8}(h:128≤x.toNat)(hy:y.toNat<128):x≠y:=by rintro rfl;omega
theorem GW{l:Tx}{sp:UInt8}{i:Nat}{x:UInt8}{m:UM}(h:m.state=1):CR l sp i x m={m with sep:=0,start:=i,state:=2}:=by unfold CR;simp[h]
theorem Dd{l:Tx}{sp:UInt8}{i:Nat}{x:UInt8}{m:UM}(h:m.state=2):CR l sp i x m=if x=sp then {m with acc:=B7 m.acc (sub l m.start i) [],state:=1} else if x=61 then {m with sep:=i,state:=3} else m:=by unfold CR;simp[h]
theorem D9{l:Tx}{sp:UInt8}{i:Nat}{x:UInt8}{m:UM}(h:m.state=3):CR l sp i x m=if x=34 then {m with state:=4,quote:=i} else if x=sp then {m with acc:=B7 m.acc (sub l m.start m.sep) (sub l (m.sep+1) i),start:=m.sep+1,state:=1} else m:=by unfold CR;simp[h]
theorem I6{l:Tx}{sp:UInt8}{i:Nat}{x:UInt8}{m:UM}(h:m.state=4):CR l sp i x m=if x=34 then {m with acc:=B7 m.acc (l.drop m.start) (sub l (m.quote.toNat+1) i),state:=1} else m:=by unfold CR;simp[h]
theorem Gv{l:Tx}{sp:UInt8}{i:Nat}{x:UInt8}{m:UM}(h:128≤x.toNat)(hs:sp.toNat<128)(h1:m.state≠1):CR l sp i x m=m:=by
 have a:=LK h hs;have b:=LK (y:=61) h (by decide);have c:=LK (y:=34) h (by decide);unfold CR;split<;>simp_all
theorem I7{l:Tx}{sp en:UInt8}(hs:sp.toNat<128)(hn:en.toNat<128){i d:Nat}{m:UM}(hd:1≤d)(hk:i+d≤l.length)
 (h:∀j (hj:j<l.length),i≤j→j<i+d→128≤l[j].toNat):
 umR l sp en i m=umR l sp en (i+d) (if m.state=1 then {m with sep:=0,start:=i,state:=2} else m):=by
 have h0:=h i (by omega) (by omega) (by omega)
 have e0:CR l sp i (l[i]'(by omega)) m=if m.state=1 then {m with sep:=0,start:=i,state:=2} else m:=by
  by_cases h1:m.state=1
  ·rw[if_pos h1];exact GW h1
  ·rw[if_neg h1];exact Gv h0 hs h1
 rw[CG (by omega) (LK h0 hn),e0];generalize hm:(if m.state=1 then {m with sep:=0,start:=i,state:=2} else m:UM)=m1;have h1:m1.state≠1:=by
  rw[←hm];split
  ·simp
  ·assumption
 clear e0 hm h0;induction d with
 |zero=>omega
 |succ d ih=>
  by_cases hd0:d=0
  ·subst hd0;rfl
  ·rw[ih (by omega) (by omega) (fun j hj a b=>h j hj a (by omega))];have h2:=h (i+d) (by omega) (by omega) (by omega);rw[CG (by omega) (LK h2 hn),Gv h2 hs h1];rfl
structure UI(i:Nat)(m:UM):Prop where
 st:m.state=1∨m.state=2∨m.state=3∨m.state=4
 le:m.start≤i
 s3:m.state=3→m.start≤m.sep∧m.sep<i
 s4:m.state=4→0≤m.quote∧m.quote<i
 sep:0<m.sep→m.sep<i
theorem UI.mono{i j:Nat}{m:UM}(h:UI i m)(k:i≤j):UI j m:=
 ⟨h.st,Nat.le_trans h.le k,fun e=>⟨(h.s3 e).1,Nat.lt_of_lt_of_le (h.s3 e).2 k⟩,fun e=>⟨(h.s4 e).1,by have:=(h.s4 e).2;omega⟩,fun e=>Nat.lt_of_lt_of_le (h.sep e) k⟩
def KSm(N:Nat)(l:KVs):Prop:=l.length≤N∧∀x∈l,x.1.length≤1099511627776∧x.2.length≤1099511627776
theorem KSm.mono{N M:Nat}{l:KVs}(h:KSm N l)(k:N≤M):KSm M l:=⟨Nat.le_trans h.1 k,h.2⟩
theorem Hv(l:KVs)(k v:Tx):(B7 l k v).length≤l.length+1:=by
 induction l with
 |nil=>simp[B7]
 |cons x r ih=>unfold B7;split<;>simp<;>omega
theorem MX{l:KVs}{k v:Tx}{x:Tx×Tx}(h:x∈B7 l k v):x∈l∨x=(k,v):=by
 induction l with
 |nil=>exact .inr (by simpa[B7]using h)
 |cons y r ih=>
  unfold B7 at h;split at h
  ·rcases List.mem_cons.1 h with h|h
   ·exact .inr h
   ·exact .inl (List.mem_cons_of_mem _ h)
  ·rcases List.mem_cons.1 h with h|h
   ·exact .inl (by rw[h];exact List.mem_cons_self)
   ·rcases ih h with h|h
    ·exact .inl (List.mem_cons_of_mem _ h)
    ·exact .inr h
theorem KSm.add{N:Nat}{l:KVs}(h:KSm N l){k v:Tx}(hk:k.length≤1099511627776)(hv:v.length≤1099511627776):KSm (N+1) (B7 l k v):=
 ⟨Nat.le_trans (Hv l k v) (by have:=h.1;omega),fun x hx=>by
  rcases MX hx with h'|rfl
  ·exact h.2 x h'
  ·exact⟨hk,hv⟩⟩
theorem Ef(l:Tx)(a b:Nat):(sub l a b).length≤l.length:=by unfold sub;simp only[List.length_drop,List.length_take];omega
theorem Dc(s:ByteArray)(a b:Nat):s.extract a b=st (sub (bs s) a b):=Hm s a b
theorem PAt.kept{w w':World}{base b o:Nat}{T:TypeId}{cs:Array Value}{l:KVs}(h:PAt w base b o T cs l){row:Option Nat}(hg:w.grownBy w' row)(hb:row≠some b)
 (hr:∀g c fz,row=some g→w.heap[g]?≠some (.cells c 172 fz)):PAt w' base b o T cs l:=by
 obtain⟨v,h1,h2,h3⟩:=h;refine⟨v,h1,(hg.block b (AQ h2) (fun e=>hb e.symm)).trans h2,h3.kept hg ?_⟩;cases hv:v.ownBlock with
 |none=>exact .inl rfl
 |some g=>
  right;intro e;obtain⟨_,c,fz,hc⟩:=IL h3 g hv;exact hr g c fz e.symm hc
theorem Hg(w:World)(k:Nat)(s:ByteArray)(p:Nat):w.grownBy (w.iterAt k s p) (some k):=
 ⟨rfl,rfl,rfl,by simp[World.iterAt],fun i _ hne=>Lib.iterAt_other w k i s p (fun e=>hne (by rw[e]))⟩
theorem PAt.iterAt{w:World}{base b o:Nat}{T:TypeId}{cs:Array Value}{l:KVs}(h:PAt w base b o T cs l){k:Nat}{s:ByteArray}{p:Nat}(hk:w.heap[k]? =some (.stringIter s p))(q:Nat):PAt (w.iterAt k s q) base b o T cs l:=by
 refine h.kept (Hg w k s q) ?_ ?_
 ·rintro e;injection e with e
  subst e;obtain⟨v,_,h2,_⟩:=h;rw[hk]at h2;cases h2
 ·rintro g c fz e hc;injection e with e
  subst e;rw[hk]at hc;cases hc
theorem PAt.le{w w':World}{base b o:Nat}{T:TypeId}{cs:Array Value}{l:KVs}(h:PAt w base b o T cs l)(k:Le w w'):PAt w' base b o T cs l:=
 h.kept (row:=none) ⟨k.os,k.tape,k.output,k.size,fun i hi _=>k.block i hi⟩ (by simp) (by simp)
theorem PFr.iterAt{base b:Nat}{u v:World}(h:PFr base b u v){k:Nat}(hk:u.heap.size≤k)(hb:base≤u.heap.size)(s:ByteArray)(p:Nat):PFr base b u (v.iterAt k s p):=
 ⟨h.os,h.tape,h.output,by simpa[World.iterAt]using h.size,fun i hi hne=>(Lib.iterAt_other v k i s p (by omega)).trans (h.low i hi hne),
  fun i o hi hb ho=>(Lib.iterAt_other v k i s p (by have:=AQ hi;omega)).trans (h.oth i o hi hb ho)⟩
def PAx(w:World)(base b o:Nat)(T:TypeId)(cs:Array Value)(l:KVs):Prop:=∃v,PAt w base b o T (cs.setIfInBounds o v) l
theorem Oq{cs:Array Value}{o:Nat}{v v':Value}:(cs.setIfInBounds o v).setIfInBounds o v'=cs.setIfInBounds o v':=by
 apply Array.ext
 ·simp
 ·intro j h1 h2;rw[Array.getElem_setIfInBounds,Array.getElem_setIfInBounds,Array.getElem_setIfInBounds]<;>simp_all
theorem I3.ax{base b o:Nat}{T:TypeId}{cs:Array Value}{v:Value}{l:KVs}{w w':World}{e:Ending}(h:I3 base b o T (cs.setIfInBounds o v) l w e w'):
 ∃v',e= .returned v'∧PAx w' base b o T cs l∧PFr base b w w':=by
 obtain⟨v',h1,h2,h3⟩:=h;rw[Oq]at h2;exact⟨v',h1,⟨v',h2⟩,h3⟩
theorem PAx.of{w:World}{base b o:Nat}{T:TypeId}{cs:Array Value}{l:KVs}(h:PAt w base b o T cs l):PAx w base b o T cs l:=by
 obtain⟨v,h1,h2,h3⟩:=h;refine⟨v,v,by rw[Array.getElem?_setIfInBounds_self_of_lt (by exact(Array.getElem?_eq_some_iff.1 h1).1)],?_,h3⟩;have:cs.setIfInBounds o v=cs:=by
  apply Array.ext
  ·simp
  ·intro j h1' h2';rw[Array.getElem_setIfInBounds];split
   ·rename_i e
    subst e;rw[Array.getElem?_eq_getElem h2']at h1;exact(Option.some.inj h1).symm
   ·rfl
 rw[this];exact h2
theorem PAx.add{w:World}{base b o:Nat}{T:TypeId}{cs:Array Value}{l:KVs}(h:PAx w base b o T cs l)(hT:T≠172)(hbase:base≤w.heap.size){N:Nat}(hl:KSm N l)(hN:N≤1099511627775)(k v:Tx):
 Calls Tryz.prog 150 #[.pointer (some ⟨b,o,none⟩),.string (st k),.string (st v)] w (fun e w'=>∃v',e= .returned v'∧PAx w' base b o T cs (B7 l k v)∧PFr base b w w'):=by
 obtain⟨x,h⟩:=h;exact(add_c base b o T _ l k v w h hT hbase (Nat.le_trans hl.1 hN) hl.2).mono fun e w' hp=>hp.ax
theorem PAx.le{w w':World}{base b o:Nat}{T:TypeId}{cs:Array Value}{l:KVs}(h:PAx w base b o T cs l)(k:Le w w'):PAx w' base b o T cs l:=by obtain⟨v,h⟩:=h;exact⟨v,h.le k⟩
theorem PAx.iterAt{w:World}{base b o:Nat}{T:TypeId}{cs:Array Value}{l:KVs}(h:PAx w base b o T cs l){k:Nat}{s:ByteArray}{p:Nat}(hk:w.heap[k]? =some (.stringIter s p))(q:Nat):PAx (w.iterAt k s q) base b o T cs l:=by
 obtain⟨v,h⟩:=h;exact⟨v,h.iterAt hk q⟩
theorem PAx.lt{w:World}{base b o:Nat}{T:TypeId}{cs:Array Value}{l:KVs}(h:PAx w base b o T cs l):b<w.heap.size:=by obtain⟨v,x,_,h,_⟩:=h;exact AQ h
theorem PAx.ne{w:World}{base b o:Nat}{T:TypeId}{cs:Array Value}{l:KVs}(h:PAx w base b o T cs l){k:Nat}{s:ByteArray}{p:Nat}(hk:w.heap[k]? =some (.stringIter s p)):k≠b:=by
 rintro rfl;obtain⟨v,x,_,h,_⟩:=h;rw[hk]at h;cases h
theorem PFr.iter{base b:Nat}{u v:World}(h:PFr base b u v){k:Nat}{s:ByteArray}{p:Nat}(hk:u.heap[k]? =some (.stringIter s p))(hb:k≠b):v.heap[k]? =some (.stringIter s p):=
 h.oth k _ hk (fun e=>hb (by injection e)) (fun c fz e=>by cases e)
end Go.Proofs.YtejhpdcjafbklaaGreatDoor
namespace Go.Proofs.YtejhpdcjafbklaaGreatDoor
open Go.RowKit
def P8(base b o:Nat)(T:TypeId)(cs:Array Value)(l:KVs)(s:ByteArray)(sp en:UInt8)(w:World)(e:Ending)(w':World):Prop:=
 ∃t,CP s t∧e= .returned (.tuple #[.int .i64 (unm (bs t) sp en l).1,.nilIface])∧PAx w' base b o T cs (unm (bs t) sp en l).2∧PFr base b w w'
theorem PFr.trans'{base b:Nat}{u v w:World}(h:PFr base b u v)(k:PFr base b v w):PFr base b u w:=h.trans k
theorem IA{l:Tx}{n start sep:Nat}{quote:Int}{state:Nat}{acc:KVs}(h1:0<sep)(h2:start<sep):FS l n ⟨start,sep,quote,state,acc⟩=B7 acc (sub l start sep) (sub l (sep+1) n):=by
 unfold FS;simp only[if_pos (show 0<sep∧start<sep from⟨h1,h2⟩),if_neg (show ¬(sep=0∧start<n)from by omega)]
theorem H8{l:Tx}{n start sep:Nat}{quote:Int}{state:Nat}{acc:KVs}(h1:sep=0)(h2:start<n):FS l n ⟨start,sep,quote,state,acc⟩=B7 acc (l.drop start) []:=by
 unfold FS;simp only[if_neg (show ¬(0<sep∧start<sep)from by omega),if_pos (show sep=0∧start<n from⟨h1,h2⟩)]
theorem Kh{l:Tx}{n start sep:Nat}{quote:Int}{state:Nat}{acc:KVs}(h1:¬(0<sep∧start<sep))(h2:¬(sep=0∧start<n)):FS l n ⟨start,sep,quote,state,acc⟩=acc:=by
 unfold FS;simp only[if_neg h1,if_neg h2]
theorem FR{l:Tx}{sp en:UInt8}{p:KVs}{n:Nat}{m:UM}(h:umR l sp en 0 ⟨0,0,-1,1,p⟩=(n,m)):unm l sp en p=(n,FS l n m):=by
 have h':KK l sp en (l.length+1) 0 ⟨0,0,-1,1,p⟩=(n,m):=h;unfold unm;simp only[h']
section
variable {t:ByteArray} {sp en:UInt8} {p d:Nat} {c:Int} {start sep:Nat} {quote:Int} {q:Nat} {acc:KVs}
theorem um_1(hs:sp.toNat<128)(hn:en.toNat<128)(h:Cd t p c d)(he:∀x:UInt8,c=(x.toNat:Int)→x≠en){m:UM}(h1:m.state=1):
 umR (bs t) sp en p m=umR (bs t) sp en (p+d) {m with sep:=0,start:=p,state:=2}:=by
 obtain⟨h0,h2,_,_,h5⟩:=h;rcases h5 with⟨hp,e,rfl,_⟩|⟨e,hh⟩
 ·rw[CG hp (he _ e),GW h1]
 ·rw[I7 hs hn h0 (by rw[BD];exact h2) hh,if_pos h1]
theorem Ob(hs:sp.toNat<128)(hn:en.toNat<128)(h:Cd t p c d)(he:∀x:UInt8,c=(x.toNat:Int)→x≠en){m:UM}(h1:m.state≠1)(hk:∀x:UInt8,c=(x.toNat:Int)→CR (bs t) sp p x m=m):
 umR (bs t) sp en p m=umR (bs t) sp en (p+d) m:=by
 obtain⟨h0,h2,_,_,h5⟩:=h;rcases h5 with⟨hp,e,rfl,_⟩|⟨e,hh⟩
 ·rw[CG hp (he _ e),hk _ e]
 ·rw[I7 hs hn h0 (by rw[BD];exact h2) hh,if_neg h1]
theorem Kd(h:Cd t p c d)(he:∀x:UInt8,c=(x.toNat:Int)→x≠en)(y:UInt8)(hy:y.toNat<128)(hc:c=(y.toNat:Int)){m m':UM}(hk:CR (bs t) sp p y m=m'):
 d=1∧umR (bs t) sp en p m=umR (bs t) sp en (p+1) m':=by
 obtain⟨h0,h2,_,_,h5⟩:=h;rcases h5 with⟨hp,e,rfl,_⟩|⟨e,hh⟩
 ·have hx:(bs t)[p]=y:=UInt8.toNat_inj.1 (by omega);refine⟨rfl,?_⟩;rw[CG hp (he _ e)];exact congrArg (umR (bs t) sp en (p+1)) ((congrArg (fun z=>CR (bs t) sp p z m) hx).trans hk)
 ·omega
theorem um_2s(hs:sp.toNat<128)(h:Cd t p (sp.toNat:Int) d)(he:∀x:UInt8,(sp.toNat:Int)=(x.toNat:Int)→x≠en):
 d=1∧umR (bs t) sp en p ⟨start,sep,quote,2,acc⟩=umR (bs t) sp en (p+1) ⟨start,sep,quote,1,B7 acc (sub (bs t) start p) []⟩:=
 Kd h he sp hs rfl (by rw[Dd rfl,if_pos rfl])
theorem um_2e(h:Cd t p 61 d)(he:∀x:UInt8,(61:Int)=(x.toNat:Int)→x≠en)(hc:¬(61:Int)=(sp.toNat:Int)):
 d=1∧umR (bs t) sp en p ⟨start,sep,quote,2,acc⟩=umR (bs t) sp en (p+1) ⟨start,p,quote,3,acc⟩:=
 Kd h he 61 (by decide) rfl (by rw[Dd rfl,if_neg (by rintro rfl;exact hc rfl),if_pos rfl])
theorem um_2n(hs:sp.toNat<128)(hn:en.toNat<128)(h:Cd t p c d)(he:∀x:UInt8,c=(x.toNat:Int)→x≠en)(h1:¬c=(sp.toNat:Int))(h2:¬c=61):
 umR (bs t) sp en p ⟨start,sep,quote,2,acc⟩=umR (bs t) sp en (p+d) ⟨start,sep,quote,2,acc⟩:=
 Ob hs hn h he (by simp) fun x hx=>by rw[Dd rfl,if_neg (by rintro rfl;exact h1 hx),if_neg (by rintro rfl;exact h2 hx)]
theorem um_3q(h:Cd t p 34 d)(he:∀x:UInt8,(34:Int)=(x.toNat:Int)→x≠en):
 d=1∧umR (bs t) sp en p ⟨start,sep,quote,3,acc⟩=umR (bs t) sp en (p+1) ⟨start,sep,p,4,acc⟩:=
 Kd h he 34 (by decide) rfl (by rw[D9 rfl,if_pos rfl])
theorem um_3s(hs:sp.toNat<128)(h:Cd t p (sp.toNat:Int) d)(he:∀x:UInt8,(sp.toNat:Int)=(x.toNat:Int)→x≠en)(hc:¬(sp.toNat:Int)=34):
 d=1∧umR (bs t) sp en p ⟨start,sep,quote,3,acc⟩=umR (bs t) sp en (p+1) ⟨sep+1,sep,quote,1,B7 acc (sub (bs t) start sep) (sub (bs t) (sep+1) p)⟩:=
 Kd h he sp hs rfl (by rw[D9 rfl,if_neg (by rintro rfl;exact hc rfl),if_pos rfl])
theorem um_3n(hs:sp.toNat<128)(hn:en.toNat<128)(h:Cd t p c d)(he:∀x:UInt8,c=(x.toNat:Int)→x≠en)(h2:¬c=34)(h1:¬c=(sp.toNat:Int)):
 umR (bs t) sp en p ⟨start,sep,quote,3,acc⟩=umR (bs t) sp en (p+d) ⟨start,sep,quote,3,acc⟩:=
 Ob hs hn h he (by simp) fun x hx=>by rw[D9 rfl,if_neg (by rintro rfl;exact h2 hx),if_neg (by rintro rfl;exact h1 hx)]
theorem um_4q(h:Cd t p 34 d)(he:∀x:UInt8,(34:Int)=(x.toNat:Int)→x≠en):
 d=1∧umR (bs t) sp en p ⟨start,sep,(q:Int),4,acc⟩=umR (bs t) sp en (p+1) ⟨start,sep,(q:Int),1,B7 acc ((bs t).drop start) (sub (bs t) (q+1) p)⟩:=
 Kd h he 34 (by decide) rfl (by rw[I6 rfl,if_pos rfl];rfl)
theorem um_4n(hs:sp.toNat<128)(hn:en.toNat<128)(h:Cd t p c d)(he:∀x:UInt8,c=(x.toNat:Int)→x≠en)(h2:¬c=34):
 umR (bs t) sp en p ⟨start,sep,(q:Int),4,acc⟩=umR (bs t) sp en (p+d) ⟨start,sep,(q:Int),4,acc⟩:=
 Ob hs hn h he (by simp) fun x hx=>by rw[I6 rfl,if_neg (by rintro rfl;exact h2 hx)]
end
theorem QR(base b o:Nat)(T:TypeId)(cs:Array Value)(l:KVs)(s:ByteArray)(sp en:UInt8)(w:World)(hT:T≠172)(hP:PAx w base b o T cs l)(hbase:base≤w.heap.size)
 (hs:s.size≤1099511627776)(N:Nat)(hN:N+s.size≤1099511627774)(hl:KSm N l)(hsp:sp.toNat<128)(hen:en.toNat<128)(hL:BW w):
 Calls Tryz.prog 142 #[.string s,.int .i32 sp.toNat,.int .i32 en.toNat,.pointer (some ⟨b,o,none⟩)] w (P8 base b o T cs l s sp en w):=by
 have HP:=Hi hP;have HK:=Hi hl;have HLAID:=Hi hL;clear hP hl hL;go_enter Tryz.func142,Tryz.ntmps142;go_wp2_with fail
 refine(QT _ _ HLAID.out).mono ?_;rintro e w1 ⟨t,htr,rfl,hle1⟩;have HTR:=Hi htr;have hts:t.size≤s.size:=by
  obtain⟨⟨k,hk,hd⟩,_,_⟩:=htr;have h:=congrArg List.length hd;rw[BD,List.length_drop,BD]at h;omega
 have HPF:=Hi ((PFr.refl base b w).le hle1 hbase);have HP1:=Hi (HP.out.le hle1);have hb1:=Nat.le_trans hbase hle1.size;have HL:=Hi (BD t);clear hle1 htr;go_wp2
 go_loopg [8,10,11,12,13] (t.size) (fun n en8 st se qu sta wr=>∃(p:Nat) (m:UM),n+p=t.size∧en8= .int .i64 t.size∧st= .int .i64 m.start∧se= .int .i64 m.sep∧qu= .int .i64 m.quote∧sta= .int .i64 m.state∧
  wr.heap[w1.heap.size]? =some (.stringIter t p)∧PAx wr base b o T cs m.acc∧PFr base b w wr∧UI p m∧KSm (N+p) m.acc∧umR (bs t) sp en p m=umR (bs t) sp en 0 ⟨0,0,-1,1,l⟩)
 case atStart=>
  refine⟨0,⟨0,0,-1,1,l⟩,by omega,rfl,rfl,rfl,rfl,rfl,World.iter_heap _ _ _,HP1.out.le ((AC _).iter t 0),HPF.out.le ((AC _).iter t 0) hbase,⟨.inl rfl,NL _,by simp,by simp,by simp⟩,HK.out,rfl⟩
 case round=>
  obtain⟨p,m,hn,rfl,rfl,rfl,rfl,rfl,hit,hpa,hpf,hui,hks,hum⟩:=hrel;obtain⟨start,sep,quote,state,acc⟩:=m;have HPA:=Hi hpa;have HPFR:=Hi hpf;have HUI:=Hi hui;have HKS:=Hi hks;have HUM:=Hi hum;have HN:gk+p≤t.size∧t.size≤gk+p:=by omega
  have hst:=hui.le;have hse:=hui.sep;have hs3:=hui.s3;have hs4:=hui.s4;have hsts:=hui.st;dsimp only at hst hse hs3 hs4 hsts⊢;clear hn hpa hpf hui hks hum;by_cases hlt:p<t.size
  ·obtain⟨c,d,W1,hnx,hst1,hit1,hW1⟩:=CY (P:=Tryz.prog) hit hlt;have HPA1:Hid (PAx W1 base b o T cs acc):=Hi (hW1▸HPA.out.iterAt hit (p+d));have HPF1:Hid (PFr base b w W1):=Hi (hW1▸HPFR.out.iterAt HPF.out.size hbase t (p+d));have HST:=Hi hst1;have HS2:1≤d∧p+d≤t.size∧0≤c∧c≤1114111:=⟨hst1.1,hst1.2.1,hst1.2.2.1,hst1.2.2.2.1⟩;have HIT1:=Hi hit1
   have HNE:=Hi (HPA1.out.ne hit1);clear hW1 hst1 hit hit1;by_cases he:c=(en.toNat:Int)
   ·subst he;obtain⟨hp,hx⟩:∃hp:p<(bs t).length,(bs t)[p]=en:=by
     obtain⟨_,_,_,_,h5⟩:=HST.out;rcases h5 with⟨hp,e,_⟩|⟨e,_⟩
     ·exact⟨hp,UInt8.toNat_inj.1 (by omega)⟩
     ·omega
    have HUE:=Hi (HUM.out.symm.trans (Kf hp hx));clear hp hx;by_cases g1:0<sep∧start<sep
    ·have hres:=Hi (FR HUE.out);rw[IA g1.1 g1.2]at hres;obtain⟨g1,g2⟩:=g1;have g3:sep<p:=hse g1;clear hs3 hs4 hsts hse;go_wp2;have i1:(0:Int)≤start:=by omega
     have i2:(start:Int)≤sep:=by omega
     have i3:(sep:Int)≤t.size:=by omega
     have i4:IntKind.i64.wrap ((sep:Int)+1)=sep+1:=IntWalk.i64_in _ (by omega);have i5:(0:Int)≤(sep:Int)+1:=by omega
     have i6:(sep:Int)+1≤p:=by omega
     have i7:((p:Nat):Int)≤t.size:=by omega
     go_still_tail 10,(by kernel_rfl)
     change wpList _ _ _ _ _ (World.drew _);have HPD:=Hi (HPA1.out.le (AC _).drew);have HFD:=Hi (HPF1.out.le (AC _).drew hbase);generalize World.drew _=W2 at HPD HFD⊢;go_wp2_with fail
     rw[Dc,Dc];refine(PAx.add HPD.out hT (Nat.le_trans hbase HFD.out.size) HKS.out (by omega) _ _).mono ?_;rintro e w3 ⟨v3,rfl,hpa3,hpf3⟩;have HPA3:=Hi hpa3;have HPF3:=Hi (HFD.out.trans' hpf3);clear hpa3 hpf3;go_wp2
     go_ret2
     exact⟨t,HTR.out,by rw[hres.out];rfl,by rw[hres.out];exact HPA3.out,HPF3.out⟩
    ·by_cases g2:sep=0∧start<p
     ·have hres:=Hi (FR HUE.out);rw[H8 g2.1 g2.2]at hres;obtain⟨rfl,g2⟩:=g2;clear hs3 hs4 hsts hse g1;go_wp2_with fail
      rw[BM];refine(PAx.add HPA1.out hT (Nat.le_trans hbase HPF1.out.size) HKS.out (by omega) _ []).mono ?_;rintro e w3 ⟨v3,rfl,hpa3,hpf3⟩;have HPA3:=Hi hpa3;have HPF3:=Hi (HPF1.out.trans' hpf3);clear hpa3 hpf3;go_wp2
      go_ret2
      exact⟨t,HTR.out,by rw[hres.out];rfl,by rw[hres.out];exact HPA3.out,HPF3.out⟩
     ·have hres:=Hi (FR HUE.out);rw[Kh g1 g2]at hres;have g3:sep=0∧p≤start∨0<sep∧sep≤start:=by omega
      clear hs3 hs4 hsts hse g1 g2;rcases g3 with⟨g1,g2⟩|⟨g1,g2⟩
      ·subst g1;go_wp2
       go_ret2
       exact⟨t,HTR.out,by rw[hres.out];rfl,by rw[hres.out];exact HPA1.out,HPF1.out⟩
      ·go_wp2
       go_ret2
       exact⟨t,HTR.out,by rw[hres.out];rfl,by rw[hres.out];exact HPA1.out,HPF1.out⟩
   ·have e0:(c==(en.toNat:Int))=false:=by simpa using he
    have hall:Hid (∀x:UInt8,c=(x.toNat:Int)→x≠en):=Hi (by rintro x hx rfl;exact he hx);clear he;rcases hsts with rfl|rfl|rfl|rfl
    ·have hU:Hid (umR (bs t) sp en (p+d) ⟨p,0,quote,2,acc⟩=umR (bs t) sp en 0 ⟨0,0,-1,1,l⟩):=by
      rw[←HUM.out];exact Hi (um_1 (m:=⟨start,sep,quote,1,acc⟩) hsp hen HST.out hall.out rfl).symm
     clear hst hse hs3 hs4;go_wp2;go_roundg (gk-d)
     case measure=>omega
     case rel=>exact⟨p+d,⟨p,0,quote,2,acc⟩,by omega,rfl,rfl,rfl,rfl,rfl,HIT1.out,HPA1.out,HPF1.out,⟨.inr (.inl rfl),by dsimp only;omega,by simp,by simp,by simp⟩,HKS.out.mono (by omega),hU.out⟩
    ·by_cases hc:c=(sp.toNat:Int)
     ·subst hc;obtain⟨hd,hU⟩:=um_2s (start:=start) (sep:=sep) (quote:=quote) (acc:=acc) (en:=en) hsp HST.out hall.out;subst hd;have hV:=Hi (hU.symm.trans HUM.out);clear hU hs3 hs4 hse;go_wp2_with fail
      rw[Dc];refine(PAx.add HPA1.out hT (Nat.le_trans hbase HPF1.out.size) HKS.out (by omega) _ []).mono ?_;rintro e w3 ⟨v3,rfl,hpa3,hpf3⟩;have HPA3:=Hi hpa3;have HPF3:=Hi (HPF1.out.trans' hpf3);have HIT3:=Hi (hpf3.iter HIT1.out HNE.out);clear hpa3 hpf3;go_wp2;go_roundg (gk-1)
      case measure=>omega
      case rel=>exact⟨p+1,⟨start,sep,quote,1,B7 acc (sub (bs t) start p) []⟩,by omega,rfl,rfl,rfl,rfl,rfl,HIT3.out,HPA3.out,HPF3.out,⟨.inl rfl,by dsimp only;omega,by simp,by simp,fun h=>Nat.lt_succ_of_lt (HUI.out.sep h)⟩,(KSm.add HKS.out (by have h1:=Ef (bs t) start p;have h2:=HL.out;omega) (by simp)).mono (by omega),hV.out⟩
     ·have e1:(c==(sp.toNat:Int))=false:=by simpa using hc
      by_cases h61:c=61
      ·subst h61;obtain⟨hd,hU⟩:=um_2e (start:=start) (sep:=sep) (quote:=quote) (acc:=acc) (sp:=sp) (en:=en) HST.out hall.out hc;subst hd;have hV:=Hi (hU.symm.trans HUM.out);clear hU hs3 hs4 hse hc;go_wp2;go_roundg (gk-1)
       case measure=>omega
       case rel=>exact⟨p+1,⟨start,p,quote,3,acc⟩,by omega,rfl,rfl,rfl,rfl,rfl,HIT1.out,HPA1.out,HPF1.out,⟨.inr (.inr (.inl rfl)),by dsimp only;omega,by simp;omega,by simp,by simp⟩,HKS.out.mono (by omega),hV.out⟩
      ·have e2:(c==61)=false:=by simpa using h61
       have hV:=Hi ((um_2n (start:=start) (sep:=sep) (quote:=quote) (acc:=acc) (sp:=sp) (en:=en) hsp hen HST.out hall.out hc h61).symm.trans HUM.out);clear hs3 hs4 hse hc h61;go_wp2;go_roundg (gk-d)
       case measure=>omega
       case rel=>exact⟨p+d,⟨start,sep,quote,2,acc⟩,by omega,rfl,rfl,rfl,rfl,rfl,HIT1.out,HPA1.out,HPF1.out,HUI.out.mono (by omega),HKS.out.mono (by omega),hV.out⟩
    ·obtain⟨h3a,h3b⟩:=hs3 rfl;by_cases h34:c=34
     ·subst h34;obtain⟨hd,hU⟩:=um_3q (start:=start) (sep:=sep) (quote:=quote) (acc:=acc) (sp:=sp) (en:=en) HST.out hall.out;subst hd;have hV:=Hi (hU.symm.trans HUM.out);clear hU hs3 hs4 hse;go_wp2;go_roundg (gk-1)
      case measure=>omega
      case rel=>exact⟨p+1,⟨start,sep,p,4,acc⟩,by omega,rfl,rfl,rfl,rfl,rfl,HIT1.out,HPA1.out,HPF1.out,⟨.inr (.inr (.inr rfl)),by dsimp only;omega,by simp,by simp;omega,fun h=>Nat.lt_succ_of_lt (HUI.out.sep h)⟩,HKS.out.mono (by omega),hV.out⟩
     ·have e1:(c==34)=false:=by simpa using h34
      by_cases hc:c=(sp.toNat:Int)
      ·subst hc;obtain⟨hd,hU⟩:=um_3s (start:=start) (sep:=sep) (quote:=quote) (acc:=acc) (sp:=sp) (en:=en) hsp HST.out hall.out h34;subst hd;have hV:=Hi (hU.symm.trans HUM.out);clear hU hs3 hs4 hse h34;go_wp2;have i1:(0:Int)≤start:=by omega
       have i2:(start:Int)≤sep:=by omega
       have i3:(sep:Int)≤t.size:=by omega
       have i4:IntKind.i64.wrap ((sep:Int)+1)=sep+1:=IntWalk.i64_in _ (by omega);have i5:(0:Int)≤(sep:Int)+1:=by omega
       have i6:(sep:Int)+1≤p:=by omega
       have i7:((p:Nat):Int)≤t.size:=by omega
       go_still_tail 10,(by kernel_rfl)
       change wpList _ _ _ _ _ (World.drew _);have HPD:=Hi (HPA1.out.le (AC _).drew);have HFD:=Hi (HPF1.out.le (AC _).drew hbase);have HID:=Hi ((AC W1).drew.heap HIT1.out);generalize World.drew _=W2 at HPD HFD HID⊢;go_wp2_with fail
       rw[Dc,Dc];refine(PAx.add HPD.out hT (Nat.le_trans hbase HFD.out.size) HKS.out (by omega) _ _).mono ?_;rintro e w3 ⟨v3,rfl,hpa3,hpf3⟩;have HPA3:=Hi hpa3;have HPF3:=Hi (HFD.out.trans' hpf3);have HIT3:=Hi (hpf3.iter HID.out HNE.out);clear hpa3 hpf3;go_wp2;go_roundg (gk-1)
       case measure=>omega
       case rel=>exact⟨p+1,⟨sep+1,sep,quote,1,B7 acc (sub (bs t) start sep) (sub (bs t) (sep+1) p)⟩,by omega,rfl,by go_num,rfl,rfl,rfl,HIT3.out,HPA3.out,HPF3.out,⟨.inl rfl,by dsimp only;omega,by simp,by simp,fun h=>Nat.lt_succ_of_lt (HUI.out.sep h)⟩,(KSm.add HKS.out (by have h1:=Ef (bs t) start sep;have h2:=HL.out;omega) (by have h1:=Ef (bs t) (sep+1) p;have h2:=HL.out;omega)).mono (by omega),hV.out⟩
      ·have e2:(c==(sp.toNat:Int))=false:=by simpa using hc
       have hV:=Hi ((um_3n (start:=start) (sep:=sep) (quote:=quote) (acc:=acc) (sp:=sp) (en:=en) hsp hen HST.out hall.out h34 hc).symm.trans HUM.out);clear hs3 hs4 hse hc h34;go_wp2;go_roundg (gk-d)
       case measure=>omega
       case rel=>exact⟨p+d,⟨start,sep,quote,3,acc⟩,by omega,rfl,rfl,rfl,rfl,rfl,HIT1.out,HPA1.out,HPF1.out,HUI.out.mono (by omega),HKS.out.mono (by omega),hV.out⟩
    ·obtain⟨h4a,h4b⟩:=hs4 rfl;obtain⟨q,rfl⟩:∃q:Nat,quote=q:=⟨quote.toNat,by omega⟩;by_cases h34:c=34
     ·subst h34;obtain⟨hd,hU⟩:=um_4q (start:=start) (sep:=sep) (q:=q) (acc:=acc) (sp:=sp) (en:=en) HST.out hall.out;subst hd;have hV:=Hi (hU.symm.trans HUM.out);clear hU hs3 hs4 hse;go_wp2;have i1:(0:Int)≤start:=by omega
      have i2:(start:Int)≤t.size:=by omega
      have i4:IntKind.i64.wrap ((q:Int)+1)=q+1:=IntWalk.i64_in _ (by omega);have i5:(0:Int)≤(q:Int)+1:=by omega
      have i6:(q:Int)+1≤p:=by omega
      have i7:((p:Nat):Int)≤t.size:=by omega
      go_still_tail 9,(by kernel_rfl)
      change wpList _ _ _ _ _ (World.drew _);have HPD:=Hi (HPA1.out.le (AC _).drew);have HFD:=Hi (HPF1.out.le (AC _).drew hbase);have HID:=Hi ((AC W1).drew.heap HIT1.out);generalize World.drew _=W2 at HPD HFD HID⊢;go_wp2_with fail
      rw[BM,Dc];refine(PAx.add HPD.out hT (Nat.le_trans hbase HFD.out.size) HKS.out (by omega) _ _).mono ?_;rintro e w3 ⟨v3,rfl,hpa3,hpf3⟩;have HPA3:=Hi hpa3;have HPF3:=Hi (HFD.out.trans' hpf3);have HIT3:=Hi (hpf3.iter HID.out HNE.out);clear hpa3 hpf3;go_wp2;go_roundg (gk-1)
      case measure=>omega
      case rel=>exact⟨p+1,⟨start,sep,q,1,B7 acc ((bs t).drop start) (sub (bs t) (q+1) p)⟩,by omega,rfl,rfl,rfl,rfl,rfl,HIT3.out,HPA3.out,HPF3.out,⟨.inl rfl,by dsimp only;omega,by simp,by simp,fun h=>Nat.lt_succ_of_lt (HUI.out.sep h)⟩,(KSm.add HKS.out (by have h2:=HL.out;simp only[List.length_drop];omega) (by have h1:=Ef (bs t) (q+1) p;have h2:=HL.out;omega)).mono (by omega),hV.out⟩
     ·have e1:(c==34)=false:=by simpa using h34
      have hV:=Hi ((um_4n (start:=start) (sep:=sep) (q:=q) (acc:=acc) (sp:=sp) (en:=en) hsp hen HST.out hall.out h34).symm.trans HUM.out);clear hs3 hs4 hse h34;go_wp2;go_roundg (gk-d)
      case measure=>omega
      case rel=>exact⟨p+d,⟨start,sep,q,4,acc⟩,by omega,rfl,rfl,rfl,rfl,rfl,HIT1.out,HPA1.out,HPF1.out,HUI.out.mono (by omega),HKS.out.mono (by omega),hV.out⟩
  ·have hnx:=fun ty=>Lib.run_next_end_at (P:=Tryz.prog) wr _ t p ty hit hlt;clear hit;have HUE:=Hi (HUM.out.symm.trans (Kg (by rw[HL.out];omega)));have hpz:p≤t.size:=by omega
   rw[HL.out]at HUE;by_cases g1:0<sep∧start<sep
   ·have hres:=Hi (FR HUE.out);rw[IA g1.1 g1.2]at hres;obtain⟨g1,g2⟩:=g1;have g3:sep<t.size:=Nat.lt_of_lt_of_le (hse g1) hpz;clear hs3 hs4 hsts hse;go_wp2;have i1:(0:Int)≤start:=by omega
    have i2:(start:Int)≤sep:=by omega
    have i3:(sep:Int)≤t.size:=by omega
    have i4:IntKind.i64.wrap ((sep:Int)+1)=sep+1:=IntWalk.i64_in _ (by omega);have i5:(0:Int)≤(sep:Int)+1:=by omega
    have i6:(sep:Int)+1≤t.size:=by omega
    have i7:((t.size:Nat):Int)≤t.size:=by omega
    go_still_tail 10,(by kernel_rfl)
    change wpList _ _ _ _ _ (World.drew _);have HPD:=Hi (HPA.out.le (AC _).drew);have HFD:=Hi (HPFR.out.le (AC _).drew hbase);generalize World.drew _=W2 at HPD HFD⊢;go_wp2_with fail
    rw[Dc,Dc];refine(PAx.add HPD.out hT (Nat.le_trans hbase HFD.out.size) HKS.out (by omega) _ _).mono ?_;rintro e w3 ⟨v3,rfl,hpa3,hpf3⟩;have HPA3:=Hi hpa3;have HPF3:=Hi (HFD.out.trans' hpf3);clear hpa3 hpf3;go_wp2
    go_ret2
    exact⟨t,HTR.out,by rw[hres.out];rfl,by rw[hres.out];exact HPA3.out,HPF3.out⟩
   ·by_cases g2:sep=0∧start<t.size
    ·have hres:=Hi (FR HUE.out);rw[H8 g2.1 g2.2]at hres;obtain⟨rfl,g2⟩:=g2;clear hs3 hs4 hsts hse g1;go_wp2_with fail
     rw[BM];refine(PAx.add HPA.out hT (Nat.le_trans hbase HPFR.out.size) HKS.out (by omega) _ []).mono ?_;rintro e w3 ⟨v3,rfl,hpa3,hpf3⟩;have HPA3:=Hi hpa3;have HPF3:=Hi (HPFR.out.trans' hpf3);clear hpa3 hpf3;go_wp2
     go_ret2
     exact⟨t,HTR.out,by rw[hres.out];rfl,by rw[hres.out];exact HPA3.out,HPF3.out⟩
    ·have hres:=Hi (FR HUE.out);rw[Kh g1 g2]at hres;have g3:sep=0∧t.size≤start∨0<sep∧sep≤start:=by omega
     clear hs3 hs4 hsts hse g1 g2;rcases g3 with⟨g1,g2⟩|⟨g1,g2⟩
     ·subst g1;go_wp2
      go_ret2
      exact⟨t,HTR.out,by rw[hres.out];rfl,by rw[hres.out];exact HPA.out,HPFR.out⟩
     ·go_wp2
      go_ret2
      exact⟨t,HTR.out,by rw[hres.out];rfl,by rw[hres.out];exact HPA.out,HPFR.out⟩
end Go.Proofs.YtejhpdcjafbklaaGreatDoor
