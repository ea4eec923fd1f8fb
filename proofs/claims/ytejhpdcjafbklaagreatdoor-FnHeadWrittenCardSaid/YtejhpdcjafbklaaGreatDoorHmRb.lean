/- The law FnHeadWritten: HvU Ipr HmP HmHd HmTo HmFr HmCo HmRb. -/
import Derived.Test.YtejhpdcjafbklaaGreatDoorHvy
set_option linter.all false
set_option maxHeartbeats 16000000
set_option maxRecDepth 8000
namespace Go.Proofs.YtejhpdcjafbklaaGreatDoor
open Go.RowKit
def HvN(l:KVs)(v:Value):Prop:=∃k:Nat,v= .int .i64 (k:Int)∧(k≤8192→hvN l l.length≤k)∧k≤1125899906842624
def HvT(u:PU)(n0:Nat)(v:Value):Prop:=∃k1 k2:Nat,v= .int .i64 ((n0:Int)+(k1:Int)+(k2:Int))∧HvN u.ps (.int .i64 (k1:Int))∧HvN u.hs (.int .i64 (k2:Int))
structure HvS(u:PU):Prop where
 scheme:u.scheme.length≤8192
 raw:u.raw.length≤8192
 user:u.user.length≤8192
 pass:u.pass.length≤8192
 host:u.host.length≤8192
 ps:hvN u.ps u.ps.length≤8192
 hs:hvN u.hs u.hs.length≤8192
def QE(u:PU)(w:World)(e:Ending)(w':World):Prop:=∃n:Nat,e= .returned (.int .i64 n)∧(n≤8192→HvS u)∧Le w w'∧n≤9007199254740992
def huS(w:World)(u:PU)(Aps Ahs:Option Addr)(cps chs n0:Nat):Nat→Value→World→Prop
 |1,v,_=>v=(.pointer (some ⟨w.heap.size,0,none⟩))
 |2,v,w_=>HvT u n0 v
 |3,v,_=>v= .int .i64 (n0:Int)
 |23,v,_=>v= .int .i64 (n0:Int)
 |24,v,_=>v=(.pointer (some ⟨w.heap.size,8,none⟩))
 |25,v,_=>v=(.slice Aps u.ps.length cps)
 |26,v,w_=>HvN u.ps v
 |27,v,w_=>∃k:Nat,v= .int .i64 ((n0:Int)+(k:Int))∧HvN u.ps (.int .i64 (k:Int))
 |28,v,_=>v=(.pointer (some ⟨w.heap.size,9,none⟩))
 |29,v,_=>v=(.slice Ahs u.hs.length chs)
 |30,v,w_=>HvN u.hs v
 |31,v,w_=>HvT u n0 v
 |_,_,_=>True
theorem OB(w:World)(u:PU)(Aps Ahs:Option Addr)(cps chs n0:Nat)(t:Nat)(v:Value)(w1 w2:World)(k:Le w1 w2)(h:huS w u Aps Ahs cps chs n0 t v w1):huS w u Aps Ahs cps chs n0 t v w2:=by
 unfold huS at h⊢;split at h<;>first|exact h|exact h
theorem KG(w:World)(x:UV)(u:PU)(hx:Uq (fun _=>True) w x u):Calls Tryz.prog 14 #[x.val] w (QE u w):=by
 have HX:=Hi hx;obtain⟨Ascheme,cscheme,escheme⟩:=hx.scheme.1.form;obtain⟨Araw,craw,eraw⟩:=hx.raw.1.form;obtain⟨Auser,cuser,euser⟩:=hx.user.1.form;obtain⟨Apass,cpass,epass⟩:=hx.pass.1.form;obtain⟨Ahost,chost,ehost⟩:=hx.host.1.form;obtain⟨Aps,cps,eps⟩:∃A c,x.ps= .slice A u.ps.length c:=by obtain⟨A,c,e,_⟩:=hx.ps;exact⟨A,c,e⟩
 obtain⟨Ahs,chs,ehs⟩:∃A c,x.hs= .slice A u.hs.length c:=by obtain⟨A,c,e,_⟩:=hx.hs;exact⟨A,c,e⟩
 have bl:∀{v:Value} {l:Tx},Bv w v l→l.length≤140737488355328:=fun h=>by obtain⟨_,_,_,_,_,k⟩:=h;exact k.1
 have b1:=bl hx.scheme.1;have b2:=bl hx.raw.1;have b3:=bl hx.user.1;have b4:=bl hx.pass.1;have b5:=bl hx.host.1
 have hval:x.val= .agg #[.slice Ascheme u.scheme.length cscheme,.slice Araw u.raw.length craw,.bool x.wild,.bool x.slash,.slice Auser u.user.length cuser,.slice Apass u.pass.length cpass,.slice Ahost u.host.length chost,.int .i64 x.port,.slice Aps u.ps.length cps,.slice Ahs u.hs.length chs]:=by
  unfold UV.val;rw[escheme,eraw,euser,epass,ehost,eps,ehs]
 have HKPS:Hid (Kq (fun _=>True) w (.slice Aps u.ps.length cps) u.ps∧Kq (fun _=>True) w (.slice Ahs u.hs.length chs) u.hs):=Hi (by
  rw[←eps,←ehs];exact⟨hx.ps,hx.hs⟩)
 rw[hval];clear hval hx escheme eraw euser epass ehost eps ehs bl;go_enter Tryz.func14,Tryz.ntmps14;go_upto_region 1 with fail
 have HB0:=Hi (heap_alloc_new w (Obj.cells #[.slice Ascheme u.scheme.length cscheme,.slice Araw u.raw.length craw,.bool x.wild,.bool x.slash,.slice Auser u.user.length cuser,.slice Apass u.pass.length cpass,.slice Ahost u.host.length chost,.int .i64 x.port,.slice Aps u.ps.length cps,.slice Ahs u.hs.length chs] 25))
 have HLE1:Hid (Le w (w.alloc (Obj.cells #[.slice Ascheme u.scheme.length cscheme,.slice Araw u.raw.length craw,.bool x.wild,.bool x.slash,.slice Auser u.user.length cuser,.slice Apass u.pass.length cpass,.slice Ahost u.host.length chost,.int .i64 x.port,.slice Aps u.ps.length cps,.slice Ahs u.hs.length chs] 25))):=Hi ((AC w).alloc _)
 generalize w.alloc (Obj.cells #[.slice Ascheme u.scheme.length cscheme,.slice Araw u.raw.length craw,.bool x.wild,.bool x.slash,.slice Auser u.user.length cuser,.slice Apass u.pass.length cpass,.slice Ahost u.host.length chost,.int .i64 x.port,.slice Aps u.ps.length cps,.slice Ahs u.hs.length chs] 25)=W1 at HB0 HLE1⊢
 generalize Value.agg #[.slice Ascheme u.scheme.length cscheme,.slice Araw u.raw.length craw,.bool x.wild,.bool x.slash,.slice Auser u.user.length cuser,.slice Apass u.pass.length cpass,.slice Ahost u.host.length chost,.int .i64 x.port,.slice Aps u.ps.length cps,.slice Ahs u.hs.length chs]=ag;have y0:W1.cell? ⟨w.heap.size,0,none⟩=some (.slice Ascheme u.scheme.length cscheme):=AB HB0.out 0
 have y1:W1.cell? ⟨w.heap.size,1,none⟩=some (.slice Araw u.raw.length craw):=AB HB0.out 1;have y4:W1.cell? ⟨w.heap.size,4,none⟩=some (.slice Auser u.user.length cuser):=AB HB0.out 4;have y5:W1.cell? ⟨w.heap.size,5,none⟩=some (.slice Apass u.pass.length cpass):=AB HB0.out 5;have y6:W1.cell? ⟨w.heap.size,6,none⟩=some (.slice Ahost u.host.length chost):=AB HB0.out 6
 have Y8:Hid (W1.cell? ⟨w.heap.size,8,none⟩=some (.slice Aps u.ps.length cps)):=Hi (AB HB0.out 8);have Y9:Hid (W1.cell? ⟨w.heap.size,9,none⟩=some (.slice Ahs u.hs.length chs)):=Hi (AB HB0.out 9);have HKP:=Hi (HKPS.out.1.le HLE1.out);have HKH:=Hi (HKPS.out.2.le HLE1.out)
 obtain⟨n0,hn0⟩:∃n0:Nat,n0=u.scheme.length+u.raw.length+u.user.length+u.pass.length+u.host.length:=⟨_,rfl⟩;have HNE:=Hi hn0;have HN0:Hid (n0≤1125899906842624):=Hi (by omega);have hsum:(u.scheme.length:Int)+(u.raw.length:Int)+(u.user.length:Int)+(u.pass.length:Int)+(u.host.length:Int)=(n0:Int):=by omega
 clear hn0 HB0;go_upto_region 2 with fail
 clear hsum y0 y1 y4 y5 y6 b1 b2 b3 b4 b5;have hm_hu:(Tryz.prog).follows .mixedOrders=true:=by kernel_rfl
 refine G2.wp_region_grow_put (huS w u Aps Ahs cps chs n0) (fun _ _=>True) ((Le W1)) 32 [23,24,25,26,27,28,29,30,31,2] hm_hu (by kernel_rfl) rfl rfl ?hG_hu ?hold_hu ?hs_hu ?hend_hu;case hG_hu=>exact(AC W1).drew
 case hold_hu=>
  intro t ht;simp only[List.mem_cons,List.mem_nil_iff,or_false,not_or]at ht;unfold huS;split<;>first|rfl|trivial|(exfalso;simp at ht)
 case hs_hu=>
  refine⟨?_,?_,?_,?_,?_,?_,?_,?_,?_,?_,trivial⟩
  ·refine .free (AA ?_) rfl;intro a W hg hop;have h3:_=_:=hq hop 3;have h3':=tg h3;refine⟨_,?_,rfl⟩;simp only[execOp,h3];go_simp
  ·refine .free (AA ?_) rfl;intro a W hg hop;have h1:_=_:=hq hop 1;have h1':=tg h1;refine⟨_,?_,rfl⟩;simp only[execOp,h1];go_simp
  ·refine .free (AA ?_) rfl;intro a W hg hop;have h24:_=_:=hq hop 24;have h24':=tg h24;have hc:W.cell? ⟨w.heap.size,8,none⟩=some (.slice Aps u.ps.length cps):=hg.cell Y8.out;refine⟨_,?_,rfl⟩;simp only[execOp,h24];go_simp
  ·refine .free (AG ?_ ?_ ?_ ?_) rfl
   ·exact fun t v w1 w2 k h=>OB w u Aps Ahs cps chs n0 t v w1 w2 k h
   ·exact fun _ _ _ _ h=>h
   ·exact fun w1 w2 k h=>Le.trans h k
   ·intro a W hg hop;have h25:_=_:=hq hop 25;have h25':=tg h25;refine⟨15,#[(.slice Aps u.ps.length cps)],?_,(Il _ (.slice Aps u.ps.length cps) u.ps W (HKP.out.le hg)).mono ?_⟩
    ·simp only[execOp,h25];go_simp
    ·rintro e w' ⟨n,rfl,h1,h2,hle⟩;exact⟨_,rfl,hle,n,rfl,h1,h2⟩
  ·refine .free (AA ?_) rfl;intro a W hg hop;have h23:_=_:=hq hop 23;have h23':=tg h23;have h26:HvN u.ps (a.eval (.tmp 26)):=(hq hop 26);obtain⟨k6,e6,b1,b2⟩:=h26;have e6':=tg e6;have hn0:=HN0.out;refine⟨.int .i64 ((n0:Int)+(k6:Int)),?_,⟨k6,rfl,k6,rfl,b1,b2⟩⟩;simp only[execOp,h23,e6];go_simp;exact IntWalk.i64_in _ (by omega)
  ·refine .free (AA ?_) rfl;intro a W hg hop;have h1:_=_:=hq hop 1;have h1':=tg h1;refine⟨_,?_,rfl⟩;simp only[execOp,h1];go_simp
  ·refine .free (AA ?_) rfl;intro a W hg hop;have h28:_=_:=hq hop 28;have h28':=tg h28;have hc:W.cell? ⟨w.heap.size,9,none⟩=some (.slice Ahs u.hs.length chs):=hg.cell Y9.out;refine⟨_,?_,rfl⟩;simp only[execOp,h28];go_simp
  ·refine .free (AG ?_ ?_ ?_ ?_) rfl
   ·exact fun t v w1 w2 k h=>OB w u Aps Ahs cps chs n0 t v w1 w2 k h
   ·exact fun _ _ _ _ h=>h
   ·exact fun w1 w2 k h=>Le.trans h k
   ·intro a W hg hop;have h29:_=_:=hq hop 29;have h29':=tg h29;refine⟨15,#[(.slice Ahs u.hs.length chs)],?_,(Il _ (.slice Ahs u.hs.length chs) u.hs W (HKH.out.le hg)).mono ?_⟩
    ·simp only[execOp,h29];go_simp
    ·rintro e w' ⟨n,rfl,h1,h2,hle⟩;exact⟨_,rfl,hle,n,rfl,h1,h2⟩
  ·refine .free (AA ?_) rfl;intro a W hg hop;have h27:∃k:Nat,(a.eval (.tmp 27))= .int .i64 ((n0:Int)+(k:Int))∧HvN u.ps (.int .i64 (k:Int)):=(hq hop 27);have h30:HvN u.hs (a.eval (.tmp 30)):=(hq hop 30);obtain⟨k6,e6,k6',ek,b1,b2⟩:=h27;obtain⟨k7,e7,b3,b4⟩:=h30;injection ek with _ ek
   obtain rfl:k6=k6':=by omega
   have e6':=tg e6;have e7':=tg e7;have hn0:=HN0.out;refine⟨.int .i64 ((n0:Int)+(k6:Int)+(k7:Int)),?_,⟨k6,k7,rfl,⟨k6,rfl,b1,b2⟩,⟨k7,rfl,b3,b4⟩⟩⟩;simp only[execOp,e6,e7];go_simp;exact IntWalk.i64_in _ (by omega)
  ·refine .free (AA ?_) rfl;intro a W hg hop;have h31:HvT u n0 (a.eval (.tmp 31)):=(hq hop 31);obtain⟨k6,k7,e6,b1,b2⟩:=h31;have e6':=tg e6;refine⟨.int .i64 ((n0:Int)+(k6:Int)+(k7:Int)),?_,⟨k6,k7,rfl,b1,b2⟩⟩;simp only[execOp,e6];go_simp
 case hend_hu=>
  intro s_ wz hg hS hZ;obtain⟨k6,k7,e2,⟨k6',f6,b1,b2⟩,⟨k7',f7,b3,b4⟩⟩:HvT u n0 (s_ 2):=hS 2 (by decide);injection f6 with _ f6
  injection f7 with _ f7
  obtain rfl:k6=k6':=by omega
  obtain rfl:k7=k7':=by omega
  have HLZ:=Hi (show Le W1 wz from hg);have HB:=Hi (⟨b1,b3,b2,b4⟩:_∧_∧_∧_);clear hS hZ hg f6 f7 b1 b2 b3 b4;simp only[Aj,Act.put,List.setIfInBounds_toArray,List.set_cons_zero,List.set_cons_succ];rw[e2];go_wp2;go_ret;refine⟨n0+k6+k7,by push_cast;rfl,fun hle=>?_,HLE1.out.trans HLZ.out,by have:=HN0.out;have:=HB.out.2.2.1;have:=HB.out.2.2.2;omega⟩;have h1:=HB.out.1 (by omega)
  have h2:=HB.out.2.1 (by omega);have h0:=HNE.out;exact⟨by omega,by omega,by omega,by omega,by omega,by omega,by omega⟩
theorem Hc{l:KVs}(h:hvN l l.length≤8192):l.length≤8192∧∀x∈l,x.1.length≤8192∧x.2.length≤8192:=
 ⟨Nat.le_trans (Pb l _) h,fun x hx=>by have:=Lj hx;omega⟩
theorem Pa{l:KVs}(h:hvN l l.length≤8192)(sep:UInt8):∀k≤l.length,(ptP l sep k).length≤100000000:=by
 intro k hk;have h1:=Hc h;have h2:∀x∈l,x.1.length+x.2.length≤8192:=fun x hx=>by have:=Lj hx;omega
 have h3:=O6 (sep:=sep) h2 k hk;have h4:k*(8192+2)≤8192*(8192+2):=Nat.mul_le_mul_right _ (by omega);omega
theorem hv_sz{u:PU}(h:HvS u)(lo: -9223372036854775808≤u.port)(hi:u.port≤9223372036854775807):SzS u:=
 ⟨by have:=h.scheme;omega,by have:=h.raw;omega,by have:=h.user;omega,by have:=h.pass;omega,by have:=h.host;omega,lo,hi,Pa h.ps 59,Pa h.hs 38,
  fun x hx=>by have:=(Hc h.ps).2 x hx;omega,fun x hx=>by have:=(Hc h.hs).2 x hx;omega⟩
theorem Ja{u:PU}(h:HvS u)(lo: -9223372036854775808≤u.port)(hi:u.port≤9223372036854775807):u.small:=
 ⟨by have:=h.scheme;omega,by have:=h.raw;omega,by have:=h.user;omega,by have:=h.pass;omega,by have:=h.host;omega,lo,hi⟩
theorem Li{l:KVs}(h:hvN l l.length≤8192):KSm 1099511627775 l:=⟨by have:=(Hc h).1;omega,fun x hx=>by have:=(Hc h).2 x hx;omega⟩
theorem Gh{l:KVs}(h:hvN l l.length≤8192)(sep:UInt8):(l.flatMap (Ae sep)).length≤1099511627776:=by
 have h1:=gFlat sep l (Hc h).2;have h2:=(Hc h).1;omega
structure HvP(p:PH):Prop where
 name:p.name.length≤8192
 text:p.text.length≤8192
 disp:p.disp.length≤8192
 uri:HvS p.uri
 ulo: -9223372036854775808≤p.uri.port
 uhi:p.uri.port≤9223372036854775807
 ps:hvN p.ps p.ps.length≤8192
 num:p.num<4294967296
 proto:p.proto.length≤8192
 ver:p.ver.length≤8192
 tr:p.tr.length≤8192
 host:p.host.length≤8192
 lo: -9223372036854775808≤p.port
 hi:p.port≤9223372036854775807
structure GvZ(v:PU):Prop where
 sz:SzS v
 small:v.small
 lp:(v.ps.flatMap (Ae 59)).length≤1099511627776
 lh:(v.hs.flatMap (Ae 38)).length≤1099511627776
structure HvN0(v:PU):Prop where
 user:v.user=[]
 pass:v.pass=[]
 host:v.host=[]
 port:v.port=0
 ps:v.ps=[]
 hs:v.hs=[]
theorem MC{u v:PU}(h:HvS u)(lo: -9223372036854775808≤u.port)(hi:u.port≤9223372036854775807)(hg:gv u=some v):GvZ v:=by
 by_cases hr:u.raw=[]
 ·have e:u=v:=by unfold gv at hg;rw[if_pos hr]at hg;exact Option.some.inj hg
  subst e;exact⟨hv_sz h lo hi,Ja h lo hi,Gh h.ps 59,Gh h.hs 38⟩
 ·obtain⟨e,h1,h2,_⟩:=RI hg hr;have h3:=h.scheme;have h4:=h.raw;have h5:v.scheme.length≤16385:=by omega
  have h6:v.raw.length≤16385:=by omega
  have hz:HvN0 v:=by rw[e];exact⟨rfl,rfl,rfl,rfl,rfl,rfl⟩
  refine⟨⟨by omega,by omega,by rw[hz.user];decide,by rw[hz.pass];decide,by rw[hz.host];decide,by rw[hz.port];decide,by rw[hz.port];decide,?_,?_,?_,?_⟩,⟨by omega,by omega,by rw[hz.user];decide,by rw[hz.pass];decide,by rw[hz.host];decide,by rw[hz.port];decide,by rw[hz.port];decide⟩,by rw[hz.ps];decide,by rw[hz.hs];decide⟩
  ·rw[hz.ps];intro k hk;obtain rfl:k=0:=by simpa using hk
   decide
  ·rw[hz.hs];intro k hk;obtain rfl:k=0:=by simpa using hk
   decide
  ·rw[hz.ps];intro x hx;cases hx
  ·rw[hz.hs];intro x hx;cases hx
theorem HvP.hsz{p:PH}(h:HvP p){v:PU}(hg:gv p.uri=some v):HSz {p with uri:=v}:=by
 have z:=MC h.uri h.ulo h.uhi hg
 refine⟨by have:=h.name;show p.name.length≤_;omega,by have:=h.text;show p.text.length≤_;omega,by have:=h.disp;show p.disp.length≤_;omega,z.sz,by have:=Oh z.sz;show(CK v).length≤_;omega,
  Pa h.ps 59,fun x hx=>by have:=(Hc h.ps).2 x hx;omega,h.num,by have:=h.proto;show p.proto.length≤_;omega,by have:=h.ver;show p.ver.length≤_;omega,by have:=h.tr;show p.tr.length≤_;omega,
  by have:=h.host;show p.host.length≤_;omega,h.lo,h.hi⟩
theorem HvP.iaz{p:PH}(h:HvP p):IaZ p.uri:=⟨Ja h.uri h.ulo h.uhi,Li h.uri.ps,Li h.uri.hs,by have:=h.uri.scheme;have:=h.uri.raw;simp only[LA,LC];omega⟩
theorem HvP.adz{p:PH}(h:HvP p){v:PU}(hr:Rgt p v)(ht:BP p.t∨Et p.t)(d:Tx)(hd:d.length≤8192)(l:KVs)(hl:hvN l l.length≤8192):AdZ d v l:=by
 have z:=MC h.uri h.ulo h.uhi hr.gv;have hk:=hr.kn ht;exact⟨by omega,by rw[hk.text];have:=Oh z.sz;omega,hk.host.no,z.lp,z.lh,Gh hl 59⟩
theorem HvP.viz{p:PH}(h:HvP p){v:PU}(hr:Rgt p v)(ht:p.t=9):ViZ p.proto p.ver p.tr p.host p.port p.ps:=
 ⟨by have:=h.proto;omega,by have:=h.ver;omega,by have:=h.tr;omega,by have:=h.host;omega,(hr.host ht).no,h.lo,h.hi,Gh h.ps 59⟩
theorem Cz{p:PH}{v:PU}{V N:Tx}{t:Int}(ht:p.t=t)(h0:0<t∧t≤14)(hv:vTx p v=V)(hN:nmT t=N):hTx p v=N++(58::32::V):=by
 unfold hTx nTx;rw[ht,if_pos h0,hv,hN]
theorem vAd{p:PH}{v:PU}(hr:Rgt p v)(ht:BP p.t):vTx p v=kAd p.disp v p.ps:=by
 unfold vTx;rw[if_pos ht,Q7 (hr.kn (.inl ht)) (hr.ps (.inl ht))]
theorem vRt{p:PH}{v:PU}(hr:Rgt p v)(ht:Et p.t):vTx p v=kRt v:=by
 have hk:=(hr.kn (.inr ht)).text;unfold vTx kRt brT;rcases ht with h|h|h<;>rw[h]<;>simp[BP,Et,hk]
theorem vVi{p:PH}{v:PU}(hr:Rgt p v)(ht:p.t=9):vTx p v=vkT p.proto p.ver p.tr p.host p.port p.ps:=by
 rw[←QK,Q3 (hr.ps (.inr ht))];unfold vTx;rw[ht];simp[BP]
theorem vNu{p:PH}{v:PU}(ht:p.t=6∨p.t=7∨p.t=8):vTx p v=Lib.itoa p.num:=by
 unfold vTx;rw[Lib.itoa_nonneg];rcases ht with h|h|h<;>rw[h]<;>simp[BP]
theorem vTe{p:PH}{v:PU}(ht:p.t=4∨p.t=10∨p.t=0):vTx p v=p.text:=by
 unfold vTx;rcases ht with h|h|h<;>rw[h]<;>simp[BP,Et]
theorem vCs{p:PH}{v:PU}(ht:p.t=5):vTx p v=Dp p.num p.text:=by
 unfold vTx Dp;rw[ht,Lib.itoa_nonneg];simp[BP]
theorem hGe{p:PH}{v:PU}(ht:p.t=0):hTx p v=p.name++(58::32::p.text):=by
 unfold hTx nTx;rw[vTe (.inr (.inr ht)),ht];rfl
theorem IQ(w:World)(n m:Tx):
 Calls Tryz.prog 46 #[.string (st n),.string (st m)] w fun e w'=>∃g,e= .returned (.iface 150 (.pointer (some ⟨g,0,none⟩)))∧w'.cell? ⟨g,0,none⟩=some (.string (st n))∧w'.cell? ⟨g,1,none⟩=some (.string (st m))∧Le w w':=by
 go_enter Tryz.func46,Tryz.ntmps46;go_wp2;go_ret;exact⟨_,rfl,AB (heap_alloc_new w _) 0,AB (heap_alloc_new w _) 1,(AC w).alloc _⟩
theorem Im(ψ:Nat→Prop)(x:HV)(p:PH)(u1:PU)(w:World)(hx:Hz ψ w x p)(hgv:gv p.uri=some u1)(hw:u1.wild=false)(hsm:u1.small)(hz:IaZ p.uri)(hkl:KSm 1099511627775 p.ps)(ht:0≤p.t∧p.t≤14)(hL:BW w):
 Calls Tryz.prog 26 #[x.val] w fun e w'=>∃r,e= .returned r∧Dv p u1 w' r∧Le w w':=by
 obtain⟨xt,xn,xx,xd,xu,xp,xm,x1,x2,x3,x4,xo⟩:=x;obtain rfl:xt=p.t:=hx.t;obtain rfl:xm=p.num:=hx.num;obtain⟨An,cn,rfl⟩:=(show Bv w xn p.name from hx.name).form;obtain⟨At,ct,rfl⟩:=(show Bv w xx p.text from hx.text).form;have HX:=Hi hx;have HA:=Hi (⟨hgv,hw,hsm,hz,hkl,ht⟩:_∧_∧_∧_∧_∧_);have HLL:=Hi hL;clear hx hgv hw hsm hz hkl ht hL
 change Calls _ _ #[.agg (HV.row ⟨p.t,.slice An p.name.length cn,.slice At p.text.length ct,xd,xu,xp,p.num,x1,x2,x3,x4,xo⟩)] _ _;obtain⟨XR,hXR⟩:∃R:Array Value,R=HV.row ⟨p.t,.slice An p.name.length cn,.slice At p.text.length ct,xd,xu,xp,p.num,x1,x2,x3,x4,xo⟩:=⟨_,rfl⟩;rw[←hXR];have HXR:=Hi hXR;have hsz:XR.size=21:=by rw[hXR];rfl
 have HSZ:=Hi hsz;clear hXR hsz;go_enter Tryz.func26,Tryz.ntmps26;go_upto_region 1 with fail
 change Code.wp _ _ _ _ (w.alloc (Obj.cells XR 28));have HB:=Hi (heap_alloc_new w (Obj.cells XR 28));have HL0:Hid (Le w (w.alloc (Obj.cells XR 28))):=Hi ((AC w).alloc _);generalize w.alloc (Obj.cells XR 28)=W0 at HB HL0⊢;obtain⟨b,hb⟩:∃b,b=w.heap.size:=⟨_,rfl⟩;rw[←hb]at HB⊢;clear hb
 go_wp2_with (refine wpList_load_row rfl 28 (.tmp 1) rfl b rfl 28 XR (0,0) _ HB.out Tryz.underlying28 rfl (by rw[HSZ.out];exact Be) ?_)
 have HVAL:Hid ((.agg XR:Value)=HV.val ⟨p.t,.slice An p.name.length cn,.slice At p.text.length ct,xd,xu,xp,p.num,x1,x2,x3,x4,xo⟩):=Hi (by rw[HXR.out];rfl);rw[HVAL.out]
 refine(LP ψ ⟨p.t,.slice An p.name.length cn,.slice At p.text.length ct,xd,xu,xp,p.num,x1,x2,x3,x4,xo⟩ p u1 W0 (HX.out.le HL0.out) HA.out.1 HA.out.2.1 HA.out.2.2.1 HA.out.2.2.2.1 HA.out.2.2.2.2.1 HA.out.2.2.2.2.2 (HLL.out.le HL0.out)).mono ?_;rintro e W1 ⟨r,rfl,hM,hN,hle1⟩;have HL1:Hid (Le w W1):=Hi (HL0.out.trans hle1)
 have HR1:Hid (W1.heap[b]? =some (.cells (HV.row ⟨p.t,.slice An p.name.length cn,.slice At p.text.length ct,xd,xu,xp,p.num,x1,x2,x3,x4,xo⟩) 28 (0,0))):=Hi (by rw[←HXR.out];exact hle1.heap HB.out);have HBT:Hid (Bv W1 (.slice At p.text.length ct) p.text):=Hi (HX.out.text.le HL1.out);have HBN:Hid (Bv W1 (.slice An p.name.length cn) p.name):=Hi (HX.out.name.le HL1.out);clear hle1
 by_cases hm:(p.t=1∨p.t=2∨p.t=3∨p.t=9∨p.t=11∨p.t=12∨p.t=13∨p.t=14)
 ·have h1:=hM hm;obtain⟨T,pv,rfl⟩:∃T pv,r= .iface T pv:=by cases h1<;>exact⟨_,_,rfl⟩
  have H1:=Hi h1;clear h1 hM hN hm;go_wp2;go_ret;exact⟨_,rfl,H1.out,HL1.out⟩
 ·obtain rfl:=hN hm;have htt:p.t=0∨p.t=4∨p.t=5∨p.t=6∨p.t=7∨p.t=8∨p.t=10:=by have:=HA.out.2.2.2.2.2;omega
  clear hM hN hm;rcases htt with htt|htt
  ·have HTP:Hid (p.t=0):=Hi htt;have g0:W1.cell? ⟨b,0,none⟩=some (.int .i64 0):=by rw[AB HR1.out 0,←htt];rfl
   clear htt;have g1:W1.cell? ⟨b,1,none⟩=some (.slice An p.name.length cn):=AB HR1.out 1;have g2:W1.cell? ⟨b,2,none⟩=some (.slice At p.text.length ct):=AB HR1.out 2;have hc:=BT (P:=Tryz.prog) Tryz.underlying22 Tryz.underlying5 Tryz.underlying9 HBT.out;have hc1:=BT (P:=Tryz.prog) Tryz.underlying22 Tryz.underlying5 Tryz.underlying9 HBN.out;go_wp2_with fail
   refine(IQ W1 p.name p.text).mono ?_;rintro e W2 ⟨g,rfl,h1,h2,hle2⟩;have HG:=Hi (And.intro h1 h2);have HL2:=Hi hle2;clear h1 h2 hle2;go_wp2;go_ret;exact⟨_,rfl,Dv.hge _ HTP.out HG.out,HL1.out.trans HL2.out⟩
  rcases htt with htt|htt
  ·have HTP:Hid (p.t=4):=Hi htt;have g0:W1.cell? ⟨b,0,none⟩=some (.int .i64 4):=by rw[AB HR1.out 0,←htt];rfl
   clear htt;have g2:W1.cell? ⟨b,2,none⟩=some (.slice At p.text.length ct):=AB HR1.out 2;have hc:=BT (P:=Tryz.prog) Tryz.underlying22 Tryz.underlying5 Tryz.underlying92 HBT.out;go_wp2;go_ret;exact⟨_,rfl,Dv.hci _ HTP.out (by first|exact AB (heap_alloc_new _ _) 0|simp),by first|exact HL1.out.alloc _|skip⟩
  rcases htt with htt|htt
  ·have HTP:Hid (p.t=5):=Hi htt;have g0:W1.cell? ⟨b,0,none⟩=some (.int .i64 5):=by rw[AB HR1.out 0,←htt];rfl
   clear htt;have g2:W1.cell? ⟨b,2,none⟩=some (.slice At p.text.length ct):=AB HR1.out 2;have g15:W1.cell? ⟨b,15,none⟩=some (.int .u32 p.num):=AB HR1.out 15;have hc:=BT (P:=Tryz.prog) Tryz.underlying22 Tryz.underlying5 Tryz.underlying95 HBT.out;go_wp2;go_ret;exact⟨_,rfl,Dv.hcs _ HTP.out (heap_alloc_new W1 _),HL1.out.alloc _⟩
  rcases htt with htt|htt
  ·have HTP:Hid (p.t=6):=Hi htt;have g0:W1.cell? ⟨b,0,none⟩=some (.int .i64 6):=by rw[AB HR1.out 0,←htt];rfl
   clear htt;have g15:W1.cell? ⟨b,15,none⟩=some (.int .u32 p.num):=AB HR1.out 15;go_wp2;go_ret;exact⟨_,rfl,Dv.hmf _ HTP.out (by first|exact AB (heap_alloc_new _ _) 0|simp),by first|exact HL1.out.alloc _|skip⟩
  rcases htt with htt|htt
  ·have HTP:Hid (p.t=7):=Hi htt;have g0:W1.cell? ⟨b,0,none⟩=some (.int .i64 7):=by rw[AB HR1.out 0,←htt];rfl
   clear htt;have g15:W1.cell? ⟨b,15,none⟩=some (.int .u32 p.num):=AB HR1.out 15;go_wp2;go_ret;exact⟨_,rfl,Dv.hex _ HTP.out (by first|exact AB (heap_alloc_new _ _) 0|simp),by first|exact HL1.out.alloc _|skip⟩
  rcases htt with htt|htt
  ·have HTP:Hid (p.t=8):=Hi htt;have g0:W1.cell? ⟨b,0,none⟩=some (.int .i64 8):=by rw[AB HR1.out 0,←htt];rfl
   clear htt;have g15:W1.cell? ⟨b,15,none⟩=some (.int .u32 p.num):=AB HR1.out 15;go_wp2;go_ret;exact⟨_,rfl,Dv.hcl _ HTP.out (by first|exact AB (heap_alloc_new _ _) 0|simp),by first|exact HL1.out.alloc _|skip⟩
  ·have HTP:Hid (p.t=10):=Hi htt;have g0:W1.cell? ⟨b,0,none⟩=some (.int .i64 10):=by rw[AB HR1.out 0,←htt];rfl
   clear htt;have g2:W1.cell? ⟨b,2,none⟩=some (.slice At p.text.length ct):=AB HR1.out 2;have hc:=BT (P:=Tryz.prog) Tryz.underlying22 Tryz.underlying5 Tryz.underlying104 HBT.out;go_wp2;go_ret;exact⟨_,rfl,Dv.hct _ HTP.out (by first|exact AB (heap_alloc_new _ _) 0|simp),by first|exact HL1.out.alloc _|skip⟩
theorem Ll(w:World)(v:Value):Calls Tryz.prog 235 #[v] w fun e w'=>e= .returned (.string ⟨#[84,111]⟩)∧w'=w:=by
 go_enter Tryz.func235,Tryz.ntmps235;go_wp2;go_ret;exact⟨rfl,rfl⟩
theorem Lk(w0 w:World)(b bb:Nat)(t0 d:Tx)(u:PU)(l:KVs)(hb:AdC w0 b d u l)(hw:UW w0 bb t0 w)(hL:BW w0)(hz:AdZ d u l)(ht0:t0.length≤1000):
 Calls Tryz.prog 240 #[.pointer (some ⟨b,0,none⟩),.iface 127 (.pointer (some ⟨bb,0,none⟩))] w fun e w'=>e= .returned (.tuple #[])∧UW w0 bb (t0++kAd d u l) w':=by
 have HB:=Hi hb;have HW0:=Hi hw;have HL:=Hi hL;have HHN:=Hi hz.host;have HLP:=Hi hz.lp;have HLH:=Hi hz.lh;have HFL:=Hi hz.l;have hdq:=Gk d;have hpl:(AZ l 59).length≤1099511627776:=by have:=hz.l;unfold AZ;simp only[List.length_drop];omega
 have HZ:=Hi (⟨hz.d,hz.ut,hdq,hpl,ht0⟩:_∧_∧_∧_∧_);obtain⟨lv,hcl,hlv⟩:=hb.l;have HLV:=Hi hlv;have HCL:=Hi hcl;have hna:∀(n:Nat) (w:World),(nilAhead (n+1) 127 (.pointer (some ⟨bb,0,none⟩)) "WriteString").run Tryz.prog w= .ok (some false) w:=fun n w=>by kernel_rfl
 clear hb hw hL hz ht0 hdq hpl hcl hlv;go_enter Tryz.func240,Tryz.ntmps240;have gd:w.cell? ⟨b,0,none⟩=some (.string (st d)):=HW0.out.le.cell HB.out.d;go_upto_if 8 with fail
 go_cut []from 4 (fun wc=>UW w0 bb (t0++dqT d) wc)
 case first=>
  by_cases hd0:d=[]
  ·have hq:(st d).toList.isEmpty=true:=by rw[Au];simpa using hd0
   have h2:Hid (dqT d=[]):=Hi (by unfold dqT;rw[if_pos hd0]);rw[hq];clear hd0;go_wp2;go_meet;case rel=>rw[h2.out,List.append_nil];exact HW0.out
  ·have hq:(st d).toList.isEmpty=false:=by rw[Au];simpa using hd0
   have h2:Hid (dqT d=34::(d++[34,32])):=Hi (by unfold dqT;rw[if_neg hd0]);rw[hq];clear hd0;go_wp2_with fail
   refine(HW0.out.ws ⟨#[34]⟩ (by have hz:=HZ.out;(try simp only[LA,LC,LN,AF]);(try simp only[ByteArray.size,List.size_toArray,LC,LN]);omega)).mono ?_;rintro e w1 ⟨rfl,hw1⟩;have HW1:Hid (UW w0 bb (t0++[34]) w1):=Hi hw1;clear hw1;have gf:w1.cell? ⟨b,0,none⟩=some (.string (st d)):=HW1.out.le.cell HB.out.d;go_wp2
   go_still_tail 8,(by kernel_rfl)
   change wpList _ _ _ _ _ (World.drew _);have HW2:=Hi (HW1.out.grow (AC _).drew);generalize World.drew _=wd2 at HW2⊢;go_wp2_with fail
   refine(HW2.out.ws (st d) (by have hz:=HZ.out;(try simp only[LA,LC,LN,AF]);(try simp only[ByteArray.size,List.size_toArray,LC,LN]);omega)).mono ?_;rintro e w3 ⟨rfl,hw3⟩;have HW3:Hid (UW w0 bb (t0++[34]++d) w3):=Hi hw3;clear hw3;go_wp2_with fail
   refine(HW3.out.ws ⟨#[34,32]⟩ (by have hz:=HZ.out;(try simp only[LA,LC,LN,AF]);(try simp only[ByteArray.size,List.size_toArray,LC,LN]);omega)).mono ?_;rintro e w4 ⟨rfl,hw4⟩;have HW4:Hid (UW w0 bb (t0++[34]++d++[34,32]) w4):=Hi hw4;clear hw4;go_wp2;go_meet
   case rel=>rw[h2.out];have h:=HW4.out;simp only[List.nil_append,List.append_assoc,List.cons_append]at h;(try simp only[List.nil_append,List.append_assoc,List.cons_append]);exact h
 rename World=>w20
 have HW20:=Hi hcut;clear hcut;go_wp2_with fail
 refine(HW20.out.ws ⟨#[60]⟩ (by have hz:=HZ.out;(try simp only[LA,LC,LN,AF]);(try simp only[ByteArray.size,List.size_toArray,LC,LN]);omega)).mono ?_;rintro e w21 ⟨rfl,hw21⟩;have HW21:Hid (UW w0 bb (t0++dqT d++[60]) w21):=Hi hw21;clear hw21;go_wp2_with fail
 refine(Bn w0 _ b 1 bb (t0++dqT d++[60]) (by have hz:=HZ.out;simp only[LA,LC,LN];omega) u HB.out.u HW21.out HL.out HHN.out HLP.out HLH.out).mono ?_;rintro e w22 ⟨rfl,hw22⟩;have HW22:Hid (UW w0 bb (t0++dqT d++[60]++BY u) w22):=Hi hw22;clear hw22;go_wp2_with fail
 refine(HW22.out.ws ⟨#[62]⟩ (by have hz:=HZ.out;(try simp only[LA,LC,LN,AF]);(try simp only[ByteArray.size,List.size_toArray,LC,LN]);omega)).mono ?_;rintro e w23 ⟨rfl,hw23⟩;have HW23:Hid (UW w0 bb (t0++dqT d++[60]++BY u++[62]) w23):=Hi hw23;clear hw23;obtain⟨Al,cl,el,hlx⟩:=HLV.out;subst el
 have HCL:Hid (w0.cell? ⟨b,11,none⟩=some (.slice Al l.length cl)):=Hi HCL.out;have gl:w23.cell? ⟨b,11,none⟩=some (.slice Al l.length cl):=HW23.out.le.cell HCL.out;cases Al with
 |none=>
  have hl0:l=[]:=by
   rcases hx:l with _|⟨x,r⟩
   ·rfl
   ·obtain⟨g,o,e,_⟩:=hlx.2.2.2.2 (by rw[hx];simp);cases e
  have HPF:Hid (uPs l 59 59=[]):=Hi (by unfold uPs;rw[if_pos hl0]);clear hlx hl0;go_wp2
  go_returns
  refine⟨rfl,?_⟩;have h:=HW23.out;unfold kAd;rw[HPF.out];simp only[List.append_assoc,List.cons_append,List.nil_append,List.append_nil]at h⊢;exact h
 |some al=>
  clear hlx;go_wp2_with fail
  refine(Ck _ _ l (HLV.out.le HW23.out.le)).mono ?_;rintro e wl ⟨rfl,rfl⟩;by_cases hl0:l=[]
  ·have hzn:¬0<l.length:=by rw[hl0];simp
   have hzl:l.length≤0:=by omega
   have HPF:Hid (uPs l 59 59=[]):=Hi (by unfold uPs;rw[if_pos hl0]);clear hl0;go_wp2
   go_returns
   refine⟨rfl,?_⟩;have h:=HW23.out;unfold kAd;rw[HPF.out];simp only[List.append_assoc,List.cons_append,List.nil_append,List.append_nil]at h⊢;exact h
  ·have hpos:0<l.length:=List.length_pos_iff.2 hl0;have hzd:decide ((0:Int)<(l.length:Int))=true:=by simp;omega
   have HPF:Hid (uPs l 59 59=59::AZ l 59):=Hi (by unfold uPs;rw[if_neg hl0]);clear hl0;go_wp2_with fail
   refine(HW23.out.ws ⟨#[59]⟩ (by have hz:=HZ.out;(try simp only[LA,LC,LN,AF]);(try simp only[ByteArray.size,List.size_toArray,LC,LN]);omega)).mono ?_;rintro e w24 ⟨rfl,hw24⟩;have HW24:Hid (UW w0 bb (t0++dqT d++[60]++BY u++[62]++[59]) w24):=Hi hw24;clear hw24
   have gq:w24.cell? ⟨b,11,none⟩=some (.slice (some al) l.length cl):=HW24.out.le.cell HCL.out;go_wp2_with fail
   refine(EB w0.heap.size bb (t0++dqT d++[60]++BY u++[62]++[59]) (by have hz:=HZ.out;simp only[LA,LC,LN];omega) w24 (.slice (some al) l.length cl) l 59 (by decide) (HLV.out.le HW24.out.le) HW24.out.bld HW24.out.le.size HFL.out).mono ?_;rintro e w25 ⟨rfl,hb25,hf25⟩
   have HW25:Hid (UW w0 bb (t0++dqT d++[60]++BY u++[62]++[59]++AZ l 59) w25):=Hi ⟨Below.trans HW24.out.le hf25.1,hb25⟩;clear hb25 hf25;go_wp2
   go_returns
   refine⟨rfl,?_⟩;have h:=HW25.out;unfold kAd;rw[HPF.out];simp only[List.append_assoc,List.cons_append,List.nil_append,List.append_nil]at h⊢;exact h
theorem KA(w0:World)(b:Nat)(d:Tx)(u:PU)(l:KVs)(hb:AdC w0 b d u l)(hL:BW w0)(hz:AdZ d u l):Calls Tryz.prog 238 #[.pointer (some ⟨b,0,none⟩)] w0 fun e w'=>e= .returned (.string (st (kAd d u l)))∧Le w0 w':=by
 have HB:=Hi hb;have HL:=Hi hL;have HZ:=Hi hz;clear hb hL hz;go_enter Tryz.func238,Tryz.ntmps238;go_wp2_with fail
 refine(Lk w0 _ b w0.heap.size [] d u l HB.out ⟨(AC w0).alloc _,BR w0⟩ HL.out HZ.out (by decide)).mono ?_;rintro e w2 ⟨rfl,hw2⟩;have HW2:=Hi hw2;clear hw2;go_wp2_with fail
 refine(Bj _ _ _ _ HW2.out.bld).mono ?_;rintro e w3 ⟨rfl,_,hf3⟩;have HL3:Hid (Le w0 w3):=Hi (Below.trans HW2.out.le hf3.1);clear hf3;go_wp2;go_ret;exact⟨by simp,HL3.out⟩
theorem Pc(w0 w:World)(b bb:Nat)(d:Tx)(u:PU)(l:KVs)(hb:AdC w0 b d u l)(hw:UW w0 bb [] w)(hL:BW w0)(hz:AdZ d u l):
 Calls Tryz.prog 237 #[.pointer (some ⟨b,0,none⟩),.iface 127 (.pointer (some ⟨bb,0,none⟩))] w fun e w'=>e= .returned (.tuple #[])∧UW w0 bb ([84,111,58,32]++kAd d u l) w':=by
 have HB:=Hi hb;have HW0:=Hi hw;have HL:=Hi hL;have HZZ:=Hi hz;have HZ:=Hi trivial;have hna:∀(n:Nat) (w:World),(nilAhead (n+1) 127 (.pointer (some ⟨bb,0,none⟩)) "WriteString").run Tryz.prog w= .ok (some false) w:=fun n w=>by kernel_rfl
 clear hb hw hL hz;go_enter Tryz.func237,Tryz.ntmps237;go_wp2;go_still_tail 6,(by kernel_rfl)
 still_call (Ll _ _)
 repeat still_step
 refine wpStill_nil ?_;change wpList _ _ _ _ _ (World.drew _);have HW1:=Hi (HW0.out.grow (AC _).drew);generalize World.drew _=wd1 at HW1⊢;go_wp2_with fail
 refine(HW1.out.ws ⟨#[84,111]⟩ (by decide)).mono ?_;rintro e w2 ⟨rfl,hw2⟩;have HW2:Hid (UW w0 bb [84,111] w2):=Hi hw2;clear hw2;go_wp2_with fail
 refine(HW2.out.ws ⟨#[58,32]⟩ (by decide)).mono ?_;rintro e w3 ⟨rfl,hw3⟩;have HW3:Hid (UW w0 bb [84,111,58,32] w3):=Hi hw3;clear hw3;go_wp2_with fail
 refine(Lk w0 _ b bb [84,111,58,32] d u l HB.out HW3.out HL.out HZZ.out (by decide)).mono ?_;rintro e w4 ⟨rfl,hw4⟩;have HW4:=Hi hw4;clear hw4;go_wp2
 go_returns
 exact⟨rfl,HW4.out⟩
theorem Ib(w0:World)(b:Nat)(d:Tx)(u:PU)(l:KVs)(hb:AdC w0 b d u l)(hL:BW w0)(hz:AdZ d u l):Calls Tryz.prog 236 #[.pointer (some ⟨b,0,none⟩)] w0 fun e w'=>e= .returned (.string (st ([84,111,58,32]++kAd d u l)))∧Le w0 w':=by
 have HB:=Hi hb;have HL:=Hi hL;have HZ:=Hi hz;clear hb hL hz;go_enter Tryz.func236,Tryz.ntmps236;go_wp2_with fail
 refine(Pc w0 _ b w0.heap.size d u l HB.out ⟨(AC w0).alloc _,BR w0⟩ HL.out HZ.out).mono ?_;rintro e w2 ⟨rfl,hw2⟩;have HW2:=Hi hw2;clear hw2;go_wp2_with fail
 refine(Bj _ _ _ _ HW2.out.bld).mono ?_;rintro e w3 ⟨rfl,_,hf3⟩;have HL3:Hid (Le w0 w3):=Hi (Below.trans HW2.out.le hf3.1);clear hf3;go_wp2;go_ret;exact⟨by simp,HL3.out⟩
theorem Lz(w:World)(v:Value):Calls Tryz.prog 242 #[v] w fun e w'=>e= .returned (.string ⟨#[70,114,111,109]⟩)∧w'=w:=by
 go_enter Tryz.func242,Tryz.ntmps242;go_wp2;go_ret;exact⟨rfl,rfl⟩
theorem Ly(w0 w:World)(b bb:Nat)(t0 d:Tx)(u:PU)(l:KVs)(hb:AdC w0 b d u l)(hw:UW w0 bb t0 w)(hL:BW w0)(hz:AdZ d u l)(ht0:t0.length≤1000):
 Calls Tryz.prog 247 #[.pointer (some ⟨b,0,none⟩),.iface 127 (.pointer (some ⟨bb,0,none⟩))] w fun e w'=>e= .returned (.tuple #[])∧UW w0 bb (t0++kAd d u l) w':=by
 have HB:=Hi hb;have HW0:=Hi hw;have HL:=Hi hL;have HHN:=Hi hz.host;have HLP:=Hi hz.lp;have HLH:=Hi hz.lh;have HFL:=Hi hz.l;have hdq:=Gk d;have hpl:(AZ l 59).length≤1099511627776:=by have:=hz.l;unfold AZ;simp only[List.length_drop];omega
 have HZ:=Hi (⟨hz.d,hz.ut,hdq,hpl,ht0⟩:_∧_∧_∧_∧_);obtain⟨lv,hcl,hlv⟩:=hb.l;have HLV:=Hi hlv;have HCL:=Hi hcl;have hna:∀(n:Nat) (w:World),(nilAhead (n+1) 127 (.pointer (some ⟨bb,0,none⟩)) "WriteString").run Tryz.prog w= .ok (some false) w:=fun n w=>by kernel_rfl
 clear hb hw hL hz ht0 hdq hpl hcl hlv;go_enter Tryz.func247,Tryz.ntmps247;have gd:w.cell? ⟨b,0,none⟩=some (.string (st d)):=HW0.out.le.cell HB.out.d;go_upto_if 8 with fail
 go_cut []from 4 (fun wc=>UW w0 bb (t0++dqT d) wc)
 case first=>
  by_cases hd0:d=[]
  ·have hq:(st d).toList.isEmpty=true:=by rw[Au];simpa using hd0
   have h2:Hid (dqT d=[]):=Hi (by unfold dqT;rw[if_pos hd0]);rw[hq];clear hd0;go_wp2;go_meet;case rel=>rw[h2.out,List.append_nil];exact HW0.out
  ·have hq:(st d).toList.isEmpty=false:=by rw[Au];simpa using hd0
   have h2:Hid (dqT d=34::(d++[34,32])):=Hi (by unfold dqT;rw[if_neg hd0]);rw[hq];clear hd0;go_wp2_with fail
   refine(HW0.out.ws ⟨#[34]⟩ (by have hz:=HZ.out;(try simp only[LA,LC,LN,AF]);(try simp only[ByteArray.size,List.size_toArray,LC,LN]);omega)).mono ?_;rintro e w1 ⟨rfl,hw1⟩;have HW1:Hid (UW w0 bb (t0++[34]) w1):=Hi hw1;clear hw1;have gf:w1.cell? ⟨b,0,none⟩=some (.string (st d)):=HW1.out.le.cell HB.out.d;go_wp2
   go_still_tail 8,(by kernel_rfl)
   change wpList _ _ _ _ _ (World.drew _);have HW2:=Hi (HW1.out.grow (AC _).drew);generalize World.drew _=wd2 at HW2⊢;go_wp2_with fail
   refine(HW2.out.ws (st d) (by have hz:=HZ.out;(try simp only[LA,LC,LN,AF]);(try simp only[ByteArray.size,List.size_toArray,LC,LN]);omega)).mono ?_;rintro e w3 ⟨rfl,hw3⟩;have HW3:Hid (UW w0 bb (t0++[34]++d) w3):=Hi hw3;clear hw3;go_wp2_with fail
   refine(HW3.out.ws ⟨#[34,32]⟩ (by have hz:=HZ.out;(try simp only[LA,LC,LN,AF]);(try simp only[ByteArray.size,List.size_toArray,LC,LN]);omega)).mono ?_;rintro e w4 ⟨rfl,hw4⟩;have HW4:Hid (UW w0 bb (t0++[34]++d++[34,32]) w4):=Hi hw4;clear hw4;go_wp2;go_meet
   case rel=>rw[h2.out];have h:=HW4.out;simp only[List.nil_append,List.append_assoc,List.cons_append]at h;(try simp only[List.nil_append,List.append_assoc,List.cons_append]);exact h
 rename World=>w20
 have HW20:=Hi hcut;clear hcut;go_wp2_with fail
 refine(HW20.out.ws ⟨#[60]⟩ (by have hz:=HZ.out;(try simp only[LA,LC,LN,AF]);(try simp only[ByteArray.size,List.size_toArray,LC,LN]);omega)).mono ?_;rintro e w21 ⟨rfl,hw21⟩;have HW21:Hid (UW w0 bb (t0++dqT d++[60]) w21):=Hi hw21;clear hw21;go_wp2_with fail
 refine(Bn w0 _ b 1 bb (t0++dqT d++[60]) (by have hz:=HZ.out;simp only[LA,LC,LN];omega) u HB.out.u HW21.out HL.out HHN.out HLP.out HLH.out).mono ?_;rintro e w22 ⟨rfl,hw22⟩;have HW22:Hid (UW w0 bb (t0++dqT d++[60]++BY u) w22):=Hi hw22;clear hw22;go_wp2_with fail
 refine(HW22.out.ws ⟨#[62]⟩ (by have hz:=HZ.out;(try simp only[LA,LC,LN,AF]);(try simp only[ByteArray.size,List.size_toArray,LC,LN]);omega)).mono ?_;rintro e w23 ⟨rfl,hw23⟩;have HW23:Hid (UW w0 bb (t0++dqT d++[60]++BY u++[62]) w23):=Hi hw23;clear hw23;obtain⟨Al,cl,el,hlx⟩:=HLV.out;subst el
 have HCL:Hid (w0.cell? ⟨b,11,none⟩=some (.slice Al l.length cl)):=Hi HCL.out;have gl:w23.cell? ⟨b,11,none⟩=some (.slice Al l.length cl):=HW23.out.le.cell HCL.out;cases Al with
 |none=>
  have hl0:l=[]:=by
   rcases hx:l with _|⟨x,r⟩
   ·rfl
   ·obtain⟨g,o,e,_⟩:=hlx.2.2.2.2 (by rw[hx];simp);cases e
  have HPF:Hid (uPs l 59 59=[]):=Hi (by unfold uPs;rw[if_pos hl0]);clear hlx hl0;go_wp2
  go_returns
  refine⟨rfl,?_⟩;have h:=HW23.out;unfold kAd;rw[HPF.out];simp only[List.append_assoc,List.cons_append,List.nil_append,List.append_nil]at h⊢;exact h
 |some al=>
  clear hlx;go_wp2_with fail
  refine(Ck _ _ l (HLV.out.le HW23.out.le)).mono ?_;rintro e wl ⟨rfl,rfl⟩;by_cases hl0:l=[]
  ·have hzn:¬0<l.length:=by rw[hl0];simp
   have hzl:l.length≤0:=by omega
   have HPF:Hid (uPs l 59 59=[]):=Hi (by unfold uPs;rw[if_pos hl0]);clear hl0;go_wp2
   go_returns
   refine⟨rfl,?_⟩;have h:=HW23.out;unfold kAd;rw[HPF.out];simp only[List.append_assoc,List.cons_append,List.nil_append,List.append_nil]at h⊢;exact h
  ·have hpos:0<l.length:=List.length_pos_iff.2 hl0;have hzd:decide ((0:Int)<(l.length:Int))=true:=by simp;omega
   have HPF:Hid (uPs l 59 59=59::AZ l 59):=Hi (by unfold uPs;rw[if_neg hl0]);clear hl0;go_wp2_with fail
   refine(HW23.out.ws ⟨#[59]⟩ (by have hz:=HZ.out;(try simp only[LA,LC,LN,AF]);(try simp only[ByteArray.size,List.size_toArray,LC,LN]);omega)).mono ?_;rintro e w24 ⟨rfl,hw24⟩;have HW24:Hid (UW w0 bb (t0++dqT d++[60]++BY u++[62]++[59]) w24):=Hi hw24;clear hw24
   have gq:w24.cell? ⟨b,11,none⟩=some (.slice (some al) l.length cl):=HW24.out.le.cell HCL.out;go_wp2_with fail
   refine(EB w0.heap.size bb (t0++dqT d++[60]++BY u++[62]++[59]) (by have hz:=HZ.out;simp only[LA,LC,LN];omega) w24 (.slice (some al) l.length cl) l 59 (by decide) (HLV.out.le HW24.out.le) HW24.out.bld HW24.out.le.size HFL.out).mono ?_;rintro e w25 ⟨rfl,hb25,hf25⟩
   have HW25:Hid (UW w0 bb (t0++dqT d++[60]++BY u++[62]++[59]++AZ l 59) w25):=Hi ⟨Below.trans HW24.out.le hf25.1,hb25⟩;clear hb25 hf25;go_wp2
   go_returns
   refine⟨rfl,?_⟩;have h:=HW25.out;unfold kAd;rw[HPF.out];simp only[List.append_assoc,List.cons_append,List.nil_append,List.append_nil]at h⊢;exact h
theorem KF(w0:World)(b:Nat)(d:Tx)(u:PU)(l:KVs)(hb:AdC w0 b d u l)(hL:BW w0)(hz:AdZ d u l):Calls Tryz.prog 245 #[.pointer (some ⟨b,0,none⟩)] w0 fun e w'=>e= .returned (.string (st (kAd d u l)))∧Le w0 w':=by
 have HB:=Hi hb;have HL:=Hi hL;have HZ:=Hi hz;clear hb hL hz;go_enter Tryz.func245,Tryz.ntmps245;go_wp2_with fail
 refine(Ly w0 _ b w0.heap.size [] d u l HB.out ⟨(AC w0).alloc _,BR w0⟩ HL.out HZ.out (by decide)).mono ?_;rintro e w2 ⟨rfl,hw2⟩;have HW2:=Hi hw2;clear hw2;go_wp2_with fail
 refine(Bj _ _ _ _ HW2.out.bld).mono ?_;rintro e w3 ⟨rfl,_,hf3⟩;have HL3:Hid (Le w0 w3):=Hi (Below.trans HW2.out.le hf3.1);clear hf3;go_wp2;go_ret;exact⟨by simp,HL3.out⟩
theorem Pk(w0 w:World)(b bb:Nat)(d:Tx)(u:PU)(l:KVs)(hb:AdC w0 b d u l)(hw:UW w0 bb [] w)(hL:BW w0)(hz:AdZ d u l):
 Calls Tryz.prog 244 #[.pointer (some ⟨b,0,none⟩),.iface 127 (.pointer (some ⟨bb,0,none⟩))] w fun e w'=>e= .returned (.tuple #[])∧UW w0 bb ([70,114,111,109,58,32]++kAd d u l) w':=by
 have HB:=Hi hb;have HW0:=Hi hw;have HL:=Hi hL;have HZZ:=Hi hz;have HZ:=Hi trivial;have hna:∀(n:Nat) (w:World),(nilAhead (n+1) 127 (.pointer (some ⟨bb,0,none⟩)) "WriteString").run Tryz.prog w= .ok (some false) w:=fun n w=>by kernel_rfl
 clear hb hw hL hz;go_enter Tryz.func244,Tryz.ntmps244;go_wp2;go_still_tail 6,(by kernel_rfl)
 still_call (Lz _ _)
 repeat still_step
 refine wpStill_nil ?_;change wpList _ _ _ _ _ (World.drew _);have HW1:=Hi (HW0.out.grow (AC _).drew);generalize World.drew _=wd1 at HW1⊢;go_wp2_with fail
 refine(HW1.out.ws ⟨#[70,114,111,109]⟩ (by decide)).mono ?_;rintro e w2 ⟨rfl,hw2⟩;have HW2:Hid (UW w0 bb [70,114,111,109] w2):=Hi hw2;clear hw2;go_wp2_with fail
 refine(HW2.out.ws ⟨#[58,32]⟩ (by decide)).mono ?_;rintro e w3 ⟨rfl,hw3⟩;have HW3:Hid (UW w0 bb [70,114,111,109,58,32] w3):=Hi hw3;clear hw3;go_wp2_with fail
 refine(Ly w0 _ b bb [70,114,111,109,58,32] d u l HB.out HW3.out HL.out HZZ.out (by decide)).mono ?_;rintro e w4 ⟨rfl,hw4⟩;have HW4:=Hi hw4;clear hw4;go_wp2
 go_returns
 exact⟨rfl,HW4.out⟩
theorem Ij(w0:World)(b:Nat)(d:Tx)(u:PU)(l:KVs)(hb:AdC w0 b d u l)(hL:BW w0)(hz:AdZ d u l):Calls Tryz.prog 243 #[.pointer (some ⟨b,0,none⟩)] w0 fun e w'=>e= .returned (.string (st ([70,114,111,109,58,32]++kAd d u l)))∧Le w0 w':=by
 have HB:=Hi hb;have HL:=Hi hL;have HZ:=Hi hz;clear hb hL hz;go_enter Tryz.func243,Tryz.ntmps243;go_wp2_with fail
 refine(Pk w0 _ b w0.heap.size d u l HB.out ⟨(AC w0).alloc _,BR w0⟩ HL.out HZ.out).mono ?_;rintro e w2 ⟨rfl,hw2⟩;have HW2:=Hi hw2;clear hw2;go_wp2_with fail
 refine(Bj _ _ _ _ HW2.out.bld).mono ?_;rintro e w3 ⟨rfl,_,hf3⟩;have HL3:Hid (Le w0 w3):=Hi (Below.trans HW2.out.le hf3.1);clear hf3;go_wp2;go_ret;exact⟨by simp,HL3.out⟩
theorem L6(w:World)(v:Value):Calls Tryz.prog 248 #[v] w fun e w'=>e= .returned (.string ⟨#[67,111,110,116,97,99,116]⟩)∧w'=w:=by
 go_enter Tryz.func248,Tryz.ntmps248;go_wp2;go_ret;exact⟨rfl,rfl⟩
theorem L5(w0 w:World)(b bb:Nat)(t0 d:Tx)(u:PU)(l:KVs)(hb:AdC w0 b d u l)(hw:UW w0 bb t0 w)(hL:BW w0)(hz:AdZ d u l)(ht0:t0.length≤1000):
 Calls Tryz.prog 253 #[.pointer (some ⟨b,0,none⟩),.iface 127 (.pointer (some ⟨bb,0,none⟩))] w fun e w'=>e= .returned (.tuple #[])∧UW w0 bb (t0++kAd d u l) w':=by
 have HB:=Hi hb;have HW0:=Hi hw;have HL:=Hi hL;have HHN:=Hi hz.host;have HLP:=Hi hz.lp;have HLH:=Hi hz.lh;have HFL:=Hi hz.l;have hdq:=Gk d;have hpl:(AZ l 59).length≤1099511627776:=by have:=hz.l;unfold AZ;simp only[List.length_drop];omega
 have HZ:=Hi (⟨hz.d,hz.ut,hdq,hpl,ht0⟩:_∧_∧_∧_∧_);obtain⟨lv,hcl,hlv⟩:=hb.l;have HLV:=Hi hlv;have HCL:=Hi hcl;have hna:∀(n:Nat) (w:World),(nilAhead (n+1) 127 (.pointer (some ⟨bb,0,none⟩)) "WriteString").run Tryz.prog w= .ok (some false) w:=fun n w=>by kernel_rfl
 clear hb hw hL hz ht0 hdq hpl hcl hlv;go_enter Tryz.func253,Tryz.ntmps253;have gw:w.cell? ⟨b,3,none⟩=some (.bool false):=HW0.out.le.cell HB.out.wild;have gd:w.cell? ⟨b,0,none⟩=some (.string (st d)):=HW0.out.le.cell HB.out.d;go_upto_if 17 with fail
 go_cut []from 4 (fun wc=>UW w0 bb (t0++dqT d) wc)
 case first=>
  by_cases hd0:d=[]
  ·have hq:(st d).toList.isEmpty=true:=by rw[Au];simpa using hd0
   have h2:Hid (dqT d=[]):=Hi (by unfold dqT;rw[if_pos hd0]);rw[hq];clear hd0;go_wp2;go_meet;case rel=>rw[h2.out,List.append_nil];exact HW0.out
  ·have hq:(st d).toList.isEmpty=false:=by rw[Au];simpa using hd0
   have h2:Hid (dqT d=34::(d++[34,32])):=Hi (by unfold dqT;rw[if_neg hd0]);rw[hq];clear hd0;go_wp2_with fail
   refine(HW0.out.ws ⟨#[34]⟩ (by have hz:=HZ.out;(try simp only[LA,LC,LN,AF]);(try simp only[ByteArray.size,List.size_toArray,LC,LN]);omega)).mono ?_;rintro e w1 ⟨rfl,hw1⟩;have HW1:Hid (UW w0 bb (t0++[34]) w1):=Hi hw1;clear hw1;have gf:w1.cell? ⟨b,0,none⟩=some (.string (st d)):=HW1.out.le.cell HB.out.d;go_wp2
   go_still_tail 8,(by kernel_rfl)
   change wpList _ _ _ _ _ (World.drew _);have HW2:=Hi (HW1.out.grow (AC _).drew);generalize World.drew _=wd2 at HW2⊢;go_wp2_with fail
   refine(HW2.out.ws (st d) (by have hz:=HZ.out;(try simp only[LA,LC,LN,AF]);(try simp only[ByteArray.size,List.size_toArray,LC,LN]);omega)).mono ?_;rintro e w3 ⟨rfl,hw3⟩;have HW3:Hid (UW w0 bb (t0++[34]++d) w3):=Hi hw3;clear hw3;go_wp2_with fail
   refine(HW3.out.ws ⟨#[34,32]⟩ (by have hz:=HZ.out;(try simp only[LA,LC,LN,AF]);(try simp only[ByteArray.size,List.size_toArray,LC,LN]);omega)).mono ?_;rintro e w4 ⟨rfl,hw4⟩;have HW4:Hid (UW w0 bb (t0++[34]++d++[34,32]) w4):=Hi hw4;clear hw4;go_wp2;go_meet
   case rel=>rw[h2.out];have h:=HW4.out;simp only[List.nil_append,List.append_assoc,List.cons_append]at h;(try simp only[List.nil_append,List.append_assoc,List.cons_append]);exact h
 rename World=>w20
 have HW20:=Hi hcut;clear hcut;go_wp2_with fail
 refine(HW20.out.ws ⟨#[60]⟩ (by have hz:=HZ.out;(try simp only[LA,LC,LN,AF]);(try simp only[ByteArray.size,List.size_toArray,LC,LN]);omega)).mono ?_;rintro e w21 ⟨rfl,hw21⟩;have HW21:Hid (UW w0 bb (t0++dqT d++[60]) w21):=Hi hw21;clear hw21;go_wp2_with fail
 refine(Bn w0 _ b 1 bb (t0++dqT d++[60]) (by have hz:=HZ.out;simp only[LA,LC,LN];omega) u HB.out.u HW21.out HL.out HHN.out HLP.out HLH.out).mono ?_;rintro e w22 ⟨rfl,hw22⟩;have HW22:Hid (UW w0 bb (t0++dqT d++[60]++BY u) w22):=Hi hw22;clear hw22;go_wp2_with fail
 refine(HW22.out.ws ⟨#[62]⟩ (by have hz:=HZ.out;(try simp only[LA,LC,LN,AF]);(try simp only[ByteArray.size,List.size_toArray,LC,LN]);omega)).mono ?_;rintro e w23 ⟨rfl,hw23⟩;have HW23:Hid (UW w0 bb (t0++dqT d++[60]++BY u++[62]) w23):=Hi hw23;clear hw23;obtain⟨Al,cl,el,hlx⟩:=HLV.out;subst el
 have HCL:Hid (w0.cell? ⟨b,11,none⟩=some (.slice Al l.length cl)):=Hi HCL.out;have gl:w23.cell? ⟨b,11,none⟩=some (.slice Al l.length cl):=HW23.out.le.cell HCL.out;cases Al with
 |none=>
  have hl0:l=[]:=by
   rcases hx:l with _|⟨x,r⟩
   ·rfl
   ·obtain⟨g,o,e,_⟩:=hlx.2.2.2.2 (by rw[hx];simp);cases e
  have HPF:Hid (uPs l 59 59=[]):=Hi (by unfold uPs;rw[if_pos hl0]);clear hlx hl0;go_wp2
  go_returns
  refine⟨rfl,?_⟩;have h:=HW23.out;unfold kAd;rw[HPF.out];simp only[List.append_assoc,List.cons_append,List.nil_append,List.append_nil]at h⊢;exact h
 |some al=>
  clear hlx;go_wp2_with fail
  refine(Ck _ _ l (HLV.out.le HW23.out.le)).mono ?_;rintro e wl ⟨rfl,rfl⟩;by_cases hl0:l=[]
  ·have hzn:¬0<l.length:=by rw[hl0];simp
   have hzl:l.length≤0:=by omega
   have HPF:Hid (uPs l 59 59=[]):=Hi (by unfold uPs;rw[if_pos hl0]);clear hl0;go_wp2
   go_returns
   refine⟨rfl,?_⟩;have h:=HW23.out;unfold kAd;rw[HPF.out];simp only[List.append_assoc,List.cons_append,List.nil_append,List.append_nil]at h⊢;exact h
  ·have hpos:0<l.length:=List.length_pos_iff.2 hl0;have hzd:decide ((0:Int)<(l.length:Int))=true:=by simp;omega
   have HPF:Hid (uPs l 59 59=59::AZ l 59):=Hi (by unfold uPs;rw[if_neg hl0]);clear hl0;go_wp2_with fail
   refine(HW23.out.ws ⟨#[59]⟩ (by have hz:=HZ.out;(try simp only[LA,LC,LN,AF]);(try simp only[ByteArray.size,List.size_toArray,LC,LN]);omega)).mono ?_;rintro e w24 ⟨rfl,hw24⟩;have HW24:Hid (UW w0 bb (t0++dqT d++[60]++BY u++[62]++[59]) w24):=Hi hw24;clear hw24
   have gq:w24.cell? ⟨b,11,none⟩=some (.slice (some al) l.length cl):=HW24.out.le.cell HCL.out;go_wp2_with fail
   refine(EB w0.heap.size bb (t0++dqT d++[60]++BY u++[62]++[59]) (by have hz:=HZ.out;simp only[LA,LC,LN];omega) w24 (.slice (some al) l.length cl) l 59 (by decide) (HLV.out.le HW24.out.le) HW24.out.bld HW24.out.le.size HFL.out).mono ?_;rintro e w25 ⟨rfl,hb25,hf25⟩
   have HW25:Hid (UW w0 bb (t0++dqT d++[60]++BY u++[62]++[59]++AZ l 59) w25):=Hi ⟨Below.trans HW24.out.le hf25.1,hb25⟩;clear hb25 hf25;go_wp2
   go_returns
   refine⟨rfl,?_⟩;have h:=HW25.out;unfold kAd;rw[HPF.out];simp only[List.append_assoc,List.cons_append,List.nil_append,List.append_nil]at h⊢;exact h
theorem KI(w0:World)(b:Nat)(d:Tx)(u:PU)(l:KVs)(hb:AdC w0 b d u l)(hL:BW w0)(hz:AdZ d u l):Calls Tryz.prog 251 #[.pointer (some ⟨b,0,none⟩)] w0 fun e w'=>e= .returned (.string (st (kAd d u l)))∧Le w0 w':=by
 have HB:=Hi hb;have HL:=Hi hL;have HZ:=Hi hz;clear hb hL hz;go_enter Tryz.func251,Tryz.ntmps251;go_wp2_with fail
 refine(L5 w0 _ b w0.heap.size [] d u l HB.out ⟨(AC w0).alloc _,BR w0⟩ HL.out HZ.out (by decide)).mono ?_;rintro e w2 ⟨rfl,hw2⟩;have HW2:=Hi hw2;clear hw2;go_wp2_with fail
 refine(Bj _ _ _ _ HW2.out.bld).mono ?_;rintro e w3 ⟨rfl,_,hf3⟩;have HL3:Hid (Le w0 w3):=Hi (Below.trans HW2.out.le hf3.1);clear hf3;go_wp2;go_ret;exact⟨by simp,HL3.out⟩
theorem Po(w0 w:World)(b bb:Nat)(d:Tx)(u:PU)(l:KVs)(hb:AdC w0 b d u l)(hw:UW w0 bb [] w)(hL:BW w0)(hz:AdZ d u l):
 Calls Tryz.prog 250 #[.pointer (some ⟨b,0,none⟩),.iface 127 (.pointer (some ⟨bb,0,none⟩))] w fun e w'=>e= .returned (.tuple #[])∧UW w0 bb ([67,111,110,116,97,99,116,58,32]++kAd d u l) w':=by
 have HB:=Hi hb;have HW0:=Hi hw;have HL:=Hi hL;have HZZ:=Hi hz;have HZ:=Hi trivial;have hna:∀(n:Nat) (w:World),(nilAhead (n+1) 127 (.pointer (some ⟨bb,0,none⟩)) "WriteString").run Tryz.prog w= .ok (some false) w:=fun n w=>by kernel_rfl
 clear hb hw hL hz;go_enter Tryz.func250,Tryz.ntmps250;go_wp2;go_still_tail 6,(by kernel_rfl)
 still_call (L6 _ _)
 repeat still_step
 refine wpStill_nil ?_;change wpList _ _ _ _ _ (World.drew _);have HW1:=Hi (HW0.out.grow (AC _).drew);generalize World.drew _=wd1 at HW1⊢;go_wp2_with fail
 refine(HW1.out.ws ⟨#[67,111,110,116,97,99,116]⟩ (by decide)).mono ?_;rintro e w2 ⟨rfl,hw2⟩;have HW2:Hid (UW w0 bb [67,111,110,116,97,99,116] w2):=Hi hw2;clear hw2;go_wp2_with fail
 refine(HW2.out.ws ⟨#[58,32]⟩ (by decide)).mono ?_;rintro e w3 ⟨rfl,hw3⟩;have HW3:Hid (UW w0 bb [67,111,110,116,97,99,116,58,32] w3):=Hi hw3;clear hw3;go_wp2_with fail
 refine(L5 w0 _ b bb [67,111,110,116,97,99,116,58,32] d u l HB.out HW3.out HL.out HZZ.out (by decide)).mono ?_;rintro e w4 ⟨rfl,hw4⟩;have HW4:=Hi hw4;clear hw4;go_wp2
 go_returns
 exact⟨rfl,HW4.out⟩
theorem Io(w0:World)(b:Nat)(d:Tx)(u:PU)(l:KVs)(hb:AdC w0 b d u l)(hL:BW w0)(hz:AdZ d u l):Calls Tryz.prog 249 #[.pointer (some ⟨b,0,none⟩)] w0 fun e w'=>e= .returned (.string (st ([67,111,110,116,97,99,116,58,32]++kAd d u l)))∧Le w0 w':=by
 have HB:=Hi hb;have HL:=Hi hL;have HZ:=Hi hz;clear hb hL hz;go_enter Tryz.func249,Tryz.ntmps249;go_wp2_with fail
 refine(Po w0 _ b w0.heap.size d u l HB.out ⟨(AC w0).alloc _,BR w0⟩ HL.out HZ.out).mono ?_;rintro e w2 ⟨rfl,hw2⟩;have HW2:=Hi hw2;clear hw2;go_wp2_with fail
 refine(Bj _ _ _ _ HW2.out.bld).mono ?_;rintro e w3 ⟨rfl,_,hf3⟩;have HL3:Hid (Le w0 w3):=Hi (Below.trans HW2.out.le hf3.1);clear hf3;go_wp2;go_ret;exact⟨by simp,HL3.out⟩
theorem Lu(w:World)(v:Value):Calls Tryz.prog 278 #[v] w fun e w'=>e= .returned (.string ⟨#[82,101,102,101,114,114,101,100,45,66,121]⟩)∧w'=w:=by
 go_enter Tryz.func278,Tryz.ntmps278;go_wp2;go_ret;exact⟨rfl,rfl⟩
theorem Ls(w0 w:World)(b bb:Nat)(t0 d:Tx)(u:PU)(l:KVs)(hb:AdC w0 b d u l)(hw:UW w0 bb t0 w)(hL:BW w0)(hz:AdZ d u l)(ht0:t0.length≤1000):
 Calls Tryz.prog 283 #[.pointer (some ⟨b,0,none⟩),.iface 127 (.pointer (some ⟨bb,0,none⟩))] w fun e w'=>e= .returned (.tuple #[])∧UW w0 bb (t0++kAd d u l) w':=by
 have HB:=Hi hb;have HW0:=Hi hw;have HL:=Hi hL;have HHN:=Hi hz.host;have HLP:=Hi hz.lp;have HLH:=Hi hz.lh;have HFL:=Hi hz.l;have hdq:=Gk d;have hpl:(AZ l 59).length≤1099511627776:=by have:=hz.l;unfold AZ;simp only[List.length_drop];omega
 have HZ:=Hi (⟨hz.d,hz.ut,hdq,hpl,ht0⟩:_∧_∧_∧_∧_);obtain⟨lv,hcl,hlv⟩:=hb.l;have HLV:=Hi hlv;have HCL:=Hi hcl;have hna:∀(n:Nat) (w:World),(nilAhead (n+1) 127 (.pointer (some ⟨bb,0,none⟩)) "WriteString").run Tryz.prog w= .ok (some false) w:=fun n w=>by kernel_rfl
 clear hb hw hL hz ht0 hdq hpl hcl hlv;go_enter Tryz.func283,Tryz.ntmps283;have gd:w.cell? ⟨b,0,none⟩=some (.string (st d)):=HW0.out.le.cell HB.out.d;go_upto_if 8 with fail
 go_cut []from 4 (fun wc=>UW w0 bb (t0++dqT d) wc)
 case first=>
  by_cases hd0:d=[]
  ·have hq:(st d).toList.isEmpty=true:=by rw[Au];simpa using hd0
   have h2:Hid (dqT d=[]):=Hi (by unfold dqT;rw[if_pos hd0]);rw[hq];clear hd0;go_wp2;go_meet;case rel=>rw[h2.out,List.append_nil];exact HW0.out
  ·have hq:(st d).toList.isEmpty=false:=by rw[Au];simpa using hd0
   have h2:Hid (dqT d=34::(d++[34,32])):=Hi (by unfold dqT;rw[if_neg hd0]);rw[hq];clear hd0;go_wp2_with fail
   refine(HW0.out.ws ⟨#[34]⟩ (by have hz:=HZ.out;(try simp only[LA,LC,LN,AF]);(try simp only[ByteArray.size,List.size_toArray,LC,LN]);omega)).mono ?_;rintro e w1 ⟨rfl,hw1⟩;have HW1:Hid (UW w0 bb (t0++[34]) w1):=Hi hw1;clear hw1;have gf:w1.cell? ⟨b,0,none⟩=some (.string (st d)):=HW1.out.le.cell HB.out.d;go_wp2
   go_still_tail 8,(by kernel_rfl)
   change wpList _ _ _ _ _ (World.drew _);have HW2:=Hi (HW1.out.grow (AC _).drew);generalize World.drew _=wd2 at HW2⊢;go_wp2_with fail
   refine(HW2.out.ws (st d) (by have hz:=HZ.out;(try simp only[LA,LC,LN,AF]);(try simp only[ByteArray.size,List.size_toArray,LC,LN]);omega)).mono ?_;rintro e w3 ⟨rfl,hw3⟩;have HW3:Hid (UW w0 bb (t0++[34]++d) w3):=Hi hw3;clear hw3;go_wp2_with fail
   refine(HW3.out.ws ⟨#[34,32]⟩ (by have hz:=HZ.out;(try simp only[LA,LC,LN,AF]);(try simp only[ByteArray.size,List.size_toArray,LC,LN]);omega)).mono ?_;rintro e w4 ⟨rfl,hw4⟩;have HW4:Hid (UW w0 bb (t0++[34]++d++[34,32]) w4):=Hi hw4;clear hw4;go_wp2;go_meet
   case rel=>rw[h2.out];have h:=HW4.out;simp only[List.nil_append,List.append_assoc,List.cons_append]at h;(try simp only[List.nil_append,List.append_assoc,List.cons_append]);exact h
 rename World=>w20
 have HW20:=Hi hcut;clear hcut;go_wp2_with fail
 refine(HW20.out.ws ⟨#[60]⟩ (by have hz:=HZ.out;(try simp only[LA,LC,LN,AF]);(try simp only[ByteArray.size,List.size_toArray,LC,LN]);omega)).mono ?_;rintro e w21 ⟨rfl,hw21⟩;have HW21:Hid (UW w0 bb (t0++dqT d++[60]) w21):=Hi hw21;clear hw21;go_wp2_with fail
 refine(Bn w0 _ b 1 bb (t0++dqT d++[60]) (by have hz:=HZ.out;simp only[LA,LC,LN];omega) u HB.out.u HW21.out HL.out HHN.out HLP.out HLH.out).mono ?_;rintro e w22 ⟨rfl,hw22⟩;have HW22:Hid (UW w0 bb (t0++dqT d++[60]++BY u) w22):=Hi hw22;clear hw22;go_wp2_with fail
 refine(HW22.out.ws ⟨#[62]⟩ (by have hz:=HZ.out;(try simp only[LA,LC,LN,AF]);(try simp only[ByteArray.size,List.size_toArray,LC,LN]);omega)).mono ?_;rintro e w23 ⟨rfl,hw23⟩;have HW23:Hid (UW w0 bb (t0++dqT d++[60]++BY u++[62]) w23):=Hi hw23;clear hw23;obtain⟨Al,cl,el,hlx⟩:=HLV.out;subst el
 have HCL:Hid (w0.cell? ⟨b,11,none⟩=some (.slice Al l.length cl)):=Hi HCL.out;have gl:w23.cell? ⟨b,11,none⟩=some (.slice Al l.length cl):=HW23.out.le.cell HCL.out;cases Al with
 |none=>
  have hl0:l=[]:=by
   rcases hx:l with _|⟨x,r⟩
   ·rfl
   ·obtain⟨g,o,e,_⟩:=hlx.2.2.2.2 (by rw[hx];simp);cases e
  have HPF:Hid (uPs l 59 59=[]):=Hi (by unfold uPs;rw[if_pos hl0]);clear hlx hl0;go_wp2
  go_returns
  refine⟨rfl,?_⟩;have h:=HW23.out;unfold kAd;rw[HPF.out];simp only[List.append_assoc,List.cons_append,List.nil_append,List.append_nil]at h⊢;exact h
 |some al=>
  clear hlx;go_wp2_with fail
  refine(Ck _ _ l (HLV.out.le HW23.out.le)).mono ?_;rintro e wl ⟨rfl,rfl⟩;by_cases hl0:l=[]
  ·have hzn:¬0<l.length:=by rw[hl0];simp
   have hzl:l.length≤0:=by omega
   have HPF:Hid (uPs l 59 59=[]):=Hi (by unfold uPs;rw[if_pos hl0]);clear hl0;go_wp2
   go_returns
   refine⟨rfl,?_⟩;have h:=HW23.out;unfold kAd;rw[HPF.out];simp only[List.append_assoc,List.cons_append,List.nil_append,List.append_nil]at h⊢;exact h
  ·have hpos:0<l.length:=List.length_pos_iff.2 hl0;have hzd:decide ((0:Int)<(l.length:Int))=true:=by simp;omega
   have HPF:Hid (uPs l 59 59=59::AZ l 59):=Hi (by unfold uPs;rw[if_neg hl0]);clear hl0;go_wp2_with fail
   refine(HW23.out.ws ⟨#[59]⟩ (by have hz:=HZ.out;(try simp only[LA,LC,LN,AF]);(try simp only[ByteArray.size,List.size_toArray,LC,LN]);omega)).mono ?_;rintro e w24 ⟨rfl,hw24⟩;have HW24:Hid (UW w0 bb (t0++dqT d++[60]++BY u++[62]++[59]) w24):=Hi hw24;clear hw24
   have gq:w24.cell? ⟨b,11,none⟩=some (.slice (some al) l.length cl):=HW24.out.le.cell HCL.out;go_wp2_with fail
   refine(EB w0.heap.size bb (t0++dqT d++[60]++BY u++[62]++[59]) (by have hz:=HZ.out;simp only[LA,LC,LN];omega) w24 (.slice (some al) l.length cl) l 59 (by decide) (HLV.out.le HW24.out.le) HW24.out.bld HW24.out.le.size HFL.out).mono ?_;rintro e w25 ⟨rfl,hb25,hf25⟩
   have HW25:Hid (UW w0 bb (t0++dqT d++[60]++BY u++[62]++[59]++AZ l 59) w25):=Hi ⟨Below.trans HW24.out.le hf25.1,hb25⟩;clear hb25 hf25;go_wp2
   go_returns
   refine⟨rfl,?_⟩;have h:=HW25.out;unfold kAd;rw[HPF.out];simp only[List.append_assoc,List.cons_append,List.nil_append,List.append_nil]at h⊢;exact h
theorem KE(w0:World)(b:Nat)(d:Tx)(u:PU)(l:KVs)(hb:AdC w0 b d u l)(hL:BW w0)(hz:AdZ d u l):Calls Tryz.prog 281 #[.pointer (some ⟨b,0,none⟩)] w0 fun e w'=>e= .returned (.string (st (kAd d u l)))∧Le w0 w':=by
 have HB:=Hi hb;have HL:=Hi hL;have HZ:=Hi hz;clear hb hL hz;go_enter Tryz.func281,Tryz.ntmps281;go_wp2_with fail
 refine(Ls w0 _ b w0.heap.size [] d u l HB.out ⟨(AC w0).alloc _,BR w0⟩ HL.out HZ.out (by decide)).mono ?_;rintro e w2 ⟨rfl,hw2⟩;have HW2:=Hi hw2;clear hw2;go_wp2_with fail
 refine(Bj _ _ _ _ HW2.out.bld).mono ?_;rintro e w3 ⟨rfl,_,hf3⟩;have HL3:Hid (Le w0 w3):=Hi (Below.trans HW2.out.le hf3.1);clear hf3;go_wp2;go_ret;exact⟨by simp,HL3.out⟩
theorem Pg(w0 w:World)(b bb:Nat)(d:Tx)(u:PU)(l:KVs)(hb:AdC w0 b d u l)(hw:UW w0 bb [] w)(hL:BW w0)(hz:AdZ d u l):
 Calls Tryz.prog 280 #[.pointer (some ⟨b,0,none⟩),.iface 127 (.pointer (some ⟨bb,0,none⟩))] w fun e w'=>e= .returned (.tuple #[])∧UW w0 bb ([82,101,102,101,114,114,101,100,45,66,121,58,32]++kAd d u l) w':=by
 have HB:=Hi hb;have HW0:=Hi hw;have HL:=Hi hL;have HZZ:=Hi hz;have HZ:=Hi trivial;have hna:∀(n:Nat) (w:World),(nilAhead (n+1) 127 (.pointer (some ⟨bb,0,none⟩)) "WriteString").run Tryz.prog w= .ok (some false) w:=fun n w=>by kernel_rfl
 clear hb hw hL hz;go_enter Tryz.func280,Tryz.ntmps280;go_wp2;go_still_tail 6,(by kernel_rfl)
 still_call (Lu _ _)
 repeat still_step
 refine wpStill_nil ?_;change wpList _ _ _ _ _ (World.drew _);have HW1:=Hi (HW0.out.grow (AC _).drew);generalize World.drew _=wd1 at HW1⊢;go_wp2_with fail
 refine(HW1.out.ws ⟨#[82,101,102,101,114,114,101,100,45,66,121]⟩ (by decide)).mono ?_;rintro e w2 ⟨rfl,hw2⟩;have HW2:Hid (UW w0 bb [82,101,102,101,114,114,101,100,45,66,121] w2):=Hi hw2;clear hw2;go_wp2_with fail
 refine(HW2.out.ws ⟨#[58,32]⟩ (by decide)).mono ?_;rintro e w3 ⟨rfl,hw3⟩;have HW3:Hid (UW w0 bb [82,101,102,101,114,114,101,100,45,66,121,58,32] w3):=Hi hw3;clear hw3;go_wp2_with fail
 refine(Ls w0 _ b bb [82,101,102,101,114,114,101,100,45,66,121,58,32] d u l HB.out HW3.out HL.out HZZ.out (by decide)).mono ?_;rintro e w4 ⟨rfl,hw4⟩;have HW4:=Hi hw4;clear hw4;go_wp2
 go_returns
 exact⟨rfl,HW4.out⟩
theorem If(w0:World)(b:Nat)(d:Tx)(u:PU)(l:KVs)(hb:AdC w0 b d u l)(hL:BW w0)(hz:AdZ d u l):Calls Tryz.prog 279 #[.pointer (some ⟨b,0,none⟩)] w0 fun e w'=>e= .returned (.string (st ([82,101,102,101,114,114,101,100,45,66,121,58,32]++kAd d u l)))∧Le w0 w':=by
 have HB:=Hi hb;have HL:=Hi hL;have HZ:=Hi hz;clear hb hL hz;go_enter Tryz.func279,Tryz.ntmps279;go_wp2_with fail
 refine(Pg w0 _ b w0.heap.size d u l HB.out ⟨(AC w0).alloc _,BR w0⟩ HL.out HZ.out).mono ?_;rintro e w2 ⟨rfl,hw2⟩;have HW2:=Hi hw2;clear hw2;go_wp2_with fail
 refine(Bj _ _ _ _ HW2.out.bld).mono ?_;rintro e w3 ⟨rfl,_,hf3⟩;have HL3:Hid (Le w0 w3):=Hi (Below.trans HW2.out.le hf3.1);clear hf3;go_wp2;go_ret;exact⟨by simp,HL3.out⟩
end Go.Proofs.YtejhpdcjafbklaaGreatDoor
