/- The law FnHeadWritten: HwX FnHW. -/
import Derived.Test.YtejhpdcjafbklaaGreatDoorHwZ
set_option linter.all false
set_option maxHeartbeats 32000000
set_option maxRecDepth 8000
namespace Go.Proofs.YtejhpdcjafbklaaGreatDoor
open Go.RowKit
def QF(p:PH)(w:World)(e:Ending)(w':World):Prop:=∃r:Bool,e= .returned (.bool r)∧Le w w'∧(r=true→ftU p.uri=true∧Is p.ps=true)
theorem KQ(w:World)(x:HV)(p:PH)(hx:Hw w x p):Calls Tryz.prog 4 #[x.val] w (QF p w):=by
 obtain⟨xt,xn,xx,xd,xu,xp,xm,x1,x2,x3,x4,xo⟩:=x;obtain rfl:xt=p.t:=hx.t;obtain rfl:xm=p.num:=hx.num;obtain rfl:xo=p.port:=hx.port;obtain⟨An,cn,rfl⟩:=(show Bv w xn p.name from hx.name).form;obtain⟨At,ct,rfl⟩:=(show Bv w xx p.text from hx.text).form;obtain⟨Ad,cd,rfl⟩:=(show Bv w xd p.disp from hx.disp).form;obtain⟨A1,c1,rfl⟩:=(show Bv w x1 p.proto from hx.proto).form
 obtain⟨A2,c2,rfl⟩:=(show Bv w x2 p.ver from hx.ver).form;obtain⟨A3,c3,rfl⟩:=(show Bv w x3 p.tr from hx.tr).form;obtain⟨A4,c4,rfl⟩:=(show Bv w x4 p.host from hx.host).form;obtain⟨Aq,cq,rfl⟩:=(show Kw w xp p.ps from hx.ps).form;have HX:=Hi hx;clear hx
 change Calls _ _ #[.agg #[.int .i64 p.t,.slice An p.name.length cn,.slice At p.text.length ct,.slice Ad p.disp.length cd,xu.scheme,xu.raw,.bool xu.wild,.bool xu.slash,xu.user,xu.pass,xu.host,.int .i64 xu.port,xu.ps,xu.hs,.slice Aq p.ps.length cq,.int .u32 p.num,.slice A1 p.proto.length c1,.slice A2 p.ver.length c2,.slice A3 p.tr.length c3,.slice A4 p.host.length c4,.int .i64 p.port]] _ _
 obtain⟨rname,hname⟩:∃r,ftB p.name.length=r:=⟨_,rfl⟩;cases rname
 ·have gname:=D6 hname;clear hname;go_enter Tryz.func4,Tryz.ntmps4;go_wp2;go_ret;exact⟨false,rfl,(AC w).alloc _,fun h=>by cases h⟩
 have gname:=D5 hname;clear hname;obtain⟨rtext,htext⟩:∃r,ftB p.text.length=r:=⟨_,rfl⟩;cases rtext
 ·have gtext:=D6 htext;clear htext;go_enter Tryz.func4,Tryz.ntmps4;go_wp2;go_ret;exact⟨false,rfl,(AC w).alloc _,fun h=>by cases h⟩
 have gtext:=D5 htext;clear htext;obtain⟨rdisp,hdisp⟩:∃r,ftB p.disp.length=r:=⟨_,rfl⟩;cases rdisp
 ·have gdisp:=D6 hdisp;clear hdisp;go_enter Tryz.func4,Tryz.ntmps4;go_wp2;go_ret;exact⟨false,rfl,(AC w).alloc _,fun h=>by cases h⟩
 have gdisp:=D5 hdisp;clear hdisp;go_enter Tryz.func4,Tryz.ntmps4;go_upto_region 1 with fail
 change Code.wp _ _ _ _ (w.alloc (Obj.cells (HV.row ⟨p.t,.slice An p.name.length cn,.slice At p.text.length ct,.slice Ad p.disp.length cd,xu,.slice Aq p.ps.length cq,p.num,.slice A1 p.proto.length c1,.slice A2 p.ver.length c2,.slice A3 p.tr.length c3,.slice A4 p.host.length c4,p.port⟩) 28))
 have HB:=Hi (heap_alloc_new w (Obj.cells (HV.row ⟨p.t,.slice An p.name.length cn,.slice At p.text.length ct,.slice Ad p.disp.length cd,xu,.slice Aq p.ps.length cq,p.num,.slice A1 p.proto.length c1,.slice A2 p.ver.length c2,.slice A3 p.tr.length c3,.slice A4 p.host.length c4,p.port⟩) 28))
 have HL0:Hid (Le w (w.alloc (Obj.cells (HV.row ⟨p.t,.slice An p.name.length cn,.slice At p.text.length ct,.slice Ad p.disp.length cd,xu,.slice Aq p.ps.length cq,p.num,.slice A1 p.proto.length c1,.slice A2 p.ver.length c2,.slice A3 p.tr.length c3,.slice A4 p.host.length c4,p.port⟩) 28))):=Hi ((AC w).alloc _)
 generalize w.alloc (Obj.cells (HV.row ⟨p.t,.slice An p.name.length cn,.slice At p.text.length ct,.slice Ad p.disp.length cd,xu,.slice Aq p.ps.length cq,p.num,.slice A1 p.proto.length c1,.slice A2 p.ver.length c2,.slice A3 p.tr.length c3,.slice A4 p.host.length c4,p.port⟩) 28)=W0 at HB HL0⊢;obtain⟨b,hb⟩:∃b,b=w.heap.size:=⟨_,rfl⟩;rw[←hb]at HB⊢;clear hb
 have f1:W0.cell? ⟨b,1,none⟩=some (.slice An p.name.length cn):=AB HB.out 1;have f2:W0.cell? ⟨b,2,none⟩=some (.slice At p.text.length ct):=AB HB.out 2;have f3:W0.cell? ⟨b,3,none⟩=some (.slice Ad p.disp.length cd):=AB HB.out 3;obtain⟨ru,hru⟩:∃r,ftU p.uri=r:=⟨_,rfl⟩;have HRU:=Hi hru;clear hru
 go_wp2_with (refine BN rfl 25 (.tmp 15) rfl b 4 rfl 28 (HV.row ⟨p.t,.slice An p.name.length cn,.slice At p.text.length ct,.slice Ad p.disp.length cd,xu,.slice Aq p.ps.length cq,p.num,.slice A1 p.proto.length c1,.slice A2 p.ver.length c2,.slice A3 p.tr.length c3,.slice A4 p.host.length c4,p.port⟩) xu.row (0,0) _ HB.out (CF ⟨p.t,.slice An p.name.length cn,.slice At p.text.length ct,.slice Ad p.disp.length cd,xu,.slice Aq p.ps.length cq,p.num,.slice A1 p.proto.length c1,.slice A2 p.ver.length c2,.slice A3 p.tr.length c3,.slice A4 p.host.length c4,p.port⟩) Tryz.underlying25 rfl Gg ?_)
 refine(KS W0 xu p.uri ru HRU.out (HX.out.uri.le HL0.out)).mono ?_;rintro e W1 ⟨rfl,hle1⟩;have HL1:Hid (Le w W1):=Hi (HL0.out.trans hle1);have HB1:=Hi (hle1.heap HB.out);clear hle1 f1 f2 f3;cases ru
 ·go_wp2;go_ret;exact⟨false,rfl,HL1.out,fun h=>by cases h⟩
 have g14:W1.cell? ⟨b,14,none⟩=some (.slice Aq p.ps.length cq):=AB HB1.out 14;obtain⟨rp,hrp⟩:∃r,Is p.ps=r:=⟨_,rfl⟩;have HRP:=Hi hrp;clear hrp;go_wp2_with fail
 refine(FP W1 _ p.ps rp HRP.out (HX.out.ps.le HL1.out)).mono ?_;rintro e W2 ⟨rfl,hle2⟩;have HL2:Hid (Le w W2):=Hi (HL1.out.trans hle2);have HB2:=Hi (hle2.heap HB1.out);clear hle2 g14;cases rp
 ·go_wp2;go_ret;exact⟨false,rfl,HL2.out,fun h=>by cases h⟩
 have f16:W2.cell? ⟨b,16,none⟩=some (.slice A1 p.proto.length c1):=AB HB2.out 16;have f17:W2.cell? ⟨b,17,none⟩=some (.slice A2 p.ver.length c2):=AB HB2.out 17;have f18:W2.cell? ⟨b,18,none⟩=some (.slice A3 p.tr.length c3):=AB HB2.out 18;have f19:W2.cell? ⟨b,19,none⟩=some (.slice A4 p.host.length c4):=AB HB2.out 19
 obtain⟨rproto,hproto⟩:∃r,ftB p.proto.length=r:=⟨_,rfl⟩;cases rproto
 ·have gproto:=D6 hproto;clear hproto;go_wp2;go_ret;exact⟨false,rfl,HL2.out,fun h=>by cases h⟩
 have gproto:=D5 hproto;clear hproto;obtain⟨rver,hver⟩:∃r,ftB p.ver.length=r:=⟨_,rfl⟩;cases rver
 ·have gver:=D6 hver;clear hver;go_wp2;go_ret;exact⟨false,rfl,HL2.out,fun h=>by cases h⟩
 have gver:=D5 hver;clear hver;obtain⟨rtr,htr⟩:∃r,ftB p.tr.length=r:=⟨_,rfl⟩;cases rtr
 ·have gtr:=D6 htr;clear htr;go_wp2;go_ret;exact⟨false,rfl,HL2.out,fun h=>by cases h⟩
 have gtr:=D5 htr;clear htr;obtain⟨rhost,hhost⟩:∃r,ftB p.host.length=r:=⟨_,rfl⟩;cases rhost
 ·have ghost:=D6 hhost;clear hhost;go_wp2;go_ret;exact⟨false,rfl,HL2.out,fun h=>by cases h⟩
 have ghost:=D5 hhost;clear hhost;go_wp2;go_ret;exact⟨true,rfl,HL2.out,fun _=>⟨HRU.out,HRP.out⟩⟩
structure HvQ(p:PH):Prop where
 name:p.name.length≤8192
 text:p.text.length≤8192
 disp:p.disp.length≤8192
 uri:HvS p.uri
 ps:hvN p.ps p.ps.length≤8192
 proto:p.proto.length≤8192
 ver:p.ver.length≤8192
 tr:p.tr.length≤8192
 host:p.host.length≤8192
def H6(u:PU)(k:Nat):Prop:=(k≤8192→HvS u)∧k≤9007199254740992
def Jn(l:KVs)(k:Nat):Prop:=(k≤8192→hvN l l.length≤k)∧k≤1125899906842624
def Re(p:PH)(w:World)(e:Ending)(w':World):Prop:=∃n:Nat,e= .returned (.int .i64 n)∧(n≤8192→HvQ p)∧Le w w'
def HhS(p:PH)(w:World)(n:Nat)(nv iv:Value)(wr:World):Prop:=Le w wr∧((n=1∧iv= .int .i64 0∧nv= .int .i64 1)∨(n=0∧iv= .int .i64 1∧∃N:Nat,nv= .int .i64 (N:Int)∧N≤1152921504606846976∧(N≤8192→HvQ p)))
def hhS(gb:Nat)(xu:UV)(u:PU)(l:KVs)(An At Ad Aq A1 A2 A3 A4:Option Addr)(n1 cn n2 ct n3 cd nq cq m1 c1 m2 c2 m3 c3 m4 c4:Nat):Nat→Value→World→Prop
 |3,v,_=>v=(.int .i64 1)
 |5,v,_=>v=(.pointer (some ⟨gb,0,none⟩))
 |22,v,_=>v=(.int .i64 1)
 |23,v,_=>v=(.pointer (some ⟨gb,1,none⟩))
 |24,v,_=>v=(.slice An n1 cn)
 |25,v,_=>v=(.int .i64 (n1:Int))
 |26,v,_=>v=(.pointer (some ⟨gb,2,none⟩))
 |27,v,_=>v=(.slice At n2 ct)
 |28,v,_=>v=(.int .i64 (n2:Int))
 |29,v,_=>v=(.int .i64 ((n1:Int)+(n2:Int)))
 |30,v,_=>v=(.pointer (some ⟨gb,3,none⟩))
 |31,v,_=>v=(.slice Ad n3 cd)
 |32,v,_=>v=(.int .i64 (n3:Int))
 |33,v,_=>v=(.int .i64 ((n1:Int)+(n2:Int)+(n3:Int)))
 |34,v,_=>v=(.pointer (some ⟨gb,4,none⟩))
 |35,v,_=>v=xu.val
 |36,v,w_=>∃k1:Nat,v= .int .i64 (k1:Int)∧H6 u k1
 |37,v,w_=>∃k1:Nat,v= .int .i64 ((n1:Int)+(n2:Int)+(n3:Int)+(k1:Int))∧H6 u k1
 |38,v,_=>v=(.pointer (some ⟨gb,14,none⟩))
 |39,v,_=>v=(.slice Aq nq cq)
 |40,v,w_=>∃k2:Nat,v= .int .i64 (k2:Int)∧Jn l k2
 |41,v,w_=>∃k1 k2:Nat,v= .int .i64 ((n1:Int)+(n2:Int)+(n3:Int)+(k1:Int)+(k2:Int))∧H6 u k1∧Jn l k2
 |42,v,_=>v=(.pointer (some ⟨gb,16,none⟩))
 |43,v,_=>v=(.slice A1 m1 c1)
 |44,v,_=>v=(.int .i64 (m1:Int))
 |45,v,w_=>∃k1 k2:Nat,v= .int .i64 ((n1:Int)+(n2:Int)+(n3:Int)+(k1:Int)+(k2:Int)+(m1:Int))∧H6 u k1∧Jn l k2
 |46,v,_=>v=(.pointer (some ⟨gb,17,none⟩))
 |47,v,_=>v=(.slice A2 m2 c2)
 |48,v,_=>v=(.int .i64 (m2:Int))
 |49,v,w_=>∃k1 k2:Nat,v= .int .i64 ((n1:Int)+(n2:Int)+(n3:Int)+(k1:Int)+(k2:Int)+(m1:Int)+(m2:Int))∧H6 u k1∧Jn l k2
 |50,v,_=>v=(.pointer (some ⟨gb,18,none⟩))
 |51,v,_=>v=(.slice A3 m3 c3)
 |52,v,_=>v=(.int .i64 (m3:Int))
 |53,v,w_=>∃k1 k2:Nat,v= .int .i64 ((n1:Int)+(n2:Int)+(n3:Int)+(k1:Int)+(k2:Int)+(m1:Int)+(m2:Int)+(m3:Int))∧H6 u k1∧Jn l k2
 |54,v,_=>v=(.pointer (some ⟨gb,19,none⟩))
 |55,v,_=>v=(.slice A4 m4 c4)
 |56,v,_=>v=(.int .i64 (m4:Int))
 |57,v,w_=>∃k1 k2:Nat,v= .int .i64 ((n1:Int)+(n2:Int)+(n3:Int)+(k1:Int)+(k2:Int)+(m1:Int)+(m2:Int)+(m3:Int)+(m4:Int))∧H6 u k1∧Jn l k2
 |58,v,w_=>∃k1 k2:Nat,v= .int .i64 (1+((n1:Int)+(n2:Int)+(n3:Int)+(k1:Int)+(k2:Int)+(m1:Int)+(m2:Int)+(m3:Int)+(m4:Int)))∧H6 u k1∧Jn l k2
 |_,_,_=>True
theorem OD(gb:Nat)(xu:UV)(u:PU)(l:KVs)(An At Ad Aq A1 A2 A3 A4:Option Addr)(n1 cn n2 ct n3 cd nq cq m1 c1 m2 c2 m3 c3 m4 c4:Nat)(t:Nat)(v:Value)(w1 w2:World)(k:Le w1 w2)(h:hhS gb xu u l An At Ad Aq A1 A2 A3 A4 n1 cn n2 ct n3 cd nq cq m1 c1 m2 c2 m3 c3 m4 c4 t v w1):hhS gb xu u l An At Ad Aq A1 A2 A3 A4 n1 cn n2 ct n3 cd nq cq m1 c1 m2 c2 m3 c3 m4 c4 t v w2:=by
 unfold hhS at h⊢;split at h<;>first|exact h|exact h
theorem He(w:World)(x:HV)(p:PH)(gl:Nat)(hx:Hz (fun _=>True) w x p)(hb:w.heap[gl]? =some (.cells x.row 28 (0,0))):Calls Tryz.prog 5 #[.slice (some ⟨gl,0,none⟩) 1 1] w (Re p w):=by
 obtain⟨xt,xn,xx,xd,xu,xp,xm,x1,x2,x3,x4,xo⟩:=x;obtain rfl:xt=p.t:=hx.t;obtain rfl:xm=p.num:=hx.num;obtain rfl:xo=p.port:=hx.port;obtain⟨An,cn,rfl⟩:=(show Bv w xn p.name from hx.name).form;obtain⟨At,ct,rfl⟩:=(show Bv w xx p.text from hx.text).form;obtain⟨Ad,cd,rfl⟩:=(show Bv w xd p.disp from hx.disp).form;obtain⟨A1,c1,rfl⟩:=(show Bv w x1 p.proto from hx.proto).form
 obtain⟨A2,c2,rfl⟩:=(show Bv w x2 p.ver from hx.ver).form;obtain⟨A3,c3,rfl⟩:=(show Bv w x3 p.tr from hx.tr).form;obtain⟨A4,c4,rfl⟩:=(show Bv w x4 p.host from hx.host).form;obtain⟨Aq,cq,rfl⟩:∃A c,xp= .slice A p.ps.length c:=by obtain⟨A,c,e,_⟩:=hx.ps;exact⟨A,c,e⟩
 have HX:=Hi hx;have HF:=Hi hx.fit;have HBL:=Hi hb;have bl:∀{v:Value} {l:Tx},Bv w v l→l.length≤140737488355328:=fun h=>by obtain⟨_,_,_,_,_,k⟩:=h;exact k.1
 have HNS:Hid (p.name.length≤140737488355328∧p.text.length≤140737488355328∧p.disp.length≤140737488355328∧p.proto.length≤140737488355328∧p.ver.length≤140737488355328∧p.tr.length≤140737488355328∧p.host.length≤140737488355328):=Hi ⟨bl hx.name,bl hx.text,bl hx.disp,bl hx.proto,bl hx.ver,bl hx.tr,bl hx.host⟩;clear hx hb bl;go_enter Tryz.func5,Tryz.ntmps5;go_wp2
 go_loopg [3,4] (1) (fun n nv iv wr=>HhS p w n nv iv wr)
 case atStart=>exact⟨AC _,.inl ⟨rfl,rfl,rfl⟩⟩
 case round=>
  obtain⟨hle,hst⟩:=hrel;have HL:=Hi hle;clear hle
  rename World=>wr
  rcases hst with⟨hgk,rfl,rfl⟩|⟨hgk,rfl,N,rfl,hN,hqq⟩
  ·have HBR:=Hi (HL.out.heap HBL.out)
   go_upto_region 6 with(first|refine wpList_load_row rfl 28 (.tmp 20) rfl gl rfl 28 (HV.row ⟨p.t,.slice An p.name.length cn,.slice At p.text.length ct,.slice Ad p.disp.length cd,xu,.slice Aq p.ps.length cq,p.num,.slice A1 p.proto.length c1,.slice A2 p.ver.length c2,.slice A3 p.tr.length c3,.slice A4 p.host.length c4,p.port⟩) (0,0) _ HBR.out Tryz.underlying28 rfl Be ?_ |refine AD rfl 28 (.tmp 5) (.tmp 21) rfl wr.heap.size (HV.row ⟨p.t,.slice An p.name.length cn,.slice At p.text.length ct,.slice Ad p.disp.length cd,xu,.slice Aq p.ps.length cq,p.num,.slice A1 p.proto.length c1,.slice A2 p.ver.length c2,.slice A3 p.tr.length c3,.slice A4 p.host.length c4,p.port⟩) rfl rfl 28 HV.nil.row (heap_alloc_new wr _) Be rfl HF.out.one ?_)
   intro W5 hz5 hk5;have HR5:Hid (W5.heap[wr.heap.size]? =some (.cells (HV.row ⟨p.t,.slice An p.name.length cn,.slice At p.text.length ct,.slice Ad p.disp.length cd,xu,.slice Aq p.ps.length cq,p.num,.slice A1 p.proto.length c1,.slice A2 p.ver.length c2,.slice A3 p.tr.length c3,.slice A4 p.host.length c4,p.port⟩) 28 (0,0))):=Hi hz5
   have HL5:Hid (Le w W5):=Hi (HL.out.trans (Below.trans ((AC wr).alloc _) (hk5.below (NL _) ((AC wr).alloc _).size)));have HX5:=Hi (HX.out.le HL5.out);clear hz5 hk5;go_upto_region 6 with fail
   generalize wr.heap.size=gb at HR5⊢;have hm_hh:(Tryz.prog).follows .mixedOrders=true:=by kernel_rfl
   refine G3.wp_region_grow_tail (hhS gb xu p.uri p.ps An At Ad Aq A1 A2 A3 A4 p.name.length cn p.text.length ct p.disp.length cd p.ps.length cq p.proto.length c1 p.ver.length c2 p.tr.length c3 p.host.length c4) ((Le W5)) 60 37 [22,23,24,25,26,27,28,29,30,31,32,33,34,35,36,37,38,39,40,41,42,43,44,45,46,47,48,49,50,51,52,53,54,55,56,57,58] hm_hh (by kernel_rfl) rfl rfl ?hG_hh ?hold_hh ?hs_hh ?hend_hh
   case hG_hh=>exact(AC W5).drew
   case hold_hh=>
    intro t ht;simp only[List.mem_cons,List.mem_nil_iff,or_false,not_or]at ht;unfold hhS;split<;>first|exact True.intro|(exfalso;simp at ht;done)|rfl
   case hs_hh=>
    simp only[List.take_succ_cons,List.take_zero];refine⟨?_,?_,?_,?_,?_,?_,?_,?_,?_,?_,?_,?_,?_,?_,?_,?_,?_,?_,?_,?_,?_,?_,?_,?_,?_,?_,?_,?_,?_,?_,?_,?_,?_,?_,?_,?_,?_,trivial⟩
    ·refine AA fun a W hg hop=>?_;have h3:_=_:=hq hop 3;have h3':=tg h3;refine⟨_,?_,rfl⟩;simp only[execOp,h3];go_simp
    ·refine AA fun a W hg hop=>?_;have h5:_=_:=hq hop 5;have h5':=tg h5;refine⟨_,?_,rfl⟩;simp only[execOp,h5];go_simp
    ·refine AA fun a W hg hop=>?_;have h23:_=_:=hq hop 23;have h23':=tg h23;have hc:W.cell? ⟨gb,1,none⟩=some (.slice An p.name.length cn):=(AB (hg.heap HR5.out) 1);refine⟨_,?_,rfl⟩;simp only[execOp,h23];go_simp
    ·refine AA fun a W hg hop=>?_;have h24:_=_:=hq hop 24;have h24':=tg h24;refine⟨_,?_,rfl⟩;simp only[execOp,h24];go_simp
    ·refine AA fun a W hg hop=>?_;have h5:_=_:=hq hop 5;have h5':=tg h5;refine⟨_,?_,rfl⟩;simp only[execOp,h5];go_simp
    ·refine AA fun a W hg hop=>?_;have h26:_=_:=hq hop 26;have h26':=tg h26;have hc:W.cell? ⟨gb,2,none⟩=some (.slice At p.text.length ct):=(AB (hg.heap HR5.out) 2);refine⟨_,?_,rfl⟩;simp only[execOp,h26];go_simp
    ·refine AA fun a W hg hop=>?_;have h27:_=_:=hq hop 27;have h27':=tg h27;refine⟨_,?_,rfl⟩;simp only[execOp,h27];go_simp
    ·refine AA fun a W hg hop=>?_;have h25:_=_:=hq hop 25;have h25':=tg h25;have h28:_=_:=hq hop 28;have h28':=tg h28;refine⟨_,?_,rfl⟩;simp only[execOp,h25,h28];go_simp;exact IntWalk.i64_in _ (by have:=HNS.out;omega)
    ·refine AA fun a W hg hop=>?_;have h5:_=_:=hq hop 5;have h5':=tg h5;refine⟨_,?_,rfl⟩;simp only[execOp,h5];go_simp
    ·refine AA fun a W hg hop=>?_;have h30:_=_:=hq hop 30;have h30':=tg h30;have hc:W.cell? ⟨gb,3,none⟩=some (.slice Ad p.disp.length cd):=(AB (hg.heap HR5.out) 3);refine⟨_,?_,rfl⟩;simp only[execOp,h30];go_simp
    ·refine AA fun a W hg hop=>?_;have h31:_=_:=hq hop 31;have h31':=tg h31;refine⟨_,?_,rfl⟩;simp only[execOp,h31];go_simp
    ·refine AA fun a W hg hop=>?_;have h29:_=_:=hq hop 29;have h29':=tg h29;have h32:_=_:=hq hop 32;have h32':=tg h32;refine⟨_,?_,rfl⟩;simp only[execOp,h29,h32];go_simp;exact IntWalk.i64_in _ (by have:=HNS.out;omega)
    ·refine AA fun a W hg hop=>?_;have h5:_=_:=hq hop 5;have h5':=tg h5;refine⟨_,?_,rfl⟩;simp only[execOp,h5];go_simp
    ·refine AA fun a W hg hop=>?_;have h34:_=_:=hq hop 34;have h34':=tg h34;refine⟨_,?_,rfl⟩
     have hs:=DL (P:=Tryz.prog) W gb 4 28 25 (HV.row ⟨p.t,.slice An p.name.length cn,.slice At p.text.length ct,.slice Ad p.disp.length cd,xu,.slice Aq p.ps.length cq,p.num,.slice A1 p.proto.length c1,.slice A2 p.ver.length c2,.slice A3 p.tr.length c3,.slice A4 p.host.length c4,p.port⟩) xu.row (0,0) _ (hg.heap HR5.out) (CF ⟨p.t,.slice An p.name.length cn,.slice At p.text.length ct,.slice Ad p.disp.length cd,xu,.slice Aq p.ps.length cq,p.num,.slice A1 p.proto.length c1,.slice A2 p.ver.length c2,.slice A3 p.tr.length c3,.slice A4 p.host.length c4,p.port⟩) Tryz.underlying25 rfl Gg
     simp only[execOp,h34,hs,Sem.run_bind,Sem.run_pure,Result.andThen,Sem.run_map];try rfl
    ·refine AG ?_ ?_ ?_ ?_
     ·exact fun t v w1 w2 kl h=>OD gb xu p.uri p.ps An At Ad Aq A1 A2 A3 A4 p.name.length cn p.text.length ct p.disp.length cd p.ps.length cq p.proto.length c1 p.ver.length c2 p.tr.length c3 p.host.length c4 t v w1 w2 kl h
     ·exact fun _ _ _ _ h=>h
     ·exact fun w1 w2 k h=>Le.trans h k
     ·intro a W hg hop;have h35:_=_:=hq hop 35;have h35':=tg h35;refine⟨14,#[xu.val],?_,(KG W xu p.uri (HX5.out.uri.toUq.le hg)).mono ?_⟩
      ·simp only[execOp,h35];go_simp
      ·rintro e w' ⟨n,rfl,h1,hle,h2⟩;exact⟨_,rfl,hle,n,rfl,h1,h2⟩
    ·refine AA fun a W hg hop=>?_;have h33:_=_:=hq hop 33;have h33':=tg h33;have h36:∃k1:Nat,(a.eval (.tmp 36))= .int .i64 (k1:Int)∧H6 p.uri k1:=(hq hop 36);obtain⟨k1,e36,hu⟩:=h36;have e36':=tg e36;refine⟨.int .i64 ((p.name.length:Int)+(p.text.length:Int)+(p.disp.length:Int)+(k1:Int)),?_,⟨k1,rfl,hu⟩⟩;simp only[execOp,h33,e36];go_simp
     exact IntWalk.i64_in _ (by have:=HNS.out;have:=hu.2;omega)
    ·refine AA fun a W hg hop=>?_;have h5:_=_:=hq hop 5;have h5':=tg h5;refine⟨_,?_,rfl⟩;simp only[execOp,h5];go_simp
    ·refine AA fun a W hg hop=>?_;have h38:_=_:=hq hop 38;have h38':=tg h38;have hc:W.cell? ⟨gb,14,none⟩=some (.slice Aq p.ps.length cq):=(AB (hg.heap HR5.out) 14);refine⟨_,?_,rfl⟩;simp only[execOp,h38];go_simp
    ·refine AG ?_ ?_ ?_ ?_
     ·exact fun t v w1 w2 kl h=>OD gb xu p.uri p.ps An At Ad Aq A1 A2 A3 A4 p.name.length cn p.text.length ct p.disp.length cd p.ps.length cq p.proto.length c1 p.ver.length c2 p.tr.length c3 p.host.length c4 t v w1 w2 kl h
     ·exact fun _ _ _ _ h=>h
     ·exact fun w1 w2 k h=>Le.trans h k
     ·intro a W hg hop;have h39:_=_:=hq hop 39;have h39':=tg h39;refine⟨15,#[.slice Aq p.ps.length cq],?_,(Il _ (.slice Aq p.ps.length cq) p.ps W (HX5.out.ps.le hg)).mono ?_⟩
      ·simp only[execOp,h39];go_simp
      ·rintro e w' ⟨n,rfl,h1,h2,hle⟩;exact⟨_,rfl,hle,n,rfl,h1,h2⟩
    ·refine AA fun a W hg hop=>?_;have h37:∃k1:Nat,(a.eval (.tmp 37))= .int .i64 ((p.name.length:Int)+(p.text.length:Int)+(p.disp.length:Int)+(k1:Int))∧H6 p.uri k1:=(hq hop 37);have h40:∃k2:Nat,(a.eval (.tmp 40))= .int .i64 (k2:Int)∧Jn p.ps k2:=(hq hop 40);obtain⟨k1,e37,hu⟩:=h37;obtain⟨k2,e40,hk⟩:=h40;have e37':=tg e37;have e40':=tg e40
     refine⟨.int .i64 ((p.name.length:Int)+(p.text.length:Int)+(p.disp.length:Int)+(k1:Int)+(k2:Int)),?_,⟨k1,k2,rfl,hu,hk⟩⟩;simp only[execOp,e37,e40];go_simp;exact IntWalk.i64_in _ (by have:=HNS.out;have:=hu.2;have:=hk.2;omega)
    ·refine AA fun a W hg hop=>?_;have h5:_=_:=hq hop 5;have h5':=tg h5;refine⟨_,?_,rfl⟩;simp only[execOp,h5];go_simp
    ·refine AA fun a W hg hop=>?_;have h42:_=_:=hq hop 42;have h42':=tg h42;have hc:W.cell? ⟨gb,16,none⟩=some (.slice A1 p.proto.length c1):=(AB (hg.heap HR5.out) 16);refine⟨_,?_,rfl⟩;simp only[execOp,h42];go_simp
    ·refine AA fun a W hg hop=>?_;have h43:_=_:=hq hop 43;have h43':=tg h43;refine⟨_,?_,rfl⟩;simp only[execOp,h43];go_simp
    ·refine AA fun a W hg hop=>?_;have h41:∃k1 k2:Nat,(a.eval (.tmp 41))= .int .i64 ((p.name.length:Int)+(p.text.length:Int)+(p.disp.length:Int)+(k1:Int)+(k2:Int))∧H6 p.uri k1∧Jn p.ps k2:=(hq hop 41);have h44:_=_:=hq hop 44;have h44':=tg h44;obtain⟨k1,k2,e41,hu,hk⟩:=h41;have e41':=tg e41
     refine⟨.int .i64 ((p.name.length:Int)+(p.text.length:Int)+(p.disp.length:Int)+(k1:Int)+(k2:Int)+(p.proto.length:Int)),?_,⟨k1,k2,rfl,hu,hk⟩⟩;simp only[execOp,e41,h44];go_simp;exact IntWalk.i64_in _ (by have:=HNS.out;have:=hu.2;have:=hk.2;omega)
    ·refine AA fun a W hg hop=>?_;have h5:_=_:=hq hop 5;have h5':=tg h5;refine⟨_,?_,rfl⟩;simp only[execOp,h5];go_simp
    ·refine AA fun a W hg hop=>?_;have h46:_=_:=hq hop 46;have h46':=tg h46;have hc:W.cell? ⟨gb,17,none⟩=some (.slice A2 p.ver.length c2):=(AB (hg.heap HR5.out) 17);refine⟨_,?_,rfl⟩;simp only[execOp,h46];go_simp
    ·refine AA fun a W hg hop=>?_;have h47:_=_:=hq hop 47;have h47':=tg h47;refine⟨_,?_,rfl⟩;simp only[execOp,h47];go_simp
    ·refine AA fun a W hg hop=>?_;have h45:∃k1 k2:Nat,(a.eval (.tmp 45))= .int .i64 ((p.name.length:Int)+(p.text.length:Int)+(p.disp.length:Int)+(k1:Int)+(k2:Int)+(p.proto.length:Int))∧H6 p.uri k1∧Jn p.ps k2:=(hq hop 45);have h48:_=_:=hq hop 48;have h48':=tg h48;obtain⟨k1,k2,e45,hu,hk⟩:=h45;have e45':=tg e45
     refine⟨.int .i64 ((p.name.length:Int)+(p.text.length:Int)+(p.disp.length:Int)+(k1:Int)+(k2:Int)+(p.proto.length:Int)+(p.ver.length:Int)),?_,⟨k1,k2,rfl,hu,hk⟩⟩;simp only[execOp,e45,h48];go_simp;exact IntWalk.i64_in _ (by have:=HNS.out;have:=hu.2;have:=hk.2;omega)
    ·refine AA fun a W hg hop=>?_;have h5:_=_:=hq hop 5;have h5':=tg h5;refine⟨_,?_,rfl⟩;simp only[execOp,h5];go_simp
    ·refine AA fun a W hg hop=>?_;have h50:_=_:=hq hop 50;have h50':=tg h50;have hc:W.cell? ⟨gb,18,none⟩=some (.slice A3 p.tr.length c3):=(AB (hg.heap HR5.out) 18);refine⟨_,?_,rfl⟩;simp only[execOp,h50];go_simp
    ·refine AA fun a W hg hop=>?_;have h51:_=_:=hq hop 51;have h51':=tg h51;refine⟨_,?_,rfl⟩;simp only[execOp,h51];go_simp
    ·refine AA fun a W hg hop=>?_;have h49:∃k1 k2:Nat,(a.eval (.tmp 49))= .int .i64 ((p.name.length:Int)+(p.text.length:Int)+(p.disp.length:Int)+(k1:Int)+(k2:Int)+(p.proto.length:Int)+(p.ver.length:Int))∧H6 p.uri k1∧Jn p.ps k2:=(hq hop 49);have h52:_=_:=hq hop 52;have h52':=tg h52;obtain⟨k1,k2,e49,hu,hk⟩:=h49;have e49':=tg e49
     refine⟨.int .i64 ((p.name.length:Int)+(p.text.length:Int)+(p.disp.length:Int)+(k1:Int)+(k2:Int)+(p.proto.length:Int)+(p.ver.length:Int)+(p.tr.length:Int)),?_,⟨k1,k2,rfl,hu,hk⟩⟩;simp only[execOp,e49,h52];go_simp;exact IntWalk.i64_in _ (by have:=HNS.out;have:=hu.2;have:=hk.2;omega)
    ·refine AA fun a W hg hop=>?_;have h5:_=_:=hq hop 5;have h5':=tg h5;refine⟨_,?_,rfl⟩;simp only[execOp,h5];go_simp
    ·refine AA fun a W hg hop=>?_;have h54:_=_:=hq hop 54;have h54':=tg h54;have hc:W.cell? ⟨gb,19,none⟩=some (.slice A4 p.host.length c4):=(AB (hg.heap HR5.out) 19);refine⟨_,?_,rfl⟩;simp only[execOp,h54];go_simp
    ·refine AA fun a W hg hop=>?_;have h55:_=_:=hq hop 55;have h55':=tg h55;refine⟨_,?_,rfl⟩;simp only[execOp,h55];go_simp
    ·refine AA fun a W hg hop=>?_;have h53:∃k1 k2:Nat,(a.eval (.tmp 53))= .int .i64 ((p.name.length:Int)+(p.text.length:Int)+(p.disp.length:Int)+(k1:Int)+(k2:Int)+(p.proto.length:Int)+(p.ver.length:Int)+(p.tr.length:Int))∧H6 p.uri k1∧Jn p.ps k2:=(hq hop 53);have h56:_=_:=hq hop 56;have h56':=tg h56;obtain⟨k1,k2,e53,hu,hk⟩:=h53;have e53':=tg e53
     refine⟨.int .i64 ((p.name.length:Int)+(p.text.length:Int)+(p.disp.length:Int)+(k1:Int)+(k2:Int)+(p.proto.length:Int)+(p.ver.length:Int)+(p.tr.length:Int)+(p.host.length:Int)),?_,⟨k1,k2,rfl,hu,hk⟩⟩;simp only[execOp,e53,h56];go_simp;exact IntWalk.i64_in _ (by have:=HNS.out;have:=hu.2;have:=hk.2;omega)
    ·refine AA fun a W hg hop=>?_;have h22:_=_:=hq hop 22;have h22':=tg h22;have h57:∃k1 k2:Nat,(a.eval (.tmp 57))= .int .i64 ((p.name.length:Int)+(p.text.length:Int)+(p.disp.length:Int)+(k1:Int)+(k2:Int)+(p.proto.length:Int)+(p.ver.length:Int)+(p.tr.length:Int)+(p.host.length:Int))∧H6 p.uri k1∧Jn p.ps k2:=(hq hop 57);obtain⟨k1,k2,e57,hu,hk⟩:=h57;have e57':=tg e57
     refine⟨.int .i64 (1+((p.name.length:Int)+(p.text.length:Int)+(p.disp.length:Int)+(k1:Int)+(k2:Int)+(p.proto.length:Int)+(p.ver.length:Int)+(p.tr.length:Int)+(p.host.length:Int))),?_,⟨k1,k2,rfl,hu,hk⟩⟩;simp only[execOp,e57,h22];go_simp;exact IntWalk.i64_in _ (by have:=HNS.out;have:=hu.2;have:=hk.2;omega)
   case hend_hh=>
    intro s_ wz hg hS;obtain⟨k1,k2,e58,hu,hk⟩:∃k1 k2:Nat,s_ 58= .int .i64 (1+((p.name.length:Int)+(p.text.length:Int)+(p.disp.length:Int)+(k1:Int)+(k2:Int)+(p.proto.length:Int)+(p.ver.length:Int)+(p.tr.length:Int)+(p.host.length:Int)))∧H6 p.uri k1∧Jn p.ps k2:=hS 58 (by decide);have HLZ:=Hi (show Le W5 wz from hg);have HU:=Hi hu;have HK:=Hi hk;clear hS hg hu hk
    simp only[Aj,Act.put,List.setIfInBounds_toArray,List.set_cons_zero,List.set_cons_succ,List.drop_succ_cons,List.drop_zero];rw[e58];clear e58
    obtain⟨N,hN⟩:∃N:Nat,(N:Int)=1+((p.name.length:Int)+(p.text.length:Int)+(p.disp.length:Int)+(k1:Int)+(k2:Int)+(p.proto.length:Int)+(p.ver.length:Int)+(p.tr.length:Int)+(p.host.length:Int)):=⟨1+(p.name.length+p.text.length+p.disp.length+k1+k2+p.proto.length+p.ver.length+p.tr.length+p.host.length),by omega⟩;rw[←hN];have HNN:Hid (N≤1152921504606846976∧(N≤8192→HvQ p)):=Hi (by
     have h1:=HNS.out;have h2:=HU.out;have h3:=HK.out;refine⟨by have:=h2.2;have:=h3.2;omega,fun h=>?_⟩;exact⟨by omega,by omega,by omega,h2.1 (by omega),by have:=h3.1 (by omega);omega,by omega,by omega,by omega,by omega⟩)
    clear hN;go_wp2;go_roundg (0)
    case measure=>omega
    case rel=>exact⟨HL5.out.trans HLZ.out,.inr ⟨rfl,by go_num,N,rfl,HNN.out⟩⟩
  ·have HQ:=Hi hqq;clear hqq;go_wp2;go_ret;exact⟨N,rfl,HQ.out,HL.out⟩
def hoS(W0:World)(b n0:Nat)(tt:Int)(xu:UV)(u:PU)(l:KVs)(An At Ad Aq A1 A2 A3 A4:Option Addr)(n1 cn n2 ct n3 cd nq cq nu m1 c1 m2 c2 m3 c3 m4 c4:Nat)(po:Int):Nat→Value→World→Prop
 |1,v,_=>v=(.pointer (some ⟨b,0,none⟩))
 |2,v,_=>v=(.pointer (some ⟨b+1,0,none⟩))
 |3,v,_=>v=(.pointer (some ⟨b,0,none⟩))
 |4,v,_=>v=(.int .i64 tt)
 |5,v,_=>v=(.pointer (some ⟨b,1,none⟩))
 |6,v,_=>v=(.slice An n1 cn)
 |7,v,_=>v=(.pointer (some ⟨b,2,none⟩))
 |8,v,_=>v=(.slice At n2 ct)
 |9,v,_=>v=(.pointer (some ⟨b,3,none⟩))
 |10,v,_=>v=(.slice Ad n3 cd)
 |11,v,_=>v=(.pointer (some ⟨b,4,none⟩))
 |12,v,_=>v=xu.val
 |13,v,w_=>∃y:UV,v=y.val∧Uz (W0.heap.size≤·) w_ y u
 |14,v,_=>v=(.pointer (some ⟨b,14,none⟩))
 |15,v,_=>v=(.slice Aq nq cq)
 |16,v,w_=>(Kq (fun _=>True) w_ v l∧KO (W0.heap.size≤·) v l)
 |17,v,_=>v=(.pointer (some ⟨b,15,none⟩))
 |18,v,_=>v=(.int .u32 nu)
 |19,v,_=>v=(.pointer (some ⟨b,16,none⟩))
 |20,v,_=>v=(.slice A1 m1 c1)
 |21,v,_=>v=(.pointer (some ⟨b,17,none⟩))
 |22,v,_=>v=(.slice A2 m2 c2)
 |23,v,_=>v=(.pointer (some ⟨b,18,none⟩))
 |24,v,_=>v=(.slice A3 m3 c3)
 |25,v,_=>v=(.pointer (some ⟨b,19,none⟩))
 |26,v,_=>v=(.slice A4 m4 c4)
 |27,v,_=>v=(.pointer (some ⟨b,20,none⟩))
 |28,v,_=>v=(.int .i64 po)
 |29,v,w_=>∃(y:UV) (A:Option Addr) (c:Nat),v= .agg (HV.row ⟨tt,.slice An n1 cn,.slice At n2 ct,.slice Ad n3 cd,y,.slice A l.length c,nu,.slice A1 m1 c1,.slice A2 m2 c2,.slice A3 m3 c3,.slice A4 m4 c4,po⟩)∧Uz (W0.heap.size≤·) w_ y u∧Kq (fun _=>True) w_ (.slice A l.length c) l∧KO (W0.heap.size≤·) (.slice A l.length c) l
 |_,_,_=>True
theorem OC(W0:World)(b n0:Nat)(tt:Int)(xu:UV)(u:PU)(l:KVs)(An At Ad Aq A1 A2 A3 A4:Option Addr)(n1 cn n2 ct n3 cd nq cq nu m1 c1 m2 c2 m3 c3 m4 c4:Nat)(po:Int)(t:Nat)(v:Value)(w1 w2:World)(k:Le w1 w2)(h:hoS W0 b n0 tt xu u l An At Ad Aq A1 A2 A3 A4 n1 cn n2 ct n3 cd nq cq nu m1 c1 m2 c2 m3 c3 m4 c4 po t v w1):hoS W0 b n0 tt xu u l An At Ad Aq A1 A2 A3 A4 n1 cn n2 ct n3 cd nq cq nu m1 c1 m2 c2 m3 c3 m4 c4 po t v w2:=by
 unfold hoS at h⊢;split at h<;>first|exact h|exact(by obtain⟨y,A,c,e,h1,h2,h3⟩:=h;exact⟨y,A,c,e,h1.le k,h2.le k,h3⟩)|exact(by obtain⟨y,e,h⟩:=h;exact⟨y,e,h.le k⟩)|exact⟨Kq.le h.1 k,h.2⟩
theorem Jc(w:World)(x:HV)(p:PH)(hx:Hz (fun _=>True) w x p)(hkl:p.uri.ps.length≤1099511627776∧p.uri.hs.length≤1099511627776∧p.ps.length≤1099511627776):
 Calls Tryz.prog 7 #[x.val] w fun e w'=>∃y:HV,e= .returned y.val∧Hz (fun _=>True) w' y p∧Le w w':=by
 obtain⟨xt,xn,xx,xd,xu,xp,xm,x1,x2,x3,x4,xo⟩:=x;obtain rfl:xt=p.t:=hx.t;obtain rfl:xm=p.num:=hx.num;obtain rfl:xo=p.port:=hx.port;obtain⟨An,cn,rfl⟩:=(show Bv w xn p.name from hx.name).form;obtain⟨At,ct,rfl⟩:=(show Bv w xx p.text from hx.text).form;obtain⟨Ad,cd,rfl⟩:=(show Bv w xd p.disp from hx.disp).form;obtain⟨A1,c1,rfl⟩:=(show Bv w x1 p.proto from hx.proto).form
 obtain⟨A2,c2,rfl⟩:=(show Bv w x2 p.ver from hx.ver).form;obtain⟨A3,c3,rfl⟩:=(show Bv w x3 p.tr from hx.tr).form;obtain⟨A4,c4,rfl⟩:=(show Bv w x4 p.host from hx.host).form;obtain⟨Aq,cq,rfl⟩:∃A c,xp= .slice A p.ps.length c:=by obtain⟨A,c,e,_⟩:=hx.ps;exact⟨A,c,e⟩
 have HX:=Hi hx;have HKL:=Hi hkl;clear hx hkl
 change Calls _ _ #[.agg #[.int .i64 p.t,.slice An p.name.length cn,.slice At p.text.length ct,.slice Ad p.disp.length cd,xu.scheme,xu.raw,.bool xu.wild,.bool xu.slash,xu.user,xu.pass,xu.host,.int .i64 xu.port,xu.ps,xu.hs,.slice Aq p.ps.length cq,.int .u32 p.num,.slice A1 p.proto.length c1,.slice A2 p.ver.length c2,.slice A3 p.tr.length c3,.slice A4 p.host.length c4,.int .i64 p.port]] _ _
 go_enter Tryz.func7,Tryz.ntmps7;go_upto_region 1 with fail
 change Code.wp _ _ _ _ ((w.alloc (Obj.cells (HV.row ⟨p.t,.slice An p.name.length cn,.slice At p.text.length ct,.slice Ad p.disp.length cd,xu,.slice Aq p.ps.length cq,p.num,.slice A1 p.proto.length c1,.slice A2 p.ver.length c2,.slice A3 p.tr.length c3,.slice A4 p.host.length c4,p.port⟩) 28)).alloc (Obj.cells HV.nil.row 37))
 have HB1:=Hi (heap_alloc2_old w (Obj.cells (HV.row ⟨p.t,.slice An p.name.length cn,.slice At p.text.length ct,.slice Ad p.disp.length cd,xu,.slice Aq p.ps.length cq,p.num,.slice A1 p.proto.length c1,.slice A2 p.ver.length c2,.slice A3 p.tr.length c3,.slice A4 p.host.length c4,p.port⟩) 28) (Obj.cells HV.nil.row 37))
 have HB2:=Hi (heap_alloc2_new w (Obj.cells (HV.row ⟨p.t,.slice An p.name.length cn,.slice At p.text.length ct,.slice Ad p.disp.length cd,xu,.slice Aq p.ps.length cq,p.num,.slice A1 p.proto.length c1,.slice A2 p.ver.length c2,.slice A3 p.tr.length c3,.slice A4 p.host.length c4,p.port⟩) 28) (Obj.cells HV.nil.row 37))
 have HL0:Hid (Le w ((w.alloc (Obj.cells (HV.row ⟨p.t,.slice An p.name.length cn,.slice At p.text.length ct,.slice Ad p.disp.length cd,xu,.slice Aq p.ps.length cq,p.num,.slice A1 p.proto.length c1,.slice A2 p.ver.length c2,.slice A3 p.tr.length c3,.slice A4 p.host.length c4,p.port⟩) 28)).alloc (Obj.cells HV.nil.row 37))):=Hi (((AC w).alloc _).alloc _)
 generalize(w.alloc (Obj.cells (HV.row ⟨p.t,.slice An p.name.length cn,.slice At p.text.length ct,.slice Ad p.disp.length cd,xu,.slice Aq p.ps.length cq,p.num,.slice A1 p.proto.length c1,.slice A2 p.ver.length c2,.slice A3 p.tr.length c3,.slice A4 p.host.length c4,p.port⟩) 28)).alloc (Obj.cells HV.nil.row 37)=W0 at HB1 HB2 HL0⊢;obtain⟨b,hb⟩:∃b,b=w.heap.size:=⟨_,rfl⟩;rw[←hb]at HB1 HB2⊢
 have HBW:Hid (w.heap.size=b):=Hi hb.symm;clear hb;have HX0:Hid (Hz (fun _=>True) W0 ⟨p.t,.slice An p.name.length cn,.slice At p.text.length ct,.slice Ad p.disp.length cd,xu,.slice Aq p.ps.length cq,p.num,.slice A1 p.proto.length c1,.slice A2 p.ver.length c2,.slice A3 p.tr.length c3,.slice A4 p.host.length c4,p.port⟩ p):=Hi (HX.out.le HL0.out)
 have hm_ho:(Tryz.prog).follows .mixedOrders=true:=by kernel_rfl
 refine G3.wp_region_grow_tail (hoS W0 b 0 p.t xu p.uri p.ps An At Ad Aq A1 A2 A3 A4 p.name.length cn p.text.length ct p.disp.length cd p.ps.length cq p.num p.proto.length c1 p.ver.length c2 p.tr.length c3 p.host.length c4 p.port) ((Le W0)) 30 27 [3,4,5,6,7,8,9,10,11,12,13,14,15,16,17,18,19,20,21,22,23,24,25,26,27,28,29] hm_ho (by kernel_rfl) rfl rfl ?hG_ho ?hold_ho ?hs_ho ?hend_ho
 case hG_ho=>exact(AC W0).drew
 case hold_ho=>
  intro t ht;simp only[List.mem_cons,List.mem_nil_iff,or_false,not_or]at ht;unfold hoS;split<;>first|exact True.intro|(exfalso;simp at ht;done)|rfl
 case hs_ho=>
  simp only[List.take_succ_cons,List.take_zero];refine⟨?_,?_,?_,?_,?_,?_,?_,?_,?_,?_,?_,?_,?_,?_,?_,?_,?_,?_,?_,?_,?_,?_,?_,?_,?_,?_,?_,trivial⟩
  ·refine AA fun a W hg hop=>?_;have h1:_=_:=hq hop 1;have h1':=tg h1;refine⟨_,?_,rfl⟩;simp only[execOp,h1];go_simp
  ·refine AA fun a W hg hop=>?_;have h3:_=_:=hq hop 3;have h3':=tg h3;have hc:W.cell? ⟨b,0,none⟩=some (.int .i64 p.t):=(AB (hg.heap HB1.out) 0);refine⟨_,?_,rfl⟩;simp only[execOp,h3];go_simp
  ·refine AA fun a W hg hop=>?_;have h1:_=_:=hq hop 1;have h1':=tg h1;refine⟨_,?_,rfl⟩;simp only[execOp,h1];go_simp
  ·refine AA fun a W hg hop=>?_;have h5:_=_:=hq hop 5;have h5':=tg h5;have hc:W.cell? ⟨b,1,none⟩=some (.slice An p.name.length cn):=(AB (hg.heap HB1.out) 1);refine⟨_,?_,rfl⟩;simp only[execOp,h5];go_simp
  ·refine AA fun a W hg hop=>?_;have h1:_=_:=hq hop 1;have h1':=tg h1;refine⟨_,?_,rfl⟩;simp only[execOp,h1];go_simp
  ·refine AA fun a W hg hop=>?_;have h7:_=_:=hq hop 7;have h7':=tg h7;have hc:W.cell? ⟨b,2,none⟩=some (.slice At p.text.length ct):=(AB (hg.heap HB1.out) 2);refine⟨_,?_,rfl⟩;simp only[execOp,h7];go_simp
  ·refine AA fun a W hg hop=>?_;have h1:_=_:=hq hop 1;have h1':=tg h1;refine⟨_,?_,rfl⟩;simp only[execOp,h1];go_simp
  ·refine AA fun a W hg hop=>?_;have h9:_=_:=hq hop 9;have h9':=tg h9;have hc:W.cell? ⟨b,3,none⟩=some (.slice Ad p.disp.length cd):=(AB (hg.heap HB1.out) 3);refine⟨_,?_,rfl⟩;simp only[execOp,h9];go_simp
  ·refine AA fun a W hg hop=>?_;have h1:_=_:=hq hop 1;have h1':=tg h1;refine⟨_,?_,rfl⟩;simp only[execOp,h1];go_simp
  ·refine AA fun a W hg hop=>?_;have h11:_=_:=hq hop 11;have h11':=tg h11;refine⟨_,?_,rfl⟩
   have hs:=DL (P:=Tryz.prog) W b 4 28 25 (HV.row ⟨p.t,.slice An p.name.length cn,.slice At p.text.length ct,.slice Ad p.disp.length cd,xu,.slice Aq p.ps.length cq,p.num,.slice A1 p.proto.length c1,.slice A2 p.ver.length c2,.slice A3 p.tr.length c3,.slice A4 p.host.length c4,p.port⟩) xu.row (0,0) _ (hg.heap HB1.out) (CF ⟨p.t,.slice An p.name.length cn,.slice At p.text.length ct,.slice Ad p.disp.length cd,xu,.slice Aq p.ps.length cq,p.num,.slice A1 p.proto.length c1,.slice A2 p.ver.length c2,.slice A3 p.tr.length c3,.slice A4 p.host.length c4,p.port⟩) Tryz.underlying25 rfl Gg
   simp only[execOp,h11,hs,Sem.run_bind,Sem.run_pure,Result.andThen,Sem.run_map];try rfl
  ·refine AG ?_ ?_ ?_ ?_
   ·exact fun t v w1 w2 kl h=>OC W0 b 0 p.t xu p.uri p.ps An At Ad Aq A1 A2 A3 A4 p.name.length cn p.text.length ct p.disp.length cd p.ps.length cq p.num p.proto.length c1 p.ver.length c2 p.tr.length c3 p.host.length c4 p.port t v w1 w2 kl h
   ·exact fun _ _ _ _ h=>h
   ·exact fun w1 w2 k h=>Le.trans h k
   ·intro a W hg hop;have h12:_=_:=hq hop 12;have h12':=tg h12;refine⟨19,#[xu.val],?_,(OZ _ W xu p.uri (HX0.out.uri.toUq.le hg) HKL.out.1 HKL.out.2.1).mono ?_⟩
    ·simp only[execOp,h12];go_simp
    ·rintro e w' ⟨y,rfl,hy,hle,ho1,ho2⟩;exact⟨_,rfl,hle,y,rfl,hy,fun _ g h=>Nat.le_trans hg.size (ho1 g h),fun _ g h=>Nat.le_trans hg.size (ho2 g h)⟩
  ·refine AA fun a W hg hop=>?_;have h1:_=_:=hq hop 1;have h1':=tg h1;refine⟨_,?_,rfl⟩;simp only[execOp,h1];go_simp
  ·refine AA fun a W hg hop=>?_;have h14:_=_:=hq hop 14;have h14':=tg h14;have hc:W.cell? ⟨b,14,none⟩=some (.slice Aq p.ps.length cq):=(AB (hg.heap HB1.out) 14);refine⟨_,?_,rfl⟩;simp only[execOp,h14];go_simp
  ·refine AG ?_ ?_ ?_ ?_
   ·exact fun t v w1 w2 kl h=>OC W0 b 0 p.t xu p.uri p.ps An At Ad Aq A1 A2 A3 A4 p.name.length cn p.text.length ct p.disp.length cd p.ps.length cq p.num p.proto.length c1 p.ver.length c2 p.tr.length c3 p.host.length c4 p.port t v w1 w2 kl h
   ·exact fun _ _ _ _ h=>h
   ·exact fun w1 w2 k h=>Le.trans h k
   ·intro a W hg hop;have h15:_=_:=hq hop 15;have h15':=tg h15;refine⟨20,#[.slice Aq p.ps.length cq],?_,(IT (fun _=>True) (.slice Aq p.ps.length cq) p.ps W W (AC W) (HX0.out.ps.le hg)).mono ?_⟩
    ·simp only[execOp,h15];go_simp
    ·rintro e w' ⟨v',rfl,hk,hle⟩;exact⟨_,rfl,hle,hk.kq hle HKL.out.2.2,fun _ g h=>(by obtain⟨xs,h1,_⟩:=hk;exact Nat.le_trans hg.size (AK h1 g h).1)⟩
  ·refine AA fun a W hg hop=>?_;have h1:_=_:=hq hop 1;have h1':=tg h1;refine⟨_,?_,rfl⟩;simp only[execOp,h1];go_simp
  ·refine AA fun a W hg hop=>?_;have h17:_=_:=hq hop 17;have h17':=tg h17;have hc:W.cell? ⟨b,15,none⟩=some (.int .u32 p.num):=(AB (hg.heap HB1.out) 15);refine⟨_,?_,rfl⟩;simp only[execOp,h17];go_simp
  ·refine AA fun a W hg hop=>?_;have h1:_=_:=hq hop 1;have h1':=tg h1;refine⟨_,?_,rfl⟩;simp only[execOp,h1];go_simp
  ·refine AA fun a W hg hop=>?_;have h19:_=_:=hq hop 19;have h19':=tg h19;have hc:W.cell? ⟨b,16,none⟩=some (.slice A1 p.proto.length c1):=(AB (hg.heap HB1.out) 16);refine⟨_,?_,rfl⟩;simp only[execOp,h19];go_simp
  ·refine AA fun a W hg hop=>?_;have h1:_=_:=hq hop 1;have h1':=tg h1;refine⟨_,?_,rfl⟩;simp only[execOp,h1];go_simp
  ·refine AA fun a W hg hop=>?_;have h21:_=_:=hq hop 21;have h21':=tg h21;have hc:W.cell? ⟨b,17,none⟩=some (.slice A2 p.ver.length c2):=(AB (hg.heap HB1.out) 17);refine⟨_,?_,rfl⟩;simp only[execOp,h21];go_simp
  ·refine AA fun a W hg hop=>?_;have h1:_=_:=hq hop 1;have h1':=tg h1;refine⟨_,?_,rfl⟩;simp only[execOp,h1];go_simp
  ·refine AA fun a W hg hop=>?_;have h23:_=_:=hq hop 23;have h23':=tg h23;have hc:W.cell? ⟨b,18,none⟩=some (.slice A3 p.tr.length c3):=(AB (hg.heap HB1.out) 18);refine⟨_,?_,rfl⟩;simp only[execOp,h23];go_simp
  ·refine AA fun a W hg hop=>?_;have h1:_=_:=hq hop 1;have h1':=tg h1;refine⟨_,?_,rfl⟩;simp only[execOp,h1];go_simp
  ·refine AA fun a W hg hop=>?_;have h25:_=_:=hq hop 25;have h25':=tg h25;have hc:W.cell? ⟨b,19,none⟩=some (.slice A4 p.host.length c4):=(AB (hg.heap HB1.out) 19);refine⟨_,?_,rfl⟩;simp only[execOp,h25];go_simp
  ·refine AA fun a W hg hop=>?_;have h1:_=_:=hq hop 1;have h1':=tg h1;refine⟨_,?_,rfl⟩;simp only[execOp,h1];go_simp
  ·refine AA fun a W hg hop=>?_;have h27:_=_:=hq hop 27;have h27':=tg h27;have hc:W.cell? ⟨b,20,none⟩=some (.int .i64 p.port):=(AB (hg.heap HB1.out) 20);refine⟨_,?_,rfl⟩;simp only[execOp,h27];go_simp
  ·refine AA fun a W hg hop=>?_;have h4:_=_:=hq hop 4;have h4':=tg h4;have h6:_=_:=hq hop 6;have h6':=tg h6;have h8:_=_:=hq hop 8;have h8':=tg h8;have h10:_=_:=hq hop 10;have h10':=tg h10;have h13:∃y:UV,(a.eval (.tmp 13))=y.val∧Uz (W0.heap.size≤·) W y p.uri:=(hq hop 13);have h16:(Kq (fun _=>True) W (a.eval (.tmp 16)) p.ps∧KO (W0.heap.size≤·) (a.eval (.tmp 16)) p.ps):=(hq hop 16)
   have h18:_=_:=hq hop 18;have h18':=tg h18;have h20:_=_:=hq hop 20;have h20':=tg h20;have h22:_=_:=hq hop 22;have h22':=tg h22;have h24:_=_:=hq hop 24;have h24':=tg h24;have h26:_=_:=hq hop 26;have h26':=tg h26;have h28:_=_:=hq hop 28;have h28':=tg h28;obtain⟨y,e13,hy⟩:=h13
   obtain⟨A9,c9,e16,hk⟩:∃A c,a.eval (.tmp 16)= .slice A p.ps.length c∧Kq (fun _=>True) W (.slice A p.ps.length c) p.ps∧KO (W0.heap.size≤·) (.slice A p.ps.length c) p.ps:=by
    obtain⟨A,c,e,_⟩:=h16.1;exact⟨A,c,e,by rw[←e];exact h16⟩
   refine⟨.agg (HV.row ⟨p.t,.slice An p.name.length cn,.slice At p.text.length ct,.slice Ad p.disp.length cd,y,.slice A9 p.ps.length c9,p.num,.slice A1 p.proto.length c1,.slice A2 p.ver.length c2,.slice A3 p.tr.length c3,.slice A4 p.host.length c4,p.port⟩),?_,⟨y,A9,c9,rfl,hy,hk.1,hk.2⟩⟩
   refine Dl W 37 [(0,.tmp 4),(1,.tmp 6),(2,.tmp 8),(3,.tmp 10),(4,.tmp 13),(5,.tmp 16),(6,.tmp 18),(7,.tmp 20),(8,.tmp 22),(9,.tmp 24),(10,.tmp 26),(11,.tmp 28)] rfl _ ?_
   show(Tryz.prog).built 37 [(0,a.eval (.tmp 4)),(1,a.eval (.tmp 6)),(2,a.eval (.tmp 8)),(3,a.eval (.tmp 10)),(4,a.eval (.tmp 13)),(5,a.eval (.tmp 16)),(6,a.eval (.tmp 18)),(7,a.eval (.tmp 20)),(8,a.eval (.tmp 22)),(9,a.eval (.tmp 24)),(10,a.eval (.tmp 26)),(11,a.eval (.tmp 28))]=_;rw[h4,h6,h8,h10,e13,e16,h18,h20,h22,h24,h26,h28];kernel_rfl
 case hend_ho=>
  intro s_ wz hg hS
  obtain⟨y,A9,c9,e29,hy,hk⟩:∃(y:UV) (A:Option Addr) (c:Nat),s_ 29= .agg (HV.row ⟨p.t,.slice An p.name.length cn,.slice At p.text.length ct,.slice Ad p.disp.length cd,y,.slice A p.ps.length c,p.num,.slice A1 p.proto.length c1,.slice A2 p.ver.length c2,.slice A3 p.tr.length c3,.slice A4 p.host.length c4,p.port⟩)∧Uz (W0.heap.size≤·) wz y p.uri∧Kq (fun _=>True) wz (.slice A p.ps.length c) p.ps∧KO (W0.heap.size≤·) (.slice A p.ps.length c) p.ps:=hS 29 (by decide)
  have HLZ:=Hi (show Le W0 wz from hg);have HY:=Hi hy;have HKQ:=Hi hk;clear hS hg hy hk;simp only[Aj,Act.put,List.setIfInBounds_toArray,List.set_cons_zero,List.set_cons_succ,List.drop_succ_cons,List.drop_zero];rw[e29];clear e29;have HR2:=Hi (HLZ.out.heap HB2.out)
  have hone:(HV.row ⟨p.t,.slice An p.name.length cn,.slice At p.text.length ct,.slice Ad p.disp.length cd,y,.slice A9 p.ps.length c9,p.num,.slice A1 p.proto.length c1,.slice A2 p.ver.length c2,.slice A3 p.tr.length c3,.slice A4 p.host.length c4,p.port⟩).all (·.oneCell')=true:=by
   have hu:=HY.out;rw[HV.all];simp only[hu.scheme.1.one1,hu.raw.1.one1,hu.user.1.one1,hu.pass.1.one1,hu.host.1.one1,hu.ps.one,hu.hs.one,Bool.and_true,Bool.true_and];rfl
  go_wp2_with (refine AD rfl 37 (.tmp 2) (.tmp 29) rfl (b+1) (HV.row ⟨p.t,.slice An p.name.length cn,.slice At p.text.length ct,.slice Ad p.disp.length cd,y,.slice A9 p.ps.length c9,p.num,.slice A1 p.proto.length c1,.slice A2 p.ver.length c2,.slice A3 p.tr.length c3,.slice A4 p.host.length c4,p.port⟩) rfl rfl 37 HV.nil.row HR2.out AS rfl hone ?_)
  intro WZ hz hkz;have HZ:=Hi hz;have HKZ:=Hi hkz;have HLX:Hid (Le w WZ):=Hi (Below.trans (HL0.out.trans HLZ.out) (hkz.below (by have:=HBW.out;omega) (HL0.out.trans HLZ.out).size));clear hz hkz hone;go_wp2;have hN:=HX.out.le HLX.out;have hno:∀g,W0.heap.size≤g→g≠b+1:=fun g hg=>by have:=AQ HB2.out;omega
  have hu:Uq (fun _=>True) WZ y p.uri:=(HY.out.setH HR2.out Am.nou HKZ.out hno).toUq;have hk:Kq (fun _=>True) WZ (.slice A9 p.ps.length c9) p.ps:=HKQ.out.1.setH HR2.out Am.nou HKZ.out (HKQ.out.2.imp hno)
  refine bodyPost_ret (Bx rfl HZ.out rfl) rfl ⟨_,rfl,⟨rfl,hN.name,hN.text,hN.disp,⟨hu,fun _ _ _=>trivial,fun _ _ _=>trivial⟩,hk,fun _ _ _=>trivial,rfl,hN.proto,hN.ver,hN.tr,hN.host,rfl⟩,HLX.out⟩
theorem PX:((Tryz.prog).info? 28).map (fun i=>(i.zero,i.size,i.bytes))=some (some HV.nil.val,21,400):=by kernel_rfl
theorem GB{ops:Array Oper}{rest:List Oper}{o:Oper}{a:Act}{w:World}{Q:Exit→Act→World→Prop}(hg:o.guard=none)(t1:Tmp)(ho:o.op= .buildSlice 31 1 #[(0,.tmp t1)])(d:Option Tmp)(hd:o.dst=d)(x:HV)(hx:a.eval (.tmp t1)=x.val)
 (h:wpList Tryz.prog ops Q rest (a.put d (.slice (some ⟨w.heap.size,0,none⟩) 1 1)) (w.alloc (.cells x.row 28))):wpList Tryz.prog ops Q (o::rest) a w:=by
 subst hd;obtain⟨i0,hi0,hz0,hz1,hz2⟩:=info_parts PX;refine wpList_buildSlice hg _ _ 1 _ ho x.row i0 HV.nil.val Tryz.underlying31 hi0 hz0 (by rw[hz1];decide) (by rw[hz1];decide) ?_ h;rw[hz1];have e:((#[(0,Operand.tmp t1)]:Array (Nat×Operand)).map fun(i,x)=>(i,a.eval x)).toList=[(0,x.val)]:=by simp[hx]
 rw[e];exact Jh x
theorem Hw.hz{w:World}{x:HV}{p:PH}(h:Hw w x p)(h1:ftU p.uri=true)(h2:Is p.ps=true):Hz (fun _=>True) w x p:=by
 obtain⟨_,_,_,_,_,f6,f7⟩:=Hh h1;have g6:=(Cn f6).1;have g7:=(Cn f7).1;have g8:=(Cn h2).1;exact⟨h.t,h.name,h.text,h.disp,⟨h.uri.uq (by omega) (by omega),fun _ _ _=>trivial,fun _ _ _=>trivial⟩,h.ps.kq (by omega),fun _ _ _=>trivial,h.num,h.proto,h.ver,h.tr,h.host,h.port⟩
theorem HvQ.hvp{w:World}{x:HV}{p:PH}(h:HvQ p)(k:Hw w x p):HvP p:=⟨h.name,h.text,h.disp,h.uri,k.uri.lo,k.uri.hi,h.ps,k.nlt,h.proto,h.ver,h.tr,h.host,k.lo,k.hi⟩
theorem Ft(w:World)(x:HV)(p:PH)(hx:Hw w x p)(hL:BW w):
 Calls Tryz.prog 3 #[x.val] w fun e w'=>e= .returned (.bool true)∧Le w w':=by
 have HX:=Hi hx;have HLL:=Hi hL;clear hx hL;change Calls _ _ #[.agg x.row] _ _;go_enter Tryz.func3,Tryz.ntmps3;go_upto_region 1 with fail
 change Code.wp _ _ _ _ (w.alloc (Obj.cells x.row 28));have HB:=Hi (heap_alloc_new w (Obj.cells x.row 28));have HL0:Hid (Le w (w.alloc (Obj.cells x.row 28))):=Hi ((AC w).alloc _);generalize w.alloc (Obj.cells x.row 28)=W0 at HB HL0⊢;obtain⟨b,hb⟩:∃b,b=w.heap.size:=⟨_,rfl⟩;rw[←hb]at HB⊢;clear hb
 go_wp2_with (refine wpList_load_row rfl 28 (.tmp 1) rfl b rfl 28 x.row (0,0) _ HB.out Tryz.underlying28 rfl Be ?_)
 refine(KQ W0 x p (HX.out.le HL0.out)).mono ?_;rintro e W1 ⟨r,rfl,hle1,hr⟩;have HL1:Hid (Le w W1):=Hi (HL0.out.trans hle1);have HB1:=Hi (hle1.heap HB.out);clear hle1;cases r;case false=>
  go_wp2;go_ret;exact⟨rfl,HL1.out⟩
 have HZ:Hid (Hz (fun _=>True) w x p):=Hi (HX.out.hz (hr rfl).1 (hr rfl).2);have HKL:Hid (p.uri.ps.length≤1099511627776∧p.uri.hs.length≤1099511627776∧p.ps.length≤1099511627776):=Hi (by
  obtain⟨_,_,_,_,_,f6,f7⟩:=Hh (hr rfl).1;have g6:=(Cn f6).1;have g7:=(Cn f7).1;have g8:=(Cn (hr rfl).2).1;omega)
 clear hr;have HBA:Hid ((W1.alloc (Obj.cells x.row 28)).heap[W1.heap.size]? =some (.cells x.row 28 (0,0))):=Hi (heap_alloc_new W1 _);have HLA:Hid (Le w (W1.alloc (Obj.cells x.row 28))):=Hi (HL1.out.alloc _)
 go_wp2_with (first|refine wpList_load_row rfl 28 (.tmp 1) rfl b rfl 28 x.row (0,0) _ HB1.out Tryz.underlying28 rfl Be ?_ |refine GB rfl 10 rfl (some 11) rfl x rfl ?_)
 refine(He _ x p W1.heap.size (HZ.out.le HLA.out) HBA.out).mono ?_;rintro e W2 ⟨n,rfl,hn,hle2⟩;have HL2:Hid (Le w W2):=Hi (HLA.out.trans hle2);have HB2:=Hi (hle2.heap (((AC W1).alloc (Obj.cells x.row 28)).heap HB1.out));have HN:=Hi hn;clear hle2 hn HBA HLA;by_cases h8:8192<n;case pos=>
  have d8:decide (8192<n)=true:=decide_eq_true h8;have d8':decide ((8192:Int)<(n:Int))=true:=decide_eq_true (by omega);clear h8;go_wp2_with fail
  refine(IX W2 (HLL.out.le HL2.out)).mono ?_;rintro e W9 ⟨rfl,hle9⟩;have HL9:=Hi hle9;clear hle9;go_wp2;go_ret;exact⟨rfl,HL2.out.trans HL9.out⟩
 have d8:decide (8192<n)=false:=decide_eq_false h8;have d8':decide ((8192:Int)<(n:Int))=false:=decide_eq_false (by omega);have HVP:Hid (HvP p):=Hi ((HN.out (by omega)).hvp HX.out);clear h8;go_wp2_with (refine Ee (by kernel_rfl) 28 (.tmp 1) rfl b 0 rfl 28 x.row x.row (0,0) _ HB2.out (fun k v h=>by rw[Nat.zero_add];exact h) Tryz.underlying28 rfl Be ?_)
 refine(Jc W2 x p (HZ.out.le HL2.out) HKL.out).mono ?_;rintro e W3 ⟨y,rfl,hy,hle3⟩;have HL3:Hid (Le w W3):=Hi (HL2.out.trans hle3);have HB3:=Hi (hle3.heap HB2.out);have HY:=Hi hy;clear hle3 hy;go_wp2_with fail
 refine(K3 (fun _=>True) y p W3 HY.out (fun v hv=>HVP.out.hsz hv) (by have:=HVP.out.uri.scheme;have:=HVP.out.uri.raw;omega) (HLL.out.le HL3.out)).mono ?_;rintro e W4 ⟨q,rfl,hle4,hqq⟩;have HL4:Hid (Le w W4):=Hi (HL3.out.trans hle4);have HB4:=Hi (hle4.heap HB3.out);clear hle4;cases q;case false=>
  go_wp2_with fail
  refine(IX W4 (HLL.out.le HL4.out)).mono ?_;rintro e W9 ⟨rfl,hle9⟩;have HL9:=Hi hle9;clear hle9;go_wp2;go_ret;exact⟨rfl,HL4.out.trans HL9.out⟩
 obtain⟨v,hv⟩:=hqq rfl;have HR:=Hi hv;have HVW:Hid (v.wild=false):=Hi (MB hv.gv hv.wild);clear hv hqq d8 d8';go_wp2_with (refine wpList_load_row rfl 28 (.tmp 1) rfl b rfl 28 x.row (0,0) _ HB4.out Tryz.underlying28 rfl Be ?_)
 refine(Gi (fun _=>True) x p v W4 (HZ.out.le HL4.out) HR.out HVP.out HVW.out (HLL.out.le HL4.out)).mono ?_;rintro e W5 ⟨va,vb,rfl,hva,hvb,hle5⟩;have HA5:=Hi hva;have HE5:=Hi hvb;have HL5:Hid (Le w W5):=Hi (HL4.out.trans hle5);have HB5:=Hi (hle5.heap HB4.out);clear hle5 hva hvb
 go_wp2_with (refine wpList_load_row rfl 28 (.tmp 1) rfl b rfl 28 x.row (0,0) _ HB5.out Tryz.underlying28 rfl Be ?_)
 refine(Jc W5 x p (HZ.out.le HL5.out) HKL.out).mono ?_;rintro e W6 ⟨z,rfl,hz,hle6⟩;have HL6:Hid (Le w W6):=Hi (HL5.out.trans hle6);have HL56:=Hi hle6;have HZ6:=Hi hz;clear hle6 hz;go_wp2_with fail
 refine(JI (fun _=>True) z p v W6 HZ6.out HR.out.gv (by have:=HVP.out.uri.scheme;have:=HVP.out.uri.raw;omega) HVW.out (HVP.out.hsz HR.out.gv) ⟨HR.out.lo,HR.out.hi⟩ (HLL.out.le HL6.out)).mono ?_;rintro e W7 ⟨sa,sb,rfl,hsa,hsb,hle7⟩;have HA7:=Hi hsa;have HE7:=Hi hsb;have HL7:Hid (Le w W7):=Hi (HL6.out.trans hle7);have HA57:=Hi (HA5.out.le (HL56.out.trans hle7))
 have HE57:=Hi (HE5.out.le (HL56.out.trans hle7));clear hle7 hsa hsb;go_wp2_with fail
 refine(ME W7 va sa _ _ true (decide_eq_true rfl) HA57.out HA7.out).mono ?_;rintro e W8 ⟨rfl,hle8⟩;have HL8:Hid (Le w W8):=Hi (HL7.out.trans hle8);have HE58:=Hi (HE57.out.le hle8);have HE8:=Hi (HE7.out.le hle8);clear hle8;go_wp2_with fail
 refine(ME W8 vb sb _ _ true (decide_eq_true rfl) HE58.out HE8.out).mono ?_;rintro e W10 ⟨rfl,hle10⟩;have HL10:Hid (Le w W10):=Hi (HL8.out.trans hle10);clear hle10;go_wp2_with fail
 refine(IX W10 (HLL.out.le HL10.out)).mono ?_;rintro e W9 ⟨rfl,hle9⟩;have HL9:=Hi hle9;clear hle9;go_wp2;go_ret;exact⟨rfl,HL10.out.trans HL9.out⟩
end Go.Proofs.YtejhpdcjafbklaaGreatDoor
