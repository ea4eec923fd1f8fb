/- The law FnHeadWritten: PTx Dec Upts Gd Plu AdS IsP AdL GrowN Apg SDc HwS. -/
import Derived.Deep.RegionLaw
import Derived.ArgAppend
import Derived.Deep.DeepAppendRoom
import Derived.Lib.SpaceU
import Derived.Lib.TrimAscii
import Derived.Test.YtejhpdcjafbklaaGreatDoorLw6
set_option linter.all false
set_option maxHeartbeats 4000000
set_option maxRecDepth 100000
namespace Go.Proofs.YtejhpdcjafbklaaGreatDoor
open Go.RowKit
theorem BI{w:World}{base:Nat}{v x:Value}{l m:Tx}(hown:AY base w v l)(hx:Bv w x m)(hl:l.length+m.length≤140737488355328)(hbase:base≤w.heap.size)(ty:TypeId):
 ∃v' w',(Builtin.append_ #[22,22] ty #[v,x]).run Tryz.prog w= .ok v' w'∧AY base w' v' (l++m)∧w.grownBy w' v.ownBlock∧AY base w' v l:=by
 obtain⟨v',w',q,k1,k2⟩:=Cj hown hx hl hbase ty;refine⟨v',w',q,k1,k2,?_⟩;obtain⟨i0,hi0,hz0,hz1,hz2⟩:=info_parts FT;rcases hown.2 with⟨rfl,h5⟩|⟨g,cap,cur,rfl,hbg,hg,hnc,hcm,hcs,htk⟩
 ·obtain rfl:l=[]:=List.eq_nil_of_length_eq_zero h5;exact AY.nil _ _
 ·obtain⟨A,c,rfl,h1,h2,h3,h4⟩:=hx;cases A with
  |none=>
   have hm:m.length=0:=by
    rcases Nat.eq_zero_or_pos m.length with h|h
    ·exact h
    ·obtain⟨_,_,e,_⟩:=h4 h;cases e
   have q2:(Builtin.append_ #[22,22] ty #[.slice (some ⟨g,0,none⟩) l.length cap,.slice none m.length c]).run Tryz.prog w= .ok (.slice (some ⟨g,0,none⟩) l.length cap) w:=by
    rw[hm];simp[Builtin.append_,run_underlying Tryz.underlying22,sizeOf,typeInfo,hi0,Builtin.lenOf,Builtin.firstCells,hnc,storeCells]
   rw[q2]at q;injection q with _ q
   subst q;exact hown
  |some ad=>
   have hn:∀(j:Nat) (u:Value),(u8s m)[j]? =some u→w.cell? (ad.add j)=some u:=fun j u hu=>by
    unfold u8s at hu;rw[List.getElem?_map]at hu;have hj:j<m.length:=by
     rcases Nat.lt_or_ge j m.length with h|h
     ·exact h
     ·rw[List.getElem?_eq_none h]at hu;cases hu
    rw[List.getElem?_eq_getElem hj,Option.map_some,Option.some.injEq]at hu;subst hu;obtain⟨b,o,e,hc⟩:=h4 (by omega);injection e with e
    subst e;rw[B6];exact hc j hj
   have h1c:∀u∈u8s m,u.oneCell'=true:=fun u hu=>by
    unfold u8s at hu;obtain⟨_,_,rfl⟩:=List.mem_map.1 hu;rfl
   by_cases hroom:l.length+m.length≤cap
   ·obtain⟨w2,q2,r1,r2⟩:=run_append_own_spare (P:=Tryz.prog) w base 22 ty 5 i0 1 Tryz.underlying22 hi0 hz1 g l.length cap (u8s l) hown ad m.length c (u8s m) (by unfold u8s;simp) hn h1c hroom;rw[q2]at q;injection q with _ q
    subst q;rcases r1.2 with⟨e,_⟩|⟨g',cap',cur',e,b1,b2,b3,b4,b5,b6⟩
    ·cases e
    ·cases e;refine⟨hown.1,.inr ⟨g,cap,cur',rfl,b1,b2,hnc,b4,b5,?_⟩⟩;have:=congrArg (List.take (l.length*1)) b6;rw[List.take_take,Nat.min_eq_left (by omega)]at this;rw[this];have hlen:(u8s l).length=l.length*1:=hown.1;rw[←hlen];exact List.take_left
   ·obtain⟨v2,w2,q2,r1,r2⟩:=run_append_arg_grows (P:=Tryz.prog) w 22 ty 5 i0 (.int .u8 0) 1 1 Tryz.underlying22 hi0 hz0 hz1 hz2 rfl (by decide) ⟨g,0,none⟩ l.length cap (u8s l) hown.1 (fun j u hu=>by
     have hj:j<l.length:=by
      rcases Nat.lt_or_ge j (u8s l).length with h|h
      ·have:=hown.1;omega
      ·rw[List.getElem?_eq_none h]at hu;cases hu
     rw[B6,Nat.zero_add,World.ownsRow.cellAt hown j (by omega),hu]) ad m.length c (u8s m) (by unfold u8s;simp) hn (by omega) (by unfold maxLen;omega) (by omega)
    rw[q2]at q;injection q with _ q
    subst q;exact⟨hown.1,.inr ⟨g,cap,cur,rfl,hbg,(r2.block g (AQ hg) (by simp)).trans hg,hnc,hcm,hcs,htk⟩⟩
theorem DW{P:Program}{ops:Array Oper}{o:Oper}{a:Act}{w:World}{K:Act→World→Prop}{Q:Exit→Act→World→Prop}{E:Prop}
 (hg:o.guard=none)(s x:Operand)(t:TypeId)(hop:o.op=Op.call {callee:=Callee.builtin Builtin.append,args:= #[s,x],argTypes:= #[t,t]})
 (sv xv:Value)(hs:a.eval s=sv)(hx:a.eval x=xv)(v:Value)(w':World)(hrun:(Builtin.append_ #[t,t] o.type #[sv,xv]).run P w= .ok v w')(hK:K (a.put o.dst v) w'):
 if Region.wanted o (yielded ops a.tmps)=true then Oper.wp P o a w K Q else E:=by
 have hw:Region.wanted o (yielded ops a.tmps)=true:=by simp[Region.wanted,hg]
 rw[if_pos hw];unfold Oper.wp;simp[execOp,hop,resolve,invoke,builtin,hs,hx,hrun,Result.andThen];exact hK
theorem GY(v:Value)(l:KVs)(sep:UInt8)(w:World)(hv:Kq (fun _=>True) w v l)(hlen:∀k≤l.length,(ptP l sep k).length≤140737488300000)(hsm:∀x∈l,x.1.length+x.2.length≤20000):
 Calls Tryz.prog 71 #[v,.int .u8 sep.toNat] w fun e w'=>∃v',e= .returned v'∧AY w.heap.size w' v' (ptP l sep l.length)∧Le w w':=by
 have HV:=Hi hv;have HLEN:=Hi hlen;have HSM:=Hi hsm;obtain⟨A,c,rfl,h1,h2,h3,h5⟩:=hv;have H5:=Hi h5;clear h5 hlen hsm;generalize hsepv:(sep.toNat:Int)=sv;have HSEP:=Hi hsepv;clear hsepv;go_enter Tryz.func71,Tryz.ntmps71;go_wp2
 go_loopg [5,6] (l.length) (fun n o i wr=>∃k:Nat,n+k=l.length∧i= .int .i64 k∧Le w wr∧AY w.heap.size wr o (ptP l sep k))
 case atStart=>exact⟨0,by omega,rfl,AC w,AY.nil _ _⟩
 case round=>
  obtain⟨k,hn,rfl,hle,hown⟩:=hrel;have HO:=Hi hown;have HL:=Hi hle;have HN:gk+k≤l.length∧l.length≤gk+k:=by omega
  clear hn hle hown;by_cases hlt:k<l.length
  ·obtain⟨g,o,rfl,_,hc⟩:=H5.out (by omega);obtain⟨x,y,d1,d2,hx,hy⟩:=hc k hlt;have HX:=Hi hx.1;have HY:=Hi hy.1;have D1:=Hi d1;have D2:=Hi d2;have HM:=Hi (HSM.out l[k] (List.getElem_mem hlt));clear hc hx hy d1 d2;go_upto_if 14 with fail
   generalize hbk:decide (0<k)=bk;have HBK:=Hi hbk;clear hbk;go_cut [5]from 15 to 18 (fun s5 wc=>Le w wc∧AY w.heap.size wc s5 (ptP l sep k++(if 0<k then [sep]else [])))
   case first=>
    cases bk;case true=>
     have HK0:Hid (0<k):=Hi (of_decide_eq_true HBK.out);have hb:Bv (wr.alloc (Obj.cells #[.int .u8 sv] 5)) (.slice (some ⟨wr.heap.size,0,none⟩) 1 1) [sep]:=by rw[←HSEP.out];exact CO wr [sep] (by simp) (0,0)
     have HB:=Hi hb;have hle1:Le wr (wr.alloc (Obj.cells #[.int .u8 sv] 5)):=(AC wr).alloc _;have HO1:=Hi (Ds HO.out hle1);have HL1:=Hi (HL.out.trans hle1);have HK:=Hi (HLEN.out k (by omega));clear hb hle1
     go_wp2_with (at_builtin;refine AJ rfl (.tmp 15) (.tmp 17) rfl (base:=w.heap.size) rfl rfl HO1.out HB.out (by have:=HK.out;simp only[LC,LN];omega) HL1.out.size ?_)
     intro v' w' hown' hgrow';have HLE':Hid (Le w w'):=Hi (Below.grown' HL1.out hgrow' (NL _) (fun g hg=>(AK HO1.out g hg).1));have HO':=Hi hown';clear hown' hgrow';go_wp2;go_meet;case rel=>exact⟨HLE'.out,by rw[if_pos HK0.out];exact HO'.out⟩
    case false=>
     have HK0:Hid (¬0<k):=Hi (of_decide_eq_false HBK.out);go_wp2;go_meet;case rel=>exact⟨HL.out,by rw[if_neg HK0.out,List.append_nil];exact HO.out⟩
   obtain⟨hle2,hown2⟩:=hcut;have hql:(ptP l sep k++(if 0<k then [sep]else [])).length≤140737488300001:=by
    have:=HLEN.out k (by omega);rw[LA];split<;>simp only[LC,LN]<;>omega
   have hqs:=JR (sep:=sep) hlt;rw[←List.append_assoc]at hqs;generalize ptP l sep k++(if 0<k then [sep]else [])=q at hown2 hql hqs;have HQS:=Hi hqs;have HQL:=Hi hql;clear hql hqs;have HL2:=Hi hle2;have HO2:=Hi hown2;have d1:=hle2.cell D1.out;have HX2:=Hi (HX.out.le hle2);clear hle2 hown2;obtain⟨Ax,cx,ex,_⟩:=As HX.out;obtain⟨Ay,cy,ey,_⟩:=As HY.out;subst ex
   subst ey;go_wp2_with (at_builtin;refine AJ rfl (.tmp 19) (.tmp 24) rfl (base:=w.heap.size) rfl rfl HO2.out HX2.out (by have:=HQL.out;have:=HM.out;omega) HL2.out.size ?_)
   intro v3 w3 hown3 hgrow3;have HL3:Hid (Le w w3):=Hi (Below.grown' HL2.out hgrow3 (NL _) (fun g hg=>(AK HO2.out g hg).1));have HO3:=Hi hown3;have d2:=HL3.out.cell D2.out;have HY3:=Hi (HY.out.le HL3.out);clear hown3 hgrow3 d1;have HBV:=Hi (⟨HY3.out⟩:Nonempty _);by_cases hv0:l[k].2=[]
   ·have HS:Hid (AY w.heap.size w3 v3 (ptP l sep (k+1))):=Hi (by
     have e:KM l[k]=l[k].1:=by unfold KM;rw[if_pos hv0,List.append_nil]
     rw[HQS.out,e];exact HO3.out)
    have hz:l[k].2.length=0:=by rw[hv0];rfl
    have HN2:=Hi HN;generalize l[k].2.length=m at d2 hz;subst hz;clear hv0 HY3 HBV;go_wp2;go_roundg (gk-1)
    case measure=>omega
    case rel=>exact⟨k+1,by omega,by go_num,HL3.out,HS.out⟩
   ·have hv1:decide (0<l[k].2.length)=true:=decide_eq_true (List.length_pos_iff.2 hv0);go_upto_region 9 with fail
    have hle0:Le w3 (w3.alloc (Obj.cells #[.int .u8 61] 5)).drew:=((AC w3).alloc _).drew;have hb0:Bv (w3.alloc (Obj.cells #[.int .u8 61] 5)).drew (.slice (some ⟨w3.heap.size,0,none⟩) 1 1) [61]:=(CO w3 [61] (by simp) (0,0)).le (AC _).drew
    obtain⟨v5,w5,q5,hown5,hgrow5,hkeep5⟩:=BI (Ds HO3.out hle0) hb0 (by have:=HQL.out;have:=HM.out;simp only[LA,LC,LN];omega) (HL3.out.trans hle0).size 22;have HL5:Hid (Le w w5):=Hi (Below.grown' (HL3.out.trans hle0) hgrow5 (NL _) (fun g hg=>(AK (Ds HO3.out hle0) g hg).1));have HY5:=Hi (HY.out.le HL5.out)
    obtain⟨v6,w6,q6,hown6,hgrow6,hkeep6⟩:=BI hown5 HY5.out (by have:=HQL.out;have:=HM.out;simp only[LA,LC,LN];omega) HL5.out.size 22;have HL6:Hid (Le w w6):=Hi (Below.grown' HL5.out hgrow6 (NL _) (fun g hg=>(AK hown5 g hg).1));have HS6:Hid (AY w.heap.size w6 v6 (ptP l sep (k+1))):=Hi (by
     have e:KM l[k]=l[k].1++61::l[k].2:=by unfold KM;rw[if_neg hv0]
     rw[HQS.out,e];have e2:q++l[k].1++[61]++l[k].2=q++(l[k].1++61::l[k].2):=by simp
     exact e2▸hown6)
    have dA:(w3.alloc (Obj.cells #[.int .u8 61] 5)).drew.cell? ⟨g,o+k*2+1,none⟩=some (.slice Ay l[k].2.length cy):=hle0.cell d2;have dB:w5.cell? ⟨g,o+k*2+1,none⟩=some (.slice Ay l[k].2.length cy):=HL5.out.cell D2.out;have Q5:=Hi q5;have Q6:=Hi q6;clear q5 q6 hown5 hgrow5 hkeep5 hown6 hgrow6 hkeep6 hb0 hle0 hv0 HY3 HBV
    go_region_law (first|(refine DW rfl (.tmp 33) (.tmp 34) _ rfl v3 (.slice (some ⟨w3.heap.size,0,none⟩) 1 1) (by simp[Act.eval,Act.put]) (by simp[Act.eval,Act.put]) v5 w5 Q5.out ?_)|(refine DW rfl (.tmp 35) (.tmp 40) _ rfl v5 (.slice Ay l[k].2.length cy) (by simp[Act.eval,Act.put]) (by simp[Act.eval,Act.put]) v6 w6 Q6.out ?_))
    all_goals
     go_wp2;go_roundg (gk-1)
     case measure=>omega
     case rel=>exact⟨k+1,by omega,by go_num,HL6.out,HS6.out⟩
  ·have e:k=l.length:=by omega
   have HX:Hid (AY w.heap.size wr u5 (ptP l sep l.length)):=Hi (e▸HO.out);clear e;go_wp2;go_ret;exact⟨_,rfl,HX.out,HL.out⟩
theorem DK(w:World)(z:Int)(c:UInt8)(hz:z=(c.toNat:Int)):AY w.heap.size (w.alloc (Obj.cells #[.int .u8 z] 5)) (.slice (some ⟨w.heap.size,0,none⟩) 1 1) [c]:=by
 subst hz;exact⟨rfl,.inr ⟨w.heap.size,1,_,rfl,NL _,heap_alloc_new w _,NL _,by unfold maxLen;omega,rfl,rfl⟩⟩
theorem UAt.row{w:World}{b:Nat}{u:PU}(h:UAt w b u):w.cell? ⟨b,0,none⟩=some (.string (st u.scheme))∧w.cell? ⟨b,4,none⟩=some (.string (st u.user))∧w.cell? ⟨b,6,none⟩=some (.string (st u.host))∧w.cell? ⟨b,7,none⟩=some (.int .i64 u.port):=by
 obtain⟨pv,hv,h1,_⟩:=h;exact⟨AB h1 0,AB h1 4,AB h1 6,AB h1 7⟩
theorem UAt.port_b{w:World}{b:Nat}{u:PU}(h:UAt w b u): -9223372036854775808≤u.port∧u.port≤9223372036854775807:=⟨h.sm.2.2.2.2.2.1,h.sm.2.2.2.2.2.2⟩
theorem UAt.sz{w:World}{b:Nat}{u:PU}(h:UAt w b u):(st u.scheme).size≤1099511627776∧(st u.user).size≤1099511627776∧(st u.host).size≤1099511627776∧(st (Lib.itoa u.port)).size≤21:=by
 have hs:=h.sm;rw[AF,AF,AF,AF];exact⟨hs.1,hs.2.2.1,hs.2.2.2.2.1,Lib.itoa_length_le u.port h.port_b.1 h.port_b.2⟩
def isB(x:Bool)(p:Prop):Prop:=x=true↔p
def DZ(u:PU):Tx:=if u.pass=[]then []else 58::u.pass
def Bm(u:PU):Tx:=if u.user=[]then []else u.user++(DZ u++[64])
def lwP(l:KVs)(c sep:UInt8):Tx:=if l=[]then []else c::ptP l sep l.length
theorem gFlat(sep:UInt8):∀(l:KVs),(∀x∈l,x.1.length≤8192∧x.2.length≤8192)→(l.flatMap (Ae sep)).length≤l.length*16400:=by
 intro l;induction l with
 |nil=>intro _;simp
 |cons x r ih=>
  intro h;have h1:=ih (fun y hy=>h y (by simp[hy]));have h2:=h x (by simp);have h3:(Ae sep x).length≤16400:=by
   unfold Ae;split
   ·simp only[LC,LA,LN];omega
   ·split<;>simp only[LC,LA,LN]<;>omega
  rw[List.flatMap_cons,LA,LC];omega
def Kl(u:PU):Tx:=Bm u++((u.host++Cg u)++(lwP u.ps 59 59++lwP u.hs 63 38))
def CK(u:PU):Tx:=if u.wild=true then [42]else u.scheme++58::(if u.raw=[]then Kl u else u.raw)
theorem Ff{Q:Tx}{sp:UInt8}{signs:Tx}{kvs:KVs}(h:BB Q sp signs=some kvs):∀x∈kvs,∀c∈x.2,alw signs c=true:=by
 unfold BB at h;split at h
 ·rename_i hc
  injection h with h
  subst h;simp only[Bool.and_eq_true]at hc;intro x hx;obtain⟨p,hp,rfl⟩:=List.mem_map.1 hx;obtain⟨k,v,e,_,_,hv,_⟩:=DA (List.all_eq_true.1 hc.1 p hp);rw[e];exact hv
 ·cases h
theorem MT{signs:Tx}(h32:alw signs 32=false)(h9:alw signs 9=false){l:Tx}(h:∀c∈l,alw signs c=true):l.any bl2=false:=by
 rw[List.any_eq_false];intro c hc;have n1:=B0 (h c hc) h32;have n2:=B0 (h c hc) h9;simp[bl2,n1,n2]
theorem O5{sep:UInt8}:∀{l:KVs},(∀x∈l,x.2.any bl2=false)→l.flatMap (Ae sep)=l.flatMap (fun y=>sep::KM y):=by
 intro l;induction l with
 |nil=>intro _;rfl
 |cons x r ih=>
  intro h;have e:Ae sep x=sep::KM x:=by
   unfold Ae KM;rw[h x (by simp),if_neg (by simp)]
  rw[List.flatMap_cons,List.flatMap_cons,e,ih (fun y hy=>h y (by simp[hy]))]
theorem IH{sep:UInt8}{l:KVs}(h:∀x∈l,x.2.any bl2=false):AZ l sep=ptT l sep:=by
 unfold AZ;rw[O5 h];cases l with
 |nil=>rfl
 |cons x r=>rfl
theorem Hd{l:Tx}(h:Bp l=true):B8 l:=by
 unfold Bp at h;simp only[Bool.and_eq_true]at h;rintro c hc rfl;have:=List.all_eq_true.1 h.1 58 hc;revert this;decide
structure SipK(u:PU):Prop where
 sch:u.scheme=Fb∨u.scheme=DT
 raw:u.raw=[]
 wild:u.wild=false
 slash:u.slash=false
 lo:0≤u.port
 hi:u.port≤65535
 host:B8 u.host
 ps:∀x∈u.ps,x.2.any bl2=false
 hs:∀x∈u.hs,x.2.any bl2=false
theorem GM{s h:Tx}{n:Nat}(hh:BF s=some (h,n)):Bp h=true∧n≤65535:=by
 unfold BF at hh;split at hh
 ·split at hh
  ·rename_i m hp
   split at hh
   ·rename_i hb
    injection hh with hh
    injection hh with h1 h2
    subst h1;subst h2;exact⟨hb,(Dh hp).2.2.2⟩
   ·cases hh
  ·cases hh
 ·split at hh
  ·rename_i hb
   injection hh with hh
   injection hh with h1 h2
   subst h1;subst h2;exact⟨hb,by omega⟩
  ·cases hh
theorem sip_k{sc l:Tx}{u:PU}(hs:sc=Fb∨sc=DT)(h:Ac sc l=some u):SipK u:=by
 unfold Ac at h;split at h
 ·cases h
 ·split at h
  ·cases h
  ·split at h
   ·cases h
   ·split at h
    ·cases h
    ·rename_i hH _ _ _ hP _ _ _ hO
     injection h with h
     subst h;obtain⟨o1,o2⟩:=GM hO;refine⟨hs,rfl,rfl,rfl,by simp,by show((_:Nat):Int)≤65535;omega,Hd o1,?_,?_⟩
     ·rcases Ep hP with⟨_,e⟩|⟨P,_,e,_⟩
      ·dsimp only;rw[e];simp
      ·exact fun x hx=>MT (by rfl) (by rfl) (Ff e x hx)
     ·rcases Fq hH with⟨_,e⟩|⟨H,_,e,_⟩
      ·dsimp only;rw[e];simp
      ·exact fun x hx=>MT (by rfl) (by rfl) (Ff e x hx)
theorem JF{l:Tx}{u:PU}(h:By l= .val u):u.wild=true∨(u={PU.zero with scheme:=u.scheme,raw:=u.raw}∧u.raw≠[]∧u.scheme≠[])∨SipK u:=by
 unfold By at h;split at h
 ·cases h
 ·split at h
  ·injection h with h;subst h;exact .inl rfl
  ·dsimp only at h;split at h
   ·rename_i hk
    split at h
    ·split at h
     ·rename_i hc
      injection h with h
      subst h;simp only[Bool.and_eq_true,Bool.not_eq_true',List.isEmpty_eq_false_iff]at hc;simp only[Bool.and_eq_true,decide_eq_true_eq]at hk;refine .inr (.inl ⟨rfl,hc.1.1.1,fun e=>?_⟩);have:=congrArg List.length e;simp only[List.length_take,LN]at this;omega
     ·cases h
    ·rename_i hlow
     split at h
     ·cases h
     ·rename_i he
      split at h
      ·cases h
      ·have hsc:l.take (BC l 58)=Fb∨l.take (BC l 58)=DT:=by
        have he:(l.take (BC l 58)).map Bf=l.take (BC l 58):=Classical.not_not.1 he;rw[he]at hlow;exact Classical.or_iff_not_imp_left.2 fun h1=>Classical.byContradiction fun h2=>hlow ⟨h1,h2⟩
       refine .inr (.inr (sip_k hsc (l:=l.drop (BC l 58+1)) ?_));cases hs:Ac (l.take (BC l 58)) (l.drop (BC l 58+1))with
       |none=>rw[hs]at h;cases h
       |some v=>rw[hs]at h;injection h with h;rw[h]
   ·cases h
theorem Mz{u:PU}(h:SipK u):BY u=CK u:=by
 have hne:u.scheme≠[]:=by rcases h.sch with e|e<;>rw[e]<;>decide
 unfold BY I8 uSl CK Kl uPs lwP;rw[if_neg hne,if_pos h.raw,h.slash,h.wild,if_pos h.raw,II,II,IH h.ps,IH h.hs];simp only[Bool.false_eq_true,if_false,List.nil_append,List.append_assoc];rfl
inductive Aq|disp|quoted|brack|uri|prms|stop
structure Rl where
 name:Tx
 uri:PU
 ps:KVs
def Rl.zero:Rl:=⟨[],PU.zero,[]⟩
def tkq(c:UInt8):Bool:=Du c||GF.contains c
theorem Fm(l:Tx):DU l=(l.all tkq&& !l.isEmpty):=rfl
theorem Cr(v:Value)(l:Tx)(w:World)(hv:Bv w v l):Calls Tryz.prog 32 #[v] w fun e w'=>e= .returned (.bool (DU l))∧w=w':=by
 obtain⟨A,cc,rfl,h1,h2,h4⟩:=hv;have h3:=h4.1;have HR:=Hi h4;clear h4;go_enter Tryz.func32,Tryz.ntmps32;go_wp2
 go_loop [3] (fun i=>∃k:Nat,k≤l.length∧i= .int .i64 k∧(l.take k).all tkq=true) (fun i=>l.length-(intOf i).toNat)
 case atStart=>exact⟨0,Nat.zero_le _,rfl,rfl⟩
 case round=>
  obtain⟨k,hk,rfl,hq⟩:=hrel;have HQ:=Hi hq;clear hq;by_cases hlt:k<l.length
  ·obtain⟨b,o,rfl,d1⟩:=HR.out.at_ hlt;have ci:=Fo l[k] w;have cj:=Ha l[k] ⟨#[45,46,33,37,42,95,43,96,39,126]⟩ w (by decide);by_cases hp:Du l[k]=true
   ·have HX:Hid ((l.take (k+1)).all tkq=true):=Hi (by rw[List.take_succ_eq_append_getElem hlt,List.all_append,HQ.out];simp[tkq,hp]);have CI:=Hi (AW ci hp);clear ci cj hp;generalize(l[k].toNat:Int)=x at d1 CI;go_wp2_with (go_at_call 56;refine CI.out.mono ?_;rintro e w' ⟨rfl,rfl⟩)
    go_round
    case rel=>exact⟨k+1,by omega,by go_num,HX.out⟩
    case measure=>simp[intOf];omega
   ·have hp':Du l[k]=false:=by simpa using hp
    have CI:=Hi (AW ci hp');by_cases hi:Hf (bs ⟨#[45,46,33,37,42,95,43,96,39,126]⟩) l[k]=true
    ·have HX:Hid ((l.take (k+1)).all tkq=true):=Hi (by
      have h9:tkq l[k]=true:=by unfold tkq;rw[hp',Bool.false_or];exact hi
      rw[List.take_succ_eq_append_getElem hlt,List.all_append,HQ.out];simp[h9])
     have CJ:=Hi (AW cj hi);clear ci cj hp hp' hi;generalize(l[k].toNat:Int)=x at d1 CI CJ;go_wp2_with (first|(go_at_call 56;refine CI.out.mono ?_;rintro e w' ⟨rfl,rfl⟩)|(go_at_call 57;refine CJ.out.mono ?_;rintro e w' ⟨rfl,rfl⟩))
     go_round
     case rel=>exact⟨k+1,by omega,by go_num,HX.out⟩
     case measure=>simp[intOf];omega
    ·have hi':Hf (bs ⟨#[45,46,33,37,42,95,43,96,39,126]⟩) l[k]=false:=by simpa using hi
     have HX:Hid ((DU l)=false):=Hi (by
      have h9:tkq l[k]=false:=by unfold tkq;rw[hp',Bool.false_or];exact hi'
      have h8:l.all tkq=false:=List.all_eq_false.2 ⟨l[k],List.getElem_mem hlt,by simp[h9]⟩;first|exact h8|(rw[Fm,h8];rfl))
     have CJ:=Hi (AW cj hi');clear ci cj hp hp' hi hi';generalize(l[k].toNat:Int)=x at d1 CI CJ;go_wp2_with (first|(go_at_call 56;refine CI.out.mono ?_;rintro e w' ⟨rfl,rfl⟩)|(go_at_call 57;refine CJ.out.mono ?_;rintro e w' ⟨rfl,rfl⟩))
     go_ret;exact⟨by rw[HX.out];rfl,rfl⟩
  ·have HA:Hid (l.all tkq=true):=Hi (by have:=HQ.out;rw[List.take_of_length_le (by omega)]at this;exact this);by_cases h0:0<l.length
   ·have HX:Hid (DU l=true):=Hi (by rw[Fm,HA.out];cases l with|nil=>simp at h0|cons _ _=>rfl);have h0':decide ((0:Int)<(l.length:Int))=true:=decide_eq_true (by omega);go_wp2;go_ret;exact⟨by rw[HX.out];rfl,rfl⟩
   ·have HX:Hid (DU l=false):=Hi (by have:l=[]:=List.eq_nil_of_length_eq_zero (by omega);rw[this];rfl);have H0:Hid (decide (0<l.length)=false):=Hi (decide_eq_false h0);clear h0;go_wp2;go_ret;exact⟨by rw[HX.out,H0.out];rfl,rfl⟩
theorem LY(v:Value)(l:Tx)(w:World)(hv:Bv w v l):Calls Tryz.prog 119 #[v] w fun e w'=>e= .returned (.bool (l.all tkq))∧w=w':=by
 obtain⟨A,cc,rfl,h1,h2,h4⟩:=hv;have h3:=h4.1;have HR:=Hi h4;clear h4;go_enter Tryz.func119,Tryz.ntmps119;go_wp2
 go_loop [3] (fun i=>∃k:Nat,k≤l.length∧i= .int .i64 k∧(l.take k).all tkq=true) (fun i=>l.length-(intOf i).toNat)
 case atStart=>exact⟨0,Nat.zero_le _,rfl,rfl⟩
 case round=>
  obtain⟨k,hk,rfl,hq⟩:=hrel;have HQ:=Hi hq;clear hq;by_cases hlt:k<l.length
  ·obtain⟨b,o,rfl,d1⟩:=HR.out.at_ hlt;have ci:=Fo l[k] w;have cj:=Ha l[k] ⟨#[45,46,33,37,42,95,43,96,39,126]⟩ w (by decide);by_cases hp:Du l[k]=true
   ·have HX:Hid ((l.take (k+1)).all tkq=true):=Hi (by rw[List.take_succ_eq_append_getElem hlt,List.all_append,HQ.out];simp[tkq,hp]);have CI:=Hi (AW ci hp);clear ci cj hp;generalize(l[k].toNat:Int)=x at d1 CI;go_wp2_with (go_at_call 56;refine CI.out.mono ?_;rintro e w' ⟨rfl,rfl⟩)
    go_round
    case rel=>exact⟨k+1,by omega,by go_num,HX.out⟩
    case measure=>simp[intOf];omega
   ·have hp':Du l[k]=false:=by simpa using hp
    have CI:=Hi (AW ci hp');by_cases hi:Hf (bs ⟨#[45,46,33,37,42,95,43,96,39,126]⟩) l[k]=true
    ·have HX:Hid ((l.take (k+1)).all tkq=true):=Hi (by
      have h9:tkq l[k]=true:=by unfold tkq;rw[hp',Bool.false_or];exact hi
      rw[List.take_succ_eq_append_getElem hlt,List.all_append,HQ.out];simp[h9])
     have CJ:=Hi (AW cj hi);clear ci cj hp hp' hi;generalize(l[k].toNat:Int)=x at d1 CI CJ;go_wp2_with (first|(go_at_call 56;refine CI.out.mono ?_;rintro e w' ⟨rfl,rfl⟩)|(go_at_call 57;refine CJ.out.mono ?_;rintro e w' ⟨rfl,rfl⟩))
     go_round
     case rel=>exact⟨k+1,by omega,by go_num,HX.out⟩
     case measure=>simp[intOf];omega
    ·have hi':Hf (bs ⟨#[45,46,33,37,42,95,43,96,39,126]⟩) l[k]=false:=by simpa using hi
     have HX:Hid ((l.all tkq)=false):=Hi (by
      have h9:tkq l[k]=false:=by unfold tkq;rw[hp',Bool.false_or];exact hi'
      have h8:l.all tkq=false:=List.all_eq_false.2 ⟨l[k],List.getElem_mem hlt,by simp[h9]⟩;first|exact h8|(rw[Fm,h8];rfl))
     have CJ:=Hi (AW cj hi');clear ci cj hp hp' hi hi';generalize(l[k].toNat:Int)=x at d1 CI CJ;go_wp2_with (first|(go_at_call 56;refine CI.out.mono ?_;rintro e w' ⟨rfl,rfl⟩)|(go_at_call 57;refine CJ.out.mono ?_;rintro e w' ⟨rfl,rfl⟩))
     go_ret;exact⟨by rw[HX.out];rfl,rfl⟩
  ·have HA:Hid (l.all tkq=true):=Hi (by have:=HQ.out;rw[List.take_of_length_le (by omega)]at this;exact this);go_wp2;go_ret;exact⟨by rw[HA.out];rfl,rfl⟩
def ipq(x:Tx×Tx):Bool:=DU x.1&&x.2.all tkq
def ipB(l:KVs):Bool:=l.all ipq&&apB l
theorem LZ(φ:Nat→Prop)(v:Value)(l:KVs)(w:World)(hv:Kq φ w v l):Calls Tryz.prog 105 #[v] w fun e w'=>e= .returned (.bool (ipB l))∧Le w w':=by
 have HV:=Hi hv;obtain⟨A,cc,rfl,h1,h2,h3,h5⟩:=hv;have H5:=Hi h5;clear h5;go_enter Tryz.func105,Tryz.ntmps105;go_wp2
 go_loop [3] (fun i=>∃k:Nat,k≤l.length∧i= .int .i64 k∧(l.take k).all ipq=true) (fun i=>l.length-(intOf i).toNat)
 case atStart=>exact⟨0,Nat.zero_le _,rfl,rfl⟩
 case round=>
  obtain⟨k,hk,rfl,hq⟩:=hrel;have HQ:=Hi hq;clear hq;by_cases hlt:k<l.length
  ·obtain⟨g,o,rfl,_,hc⟩:=H5.out (by omega);obtain⟨x,y,d1,d2,hx,hy⟩:=hc k hlt;have CI:=Hi (Cr x l[k].1 w hx.1);have CJ:=Hi (LY y l[k].2 w hy.1);clear hc hx hy;by_cases hp:DU l[k].1=true
   ·rw[hp]at CI;by_cases hi:l[k].2.all tkq=true
    ·rw[hi]at CJ;have HX:Hid ((l.take (k+1)).all ipq=true):=Hi (by
      have h9:ipq l[k]=true:=by unfold ipq;rw[hp,hi];rfl
      rw[List.take_succ_eq_append_getElem hlt,List.all_append,HQ.out];simp[h9])
     clear hp hi;go_wp2_with (first|(go_at_call 32;refine CI.out.mono ?_;rintro e w' ⟨rfl,rfl⟩)|(go_at_call 119;refine CJ.out.mono ?_;rintro e w' ⟨rfl,rfl⟩))
     go_round
     case rel=>exact⟨k+1,by omega,by go_num,HX.out⟩
     case measure=>simp[intOf];omega
    ·have hi':l[k].2.all tkq=false:=by simpa using hi
     rw[hi']at CJ;have HX:Hid (ipB l=false):=Hi (by
      have h9:ipq l[k]=false:=by unfold ipq;rw[hi'];simp
      unfold ipB;rw[List.all_eq_false.2 ⟨l[k],List.getElem_mem hlt,by simp[h9]⟩];rfl)
     clear hp hi hi';go_wp2_with (first|(go_at_call 32;refine CI.out.mono ?_;rintro e w' ⟨rfl,rfl⟩)|(go_at_call 119;refine CJ.out.mono ?_;rintro e w' ⟨rfl,rfl⟩))
     go_ret;exact⟨by rw[HX.out];rfl,AC _⟩
   ·have hp':DU l[k].1=false:=by simpa using hp
    rw[hp']at CI;have HX:Hid (ipB l=false):=Hi (by
     have h9:ipq l[k]=false:=by unfold ipq;rw[hp'];rfl
     unfold ipB;rw[List.all_eq_false.2 ⟨l[k],List.getElem_mem hlt,by simp[h9]⟩];rfl)
    clear hp hp' CJ;go_wp2_with (go_at_call 32;refine CI.out.mono ?_;rintro e w' ⟨rfl,rfl⟩)
    go_ret;exact⟨by rw[HX.out];rfl,AC _⟩
  ·have HA:Hid (l.all ipq=true):=Hi (by have:=HQ.out;rw[List.take_of_length_le (by omega)]at this;exact this);have HX:Hid (ipB l=apB l):=Hi (by unfold ipB;rw[HA.out];rfl);go_wp2_with fail
   refine(Hb φ _ l w HV.out).mono ?_;rintro e w' ⟨rfl,hle⟩;have HLE:=Hi hle;clear hle;go_wp2;go_ret;exact⟨by rw[HX.out];rfl,HLE.out⟩
def JO(c:UInt8):Bool:=32≤c&&c≤126&&c != 34&&c != 92
def JP(l:Tx):Bool:=l.all JO&&(l.isEmpty||(l.head? != some 32&&l.getLast? != some 32))
def D8(l:Tx):Bool:=(pcs 32 l).all DU
def Jv(l:Tx):Option Tx:=
 if l=[]then some []
 else if l.head? =some 34∧3<l.length∧l.getLast? =some 32∧l[l.length-2]? =some 34∧JP ((l.take (l.length-2)).drop 1)=true then some ((l.take (l.length-2)).drop 1)
 else if l.getLast? =some 32∧D8 (l.take (l.length-1))=true then some (l.take (l.length-1))else none
def C7(l:Tx):Option KVs:=
 if l=[]then some []
 else if l.head? =some 59 then(match BB (l.drop 1) 59 GF with|some kvs=>if ipB kvs=true then some kvs else none|none=>none)else none
inductive SA|open_|val (n:Tx) (u:PU) (l:KVs)
def Iz(c:UInt8):Bool:=c != 59&&c != 63&&c != 44&&c != 34&&c != 32
def Dy(l:Tx):SA:=
 if l.all Iz=true then(match By l with| .val u=>if u.wild=true then .open_ else .val [] u []|_=> .open_)else .open_
def Bi(l:Tx):SA:=
 if BC l 60<l.length then
  if BC l 62<l.length∧BC l 60≤BC l 62 then
   match Jv (l.take (BC l 60))with
   |none=> .open_
   |some n=>
    match By ((l.take (BC l 62)).drop (BC l 60+1))with
    | .val u=>(match C7 (l.drop (BC l 62+1))with|some kvs=>if u.wild=true then .open_ else .val n u kvs|none=> .open_)
    |_=> .open_
  else .open_
 else Dy l
end Go.Proofs.YtejhpdcjafbklaaGreatDoor
namespace Go.Proofs.YtejhpdcjafbklaaGreatDoor.G3
open Go.RowKit
section
variable {P:Program} {ops:Array Oper} {md:Region.Mode} {Q:Exit→Act→World→Prop}
def depsB(md:Region.Mode)(ops:Array Oper)(N:Nat):Bool:=
 (List.range N).all fun i=>match ops[i]? with
  |some o=>(o.op.operands.toList.filterMap Kk).all fun t=>(List.range N).all fun j=>((ops[j]?).bind (·.dst)) != some t||o.after.any fun e=>e.on==j&&Region.binds md e
  |none=>true
def oneB(ops:Array Oper)(n i:Nat):Bool:=match ops[i]? with
 |some o=>(match o.dst with|some t=>decide (t<n)|none=>true)&&(o.guard==none&&(o.op.operands.toList.filterMap Kk).all fun t=>decide (t<n))
 |none=>true
def apartB(ops:Array Oper)(N n:Nat):Bool:=
 ((List.range N).all fun i=>(List.range N).all fun j=>i==j||
  match ops[i]?,ops[j]? with
  |some x,some y=>x.dst==none||x.dst != y.dst
  |_,_=>true)&&(List.range N).all (oneB ops n)
structure BE(ops:Array Oper)(N:Nat)(S:Nat→Value→World→Prop)(Z:Nat→World→Prop)(G:World→Prop)(n:Nat)(a0:Act)(listed:Array Bool)(a:Act)(w:World):Prop where
 g:G w
 d:a.defers=[]
 sz:a.tmps.size=n
 old:∀t,t<n→(∀(i:Nat) (o:Oper),i<N→ops[i]? =some o→o.dst≠some t)→S t (a.eval (.tmp t)) w
 un:∀t,(∀(i:Nat) (o:Oper),i<N→ops[i]? =some o→listed.getD i false=true→o.dst≠some t)→a.eval (.tmp t)=a0.eval (.tmp t)
 new:∀(i:Nat) (o:Oper),i<N→ops[i]? =some o→listed.getD i false=true→SAt S Z i o.dst (EI o a) w
theorem depsB_spec{N:Nat}(h:depsB md ops N=true){i:Nat}(hi:i<N){o:Oper}(ho:ops[i]? =some o){t:Nat}(ht:Operand.tmp t∈o.op.operands){j:Nat}(hjN:j<N){oj:Oper}(hj:ops[j]? =some oj)(hd:oj.dst=some t):
 ∃e∈o.after,e.on=j∧Region.binds md e=true:=by
 unfold depsB at h;have h1:=List.all_eq_true.1 h i (List.mem_range.2 hi);simp only[ho]at h1;have h2:=List.all_eq_true.1 h1 t (List.mem_filterMap.2 ⟨.tmp t,by simpa using ht,rfl⟩);have h3:=List.all_eq_true.1 h2 j (List.mem_range.2 hjN);simp only[hj,Option.bind_some,hd,bne_self_eq_false,Bool.false_or,Array.any_eq_true']at h3;obtain⟨e,he,h4⟩:=h3;simp only[Bool.and_eq_true,beq_iff_eq]at h4
 exact⟨e,he,h4.1,h4.2⟩
theorem apartB_ne{N n:Nat}(h:apartB ops N n=true){i j:Nat}(hi:i<N)(hj:j<N){x y:Oper}(hx:ops[i]? =some x)(hy:ops[j]? =some y)(hne:i≠j):x.dst=none∨x.dst≠y.dst:=by
 unfold apartB at h;simp only[Bool.and_eq_true]at h;have h1:=List.all_eq_true.1 h.1 i (List.mem_range.2 hi);have h2:=List.all_eq_true.1 h1 j (List.mem_range.2 hj);simp only[hx,hy,Bool.or_eq_true,beq_iff_eq,bne_iff_ne]at h2;rcases h2 with h2|h2
 ·exact(hne h2).elim
 ·exact h2
theorem apartB_one{N n:Nat}(h:apartB ops N n=true){i:Nat}(hi:i<N){x:Oper}(hx:ops[i]? =some x):(∀t,x.dst=some t→t<n)∧x.guard=none∧∀t,Operand.tmp t∈x.op.operands→t<n:=by
 unfold apartB at h;simp only[Bool.and_eq_true]at h;have h1:=List.all_eq_true.1 h.2 i (List.mem_range.2 hi);unfold oneB at h1;simp only[hx,Bool.and_eq_true]at h1;refine⟨fun t ht=>?_,?_,fun t ht=>?_⟩
 ·have:=h1.1;simp only[ht,decide_eq_true_eq]at this;exact this
 ·have:=h1.2.1;cases hg:x.guard with
  |none=>rfl
  |some g=>rw[hg]at this;simp at this
 ·exact of_decide_eq_true (List.all_eq_true.1 h1.2.2 t (List.mem_filterMap.2 ⟨.tmp t,by simpa using ht,rfl⟩))
theorem Bs{S:Nat→Value→World→Prop}{Z:Nat→World→Prop}{G:World→Prop}{n i:Nat}{N:Nat}(hiN:i<N)(hd:depsB md ops N=true)(ha:apartB ops N n=true){o:Oper}(ho:ops[i]? =some o)(hs:GrowStep P S Z G Q i o)
 {listed:Array Bool}{a0 a:Act}{w:World}(h:BE ops N S Z G n a0 listed a w)(hr:i∈Region.ready md ops listed):wpOp P ops Q i (BE ops N S Z G n a0 (listed.setIfInBounds i true)) a w:=by
 obtain⟨hun,o',ho',hall⟩:=mem_ready.1 hr;obtain rfl:o'=o:=Option.some.inj (ho'.symm.trans ho);have hw:Region.wanted o' (yielded ops a.tmps)=true:=by unfold Region.wanted;rw[(apartB_one ha hiN ho).2.1]
 unfold wpOp;simp only[ho,hw,if_true];left;refine Oper.wp_mono ?_ (hs a w h.g fun t ht=>?_)
 ·rintro a' w' ⟨v,rfl,hg,hS,hZ,hv⟩;refine⟨hg,(Co _ _ _).trans h.d,(DJ _ _ _).trans h.sz,fun t ht hno=>?_,fun t hno=>?_,fun j oj hjN hj hl=>?_⟩
  ·have hne:o'.dst≠some t:=hno i o' hiN ho;rw[AE v hne];exact hS t _ hne (h.old t ht hno)
  ·have hilt:i<listed.size:=by
    rcases Nat.lt_or_ge i listed.size with h'|h'
    ·exact h'
    ·rw[Array.getD_eq_getD_getElem?,Array.getElem?_eq_none h']at hun;simp at hun
   have hne:o'.dst≠some t:=hno i o' hiN ho (by rw[Array.getD_eq_getD_getElem?,Array.getElem?_setIfInBounds_self_of_lt hilt];rfl);rw[AE v hne];refine h.un t fun j oj hjN hj hl=>hno j oj hjN hj ?_;by_cases hij:i=j
   ·subst hij;rw[Array.getD_eq_getD_getElem?,Array.getElem?_setIfInBounds_self_of_lt hilt];rfl
   ·rw[getD_set_ne false hij];exact hl
  ·by_cases hij:i=j
   ·subst hij;obtain rfl:oj=o':=Option.some.inj (hj.symm.trans ho);unfold EI;cases hdd:oj.dst with
    |none=>rw[hdd]at hv;exact hv
    |some t=>
     dsimp only;rw[AR v (by rw[h.sz];exact(apartB_one ha hiN ho).1 _ hdd)];rw[hdd]at hv;exact hv
   ·have hl':listed.getD j false=true:=by rw[getD_set_ne false hij]at hl;exact hl
    have hne:=apartB_ne ha hiN hjN ho hj hij;have hold:=h.new j oj hjN hj hl';cases hdj:oj.dst with
    |none=>
     rw[hdj]at hold;exact hZ j (fun e=>hij e.symm) hold
    |some t=>
     rw[hdj]at hold hne;unfold EI at hold⊢;rw[hdj]at hold⊢;have hnt:o'.dst≠some t:=by rcases hne with h|h;(rw[h];simp);exact h
     dsimp only;rw[AE v hnt];exact hS t _ hnt hold
 ·by_cases hw2:∃(j:Nat) (oj:Oper),j<N∧ops[j]? =some oj∧oj.dst=some t
  ·obtain⟨j,oj,hjN,hj,hdj⟩:=hw2;obtain⟨e,he,heon,hb⟩:=depsB_spec hd hiN ho ht hjN hj hdj;have hlj:=hall e he hb;rw[heon]at hlj;have hnew:=h.new j oj hjN hj hlj;unfold EI at hnew;rw[hdj]at hnew;exact hnew
  ·exact h.old t ((apartB_one ha hiN ho).2.2 _ ht) fun j oj hjN hj hdj=>hw2 ⟨j,oj,hjN,hj,hdj⟩
theorem CN{S:Nat→Value→World→Prop}{Z:Nat→World→Prop}{G:World→Prop}{n N:Nat}{a0:Act}(hd:depsB md ops N=true)(ha:apartB ops N n=true)(hah:DR md ops=true)(ht:FA md ops N=true)
 (hs:∀(i:Nat) (o:Oper),i<N→ops[i]? =some o→GrowStep P S Z G Q i o)
 (hdone:∀a w,BE ops N S Z G n a0 (BA ops.size N) a w→wpList P ops Q (ops.toList.drop N) a w):
 ∀(f:Nat) (listed:Array Bool) (a:Act) (w:World),HeadInv md ops N listed→listed.toList.count false=f→BE ops N S Z G n a0 listed a w→wpAny P md ops Q f listed a w:=by
 simp only[FA,Bool.and_eq_true,decide_eq_true_eq]at ht;obtain⟨⟨⟨hsk,hch⟩,hN⟩,hsq⟩:=ht;intro f;induction f with
 |zero=>
  intro listed a w hi hc h;exfalso;have hlt:N<listed.size:=by rw[hi.size];exact hN
  have hm:listed[N]=false:=by
   have:=hi.tail N (NL _) hN;rw[Array.getD_eq_getD_getElem?,Array.getElem?_eq_getElem hlt]at this;simpa using this
  have:0<listed.toList.count false:=List.count_pos_iff.2 (by rw[←hm];exact Array.getElem_mem_toList hlt);omega
 |succ f ih=>
  intro listed a w hi hc h;by_cases hall:∀i,i<N→listed.getD i false=true
  ·have e:=Dz (Nat.le_of_lt hN) ⟨hi.size,hi.tail⟩ hall;subst e;have hl:(ops.toList.drop N).length=f+1:=by
    rw[←hc];simp[BA,List.count_replicate]
   have:=wpAny_of_seq (P:=P) (md:=md) (ops:=ops) (Q':=Q) (ops.toList.drop N) N (BA ops.size N) a w (fun j=>by simp[List.getElem?_drop]) (by rw[List.length_drop,Array.length_toList];exact hsq) (hdone a w h);rw[hl]at this;exact this
  ·obtain⟨j,hj⟩:∃j,¬(j<N→listed.getD j false=true):=by
    refine Classical.byContradiction fun hno=>hall fun i hi'=>?_;exact Classical.byContradiction fun hx=>hno ⟨i,fun k=>hx (k hi')⟩
   have hjN:j<N:=Classical.byContradiction fun hx=>hj (fun k=>absurd k hx);have hjl:listed.getD j false=false:=by
    cases hx:listed.getD j false with
    |false=>rfl
    |true=>exact absurd (fun _=>hx) hj
   refine⟨fun hr=>?_,fun i hir=>?_⟩
   ·have:=CE hah hi.size hr j (by omega);rw[this]at hjl;cases hjl
   ·have hiN:i<N:=by
     rcases Nat.lt_or_ge i N with h'|h'
     ·exact h'
     ·exact absurd hir (tail_waits hsk hch hN hi _ j rfl hjN (getD_in (by rw[hi.size];omega) hjl) i h')
    obtain⟨hun,o,ho,_⟩:=mem_ready.1 hir;have hlt:i<listed.size:=by rw[hi.size];exact(Array.getElem?_eq_some_iff.1 ho).1
    have hm:listed[i]=false:=by
     rw[Array.getD_eq_getD_getElem?,Array.getElem?_eq_getElem hlt]at hun;simpa using hun
    refine wpOp_mono (fun a' w' h'=>ih _ a' w' (hi.set hir hiN) ?_ h') (Bs hiN hd ha ho (hs i o hiN ho) h hir);rw[Array.setIfInBounds_def,dif_pos hlt,Array.toList_set,List.count_set (by simpa using hlt)];have hpos:0<listed.toList.count false:=List.count_pos_iff.2 (by rw[←hm];exact Array.getElem_mem_toList hlt);have hb:(listed.toList[i]'(by simpa using hlt)==false)=true:=by simp[hm]
    rw[if_pos hb,if_neg (by decide)];omega
theorem wp_region_grow_tail{id:Nat}{l:List Oper}{a:Act}{w:World}(S:Nat→Value→World→Prop)(G:World→Prop)(n N:Nat)(ds:List Nat)
 (hm:P.follows .mixedOrders=true)(hB:(depsB .any l.toArray N&&apartB l.toArray N n&&DR .any l.toArray&&FA .any l.toArray N&&decide ((l.take N).map (·.dst)=ds.map some))=true)
 (hn:a.tmps.size=n)(hdef:a.defers=[])(hG:G w.drew)(hold:∀t,t∉ds→S t (a.eval (.tmp t)) w.drew)
 (hs:BX P S (fun _ _=>True) G Q 0 (l.take N))
 (hend:∀v w',G w'→(∀t,t∈ds→S t (v t) w')→wpList P l.toArray Q (l.drop N) (Aj a v ds) w'):
 (Code.region id l.toArray true).wp P Q a w:=by
 simp only[Bool.and_eq_true,decide_eq_true_eq]at hB;obtain⟨⟨⟨⟨hd,ha⟩,hah⟩,htb⟩,hds⟩:=hB;have htb':=htb;simp only[FA,Bool.and_eq_true,decide_eq_true_eq]at htb';obtain⟨⟨⟨hsk,hch⟩,hN⟩,hsq⟩:=htb';have hNl:N<l.length:=by simpa using hN
 refine wp_region_any hm ?_;refine CN (S:=S) (Z:=fun _ _=>True) (G:=G) (n:=n) (N:=N) (a0:=a) hd ha hah htb (fun i o hi ho=>?_) ?_ l.toArray.size _ a _ ?_ (by simp) ?_
 ·have:=hs.at i o (by rw[List.getElem?_take_of_lt hi];simpa using ho);simpa using this
 ·intro a' w' h
  have e:a'=Aj a (fun t=>a'.eval (.tmp t)) ds:=by
   refine D7 (by rw[h.d,Bg,hdef]) (by rw[h.sz,BJ,hn]) fun t ht=>?_;rw[CC _ t ds a (by rw[hn,←h.sz];exact ht)];by_cases hm:t∈ds
   ·rw[if_pos hm]
   ·rw[if_neg hm];refine h.un t fun i o hiN ho hl hdt=>hm ?_
    have hmem:o.dst∈(l.take N).map (·.dst):=List.mem_map.2 ⟨o,by
     rw[List.mem_take_iff_getElem];obtain⟨hlt,e⟩:=List.getElem?_eq_some_iff.1 (show l[i]? =some o by simpa using ho);exact⟨i,by omega,e⟩,rfl⟩
    rw[hds,hdt]at hmem;obtain⟨t',ht',e⟩:=List.mem_map.1 hmem;injection e with e
    exact e▸ht'
  rw[e];refine hend _ w' h.g fun t ht=>?_;have hmem:some t∈(l.take N).map (·.dst):=by rw[hds];exact List.mem_map.2 ⟨t,ht,rfl⟩
  obtain⟨o,ho,hdt⟩:=List.mem_map.1 hmem;obtain⟨i,hi,e2⟩:=List.getElem_of_mem ho;have hiN:i<N:=by simp at hi;omega
  have hli:l.toArray[i]? =some o:=by
   have:(l.take N)[i]? =some o:=by rw[List.getElem?_eq_getElem hi,e2]
   rw[List.getElem?_take_of_lt hiN]at this;simpa using this
  have hnew:=h.new i o hiN hli (by
   have hil:i<(BA l.toArray.size N).size:=by simp[BA];omega
   rw[Array.getD_eq_getD_getElem?,Array.getElem?_eq_getElem hil];simp only[BA,List.getElem_toArray,Option.getD_some];rw[List.getElem_append_left (by simpa using hiN),List.getElem_replicate])
  unfold EI at hnew;rw[hdt]at hnew;exact hnew
 ·exact⟨by simp,fun j oj _ hl=>(by rw[getD_replicate_false]at hl;cases hl),fun t _ ht=>getD_in (by simpa using ht) (getD_replicate_false _ _)⟩
 ·refine⟨hG,hdef,hn,fun t ht hno=>?_,fun t _=>rfl,fun i o _ ho hl=>?_⟩
  ·refine hold t fun hm=>?_;have hmem:some t∈(l.take N).map (·.dst):=by rw[hds];exact List.mem_map.2 ⟨t,hm,rfl⟩
   obtain⟨o,ho,hdt⟩:=List.mem_map.1 hmem;obtain⟨i,hi,e2⟩:=List.getElem_of_mem (List.mem_of_mem_take ho);have hlen:(List.take N l).length≤N:=by simp;omega
   have hmt:=List.mem_of_mem_take ho;obtain⟨k,hk,e3⟩:=List.mem_take_iff_getElem.1 ho
   exact hno k o (by omega) (by
    have hkl:k<l.length:=by omega
    simp[List.getElem?_eq_getElem hkl,e3]) hdt
  ·rw[getD_replicate_false]at hl;cases hl
end
end Go.Proofs.YtejhpdcjafbklaaGreatDoor.G3
namespace Go.Proofs.YtejhpdcjafbklaaGreatDoor
open Go.RowKit
def BvN(g:Option Nat)(w:World)(v:Value)(l:Tx):Prop:=Bv w v l∧∀k,v.ownBlock=some k→some k≠g
theorem BvN.le{g:Option Nat}{w w':World}{v:Value}{l:Tx}(h:BvN g w v l)(k:Le w w'):BvN g w' v l:=⟨h.1.le k,h.2⟩
theorem BvN.grown{g:Option Nat}{w w':World}{v:Value}{l:Tx}(h:BvN g w v l)(k:w.grownBy w' g):BvN g w' v l:=by
 obtain⟨⟨A,c,rfl,h1,h2,h3,h4⟩,hn⟩:=h;refine⟨⟨A,c,rfl,h1,h2,h3,fun hp=>?_⟩,hn⟩;obtain⟨b,o,rfl,hc⟩:=h4 hp;refine⟨b,o,rfl,fun j hj=>?_⟩;have hb:some b≠g:=hn b rfl;have hlt:b<w.heap.size:=Az (hc j hj);have e:=k.block b hlt hb;have h0:=hc j hj;unfold World.cell? at h0⊢;rw[e];exact h0
theorem BvN.new{g:Option Nat}{w0 w:World}{v:Value}{l:Tx}(h:Bv w v l)(hb:∀k,v.ownBlock=some k→w0.heap.size≤k)(hg:∀k,g=some k→k<w0.heap.size):BvN g w v l:=
 ⟨h,fun k hk e=>by have:=hb k hk;have:=hg k e.symm;omega⟩
theorem AY.lt{base:Nat}{w:World}{v:Value}{l:Tx}(h:AY base w v l):∀k,v.ownBlock=some k→k<w.heap.size:=fun k hk=>by
 obtain⟨_,c,fz,e⟩:=AK h k hk;exact AQ e
structure apG(W0:World)(old:Value)(T:Tx)(w:World):Prop where
 le:Le W0 w
 own:AY W0.heap.size w old T
theorem EY{W0:World}{old:Value}{T:Tx}{w w':World}(h:apG W0 old T w)(k:Le w w'):apG W0 old T w':=⟨h.le.trans k,h.own.le k⟩
theorem AY.shape{base:Nat}{w:World}{v:Value}{l:Tx}(h:AY base w v l):∃n A c,v= .slice A n c:=by
 rcases h.2 with⟨e,_⟩|⟨g,cap,cur,e,_⟩
 ·exact⟨0,none,0,e⟩
 ·exact⟨_,_,_,e⟩
section
variable {P:Program} {Q:Exit→Act→World→Prop}
theorem Bu{S:Nat→Value→World→Prop}{Z:Nat→World→Prop}{G:World→Prop}{i:Nat}{o:Oper}(s x:Operand)(t:TypeId)
 (hop:o.op=Op.call {callee:=Callee.builtin Builtin.append,args:= #[s,x],argTypes:= #[t,t]})
 (h:∀(a:Act) (w:World),G w→(∀t,Operand.tmp t∈o.op.operands→S t (a.eval (.tmp t)) w)→
  ∃v w',(Builtin.append_ #[t,t] o.type #[a.eval s,a.eval x]).run P w= .ok v w'∧G w'∧(∀t u,o.dst≠some t→S t u w→S t u w')∧(∀j,j≠i→Z j w→Z j w')∧SAt S Z i o.dst v w'):GrowStep P S Z G Q i o:=by
 intro a w hg hop';obtain⟨v,w',hr,h1,h2,h3,h4⟩:=h a w hg hop';unfold Oper.wp;simp[execOp,hop,resolve,invoke,builtin,hr,Result.andThen];exact⟨v,rfl,h1,h2,h3,h4⟩
end
theorem MG{n:Nat}(h:n<10):Lib.decDigits n=[UInt8.ofNat (48+n)]:=by
 rw[Lib.decDigits.eq_def];simp[h]
theorem P0{n:Nat}(h:¬n<10):Lib.decDigits n=Lib.decDigits (n/10)++[UInt8.ofNat (48+n%10)]:=by
 rw[Lib.decDigits.eq_def n];simp[h]
theorem Jj(k:Nat)(h:k<10):∃c:UInt8,UInt8.ofNat (48+k)=c∧(48:Int)+(k:Int)=(c.toNat:Int):=
 ⟨_,rfl,by rw[UInt8.toNat_ofNat_of_lt' (by show 48+k<256;omega)];omega⟩
theorem QZ(n:Nat):∀(w:World),n≤9223372036854775807→
 Calls Tryz.prog 99 #[.int .i64 n] w fun e w'=>∃v',e= .returned v'∧AY w.heap.size w' v' (Lib.decDigits n)∧(Lib.decDigits n).length≤21∧Le w w':=by
 induction n using Nat.strongRecOn with
 |_ n ih=>
  intro w hn;have HLN:Hid ((Lib.decDigits n).length≤21):=Hi (by
   have h:=Lib.itoa_length_le (n:Int) (by omega) (by omega);rw[Lib.itoa_nonneg]at h;exact h)
  by_cases hs:n<10
  ·have HD:=Hi (MG hs);obtain⟨c,hc,hz⟩:=Jj n hs;rw[hc]at HD;have hlt:decide ((n:Int)<10)=true:=decide_eq_true (by omega);have HO:=Hi (DK w _ c hz);have HZ:=Hi hz;have hn0:(0:Int)≤(n:Int):=by omega
   clear hc hz ih;go_enter Tryz.func99,Tryz.ntmps99;go_wp2;go_ret;exact⟨_,rfl,by rw[HD.out];exact HO.out,HLN.out,(AC w).alloc _⟩
  ·have HD:=Hi (P0 hs);obtain⟨c,hc,hz⟩:=Jj (n%10) (by omega);rw[hc]at HD;have hz:(48:Int)+(n:Int)%10=(c.toNat:Int):=by rw[←hz];omega
   have hlt:decide ((n:Int)<10)=false:=decide_eq_false (by omega);have hdiv:IntKind.i64.wrap ((n:Int).tdiv 10)=((n/10:Nat):Int):=by
    rw[IntWalk.i64_quo _ _ (by omega)];omega
   have HI:=Hi (ih (n/10) (by omega));have HZ:=Hi hz;clear hc hz ih;go_enter Tryz.func99,Tryz.ntmps99;go_wp2_with fail
   refine(HI.out w (by omega)).mono ?_;rintro e w1 ⟨v1,rfl,hown1,hl1,hle1⟩;have HO1:=Hi (hown1.le ((AC w1).alloc (Obj.cells #[.int .u8 ((48:Int)+(n:Int)%10)] 5)));have HB1:Hid (Bv (w1.alloc (Obj.cells #[.int .u8 ((48:Int)+(n:Int)%10)] 5)) (.slice (some ⟨w1.heap.size,0,none⟩) 1 1) [c]):=Hi (by rw[HZ.out];exact CO w1 [c] (by simp) (0,0));have HL1:=Hi hle1
   have HLL:=Hi hl1;obtain⟨n1,A1,c1,rfl⟩:=hown1.shape;clear hown1 hle1 hl1;go_wp2_with (at_builtin;refine AJ rfl (.tmp 11) (.tmp 16) rfl (base:=w.heap.size) rfl rfl HO1.out HB1.out (by have:=HLL.out;simp only[LC,LN];omega) (HL1.out.alloc _).size ?_)
   intro v2 w2 hown2 hgrow2;have HO2:Hid (AY w.heap.size w2 v2 (Lib.decDigits n)):=Hi (by rw[HD.out];exact hown2);have HL2:Hid (Le w w2):=Hi (Below.grown' (HL1.out.alloc _) hgrow2 (NL _) (fun g hg=>(AK HO1.out g hg).1));clear hown2 hgrow2;go_wp2;go_ret;exact⟨_,rfl,HO2.out,HLN.out,HL2.out⟩
def CZ(host:Tx)(p:Int):Tx:=host++(if 0<p then 58::Lib.itoa p else [])
theorem K4(w:World)(v:Value)(host:Tx)(p:Int)(hv:Bv w v host)(hl:host.length≤2147483647)(hp:p≤9223372036854775807):
 Calls Tryz.prog 73 #[v,.int .i64 p] w fun e w'=>∃v',e= .returned v'∧AY w.heap.size w' v' (CZ host p)∧Le w w':=by
 have HV:=Hi hv;obtain⟨A,c,rfl⟩:=hv.form;have HN:=Hi (AY.nil w.heap.size w);have HHL:=Hi hl;clear hv hl;by_cases h0:0<p
 ·obtain⟨n,rfl⟩:∃n:Nat,p=n:=⟨p.toNat,by omega⟩;have hd:decide (0<(n:Int))=true:=decide_eq_true h0;have hd2:0<n:=by omega
  have HT:Hid (CZ host (n:Int)=host++58::Lib.decDigits n):=Hi (by unfold CZ;rw[if_pos h0,Lib.itoa_nonneg]);have HP:Hid (n≤9223372036854775807):=Hi (by omega);clear h0 hp;go_enter Tryz.func73,Tryz.ntmps73
  go_wp2_with (at_builtin;refine AJ rfl (.const (.slice none 0 0)) (.tmp 6) rfl (base:=w.heap.size) rfl rfl HN.out HV.out (by have:=HHL.out;simp only[LN];omega) (NL _) ?_)
  intro v1 w1 hown1 hgrow1;have HL1:Hid (Le w w1):=Hi (Below.grown' (AC w) hgrow1 (NL _) (fun g hg=>by cases hg));have HB1:Hid (Bv (w1.alloc (Obj.cells #[.int .u8 58] 5)) (.slice (some ⟨w1.heap.size,0,none⟩) 1 1) [58]):=Hi (CO w1 [58] (by decide) (0,0))
  have HO1:Hid (AY w.heap.size (w1.alloc (Obj.cells #[.int .u8 58] 5)) v1 host):=Hi (AY.le hown1 ((AC w1).alloc _));obtain⟨n1,A1,c1,rfl⟩:=hown1.shape;clear hown1 hgrow1;go_wp2_with (at_builtin;refine AJ rfl (.tmp 10) (.tmp 11) rfl (base:=w.heap.size) rfl rfl HO1.out HB1.out (by have:=HHL.out;simp only[LC,LN];omega) (HL1.out.alloc _).size ?_)
  intro v2 w2 hown2 hgrow2;have HO2:=Hi hown2;have HL2:Hid (Le w w2):=Hi (Below.grown' (HL1.out.alloc _) hgrow2 (NL _) (fun g hg=>(AK HO1.out g hg).1));obtain⟨n2,A2,c2,rfl⟩:=hown2.shape;clear hown2 hgrow2;go_wp2_with fail
  refine(QZ n w2 HP.out).mono ?_;rintro e w3 ⟨v3,rfl,hown3,hl3,hle3⟩;have HB3:=Hi (hown3.bv (by omega));have HO3:=Hi (HO2.out.le hle3);have HL3:Hid (Le w w3):=Hi (HL2.out.trans hle3);have HLN:=Hi hl3;obtain⟨n3,A3,c3,rfl⟩:=hown3.shape;clear hown3 hle3 hl3
  go_wp2_with (at_builtin;refine AJ rfl (.tmp 12) (.tmp 14) rfl (base:=w.heap.size) rfl rfl HO3.out HB3.out (by have:=HHL.out;have:=HLN.out;simp only[LA,LC,LN];omega) HL3.out.size ?_)
  intro v4 w4 hown4 hgrow4;have HO4:Hid (AY w.heap.size w4 v4 (CZ host (n:Int))):=Hi (by rw[HT.out];exact hown4);have HL4:Hid (Le w w4):=Hi (Below.grown' HL3.out hgrow4 (NL _) (fun g hg=>(AK HO3.out g hg).1));clear hown4 hgrow4;go_wp2;go_ret;exact⟨_,rfl,HO4.out,HL4.out⟩
 ·have hd:decide (0<p)=false:=decide_eq_false h0;have HT:Hid (CZ host p=host):=Hi (by unfold CZ;rw[if_neg h0,List.append_nil]);clear h0;go_enter Tryz.func73,Tryz.ntmps73;go_wp2_with (at_builtin;refine AJ rfl (.const (.slice none 0 0)) (.tmp 6) rfl (base:=w.heap.size) rfl rfl HN.out HV.out (by have:=HHL.out;simp only[LN];omega) (NL _) ?_)
  intro v1 w1 hown1 hgrow1;have HL1:Hid (Le w w1):=Hi (Below.grown' (AC w) hgrow1 (NL _) (fun g hg=>by cases hg));have HO1:Hid (AY w.heap.size w1 v1 (CZ host p)):=Hi (by rw[HT.out];exact hown1);clear hown1 hgrow1;go_wp2;go_ret;exact⟨_,rfl,HO1.out,HL1.out⟩
structure PH where
 t:Int
 name:Tx
 text:Tx
 disp:Tx
 uri:PU
 ps:KVs
 num:Nat
 proto:Tx
 ver:Tx
 tr:Tx
 host:Tx
 port:Int
def PH.zero:PH:=⟨0,[],[],[],PU.zero,[],0,[],[],[],[],0⟩
def nmT(t:Int):Tx:=
 if t=1 then [84,111]else if t=2 then [70,114,111,109]else if t=3 then [67,111,110,116,97,99,116]else if t=4 then [67,97,108,108,45,73,68]
 else if t=5 then [67,83,101,113]else if t=6 then [77,97,120,45,70,111,114,119,97,114,100,115]else if t=7 then [69,120,112,105,114,101,115]
 else if t=8 then [67,111,110,116,101,110,116,45,76,101,110,103,116,104]else if t=9 then [86,105,97]else if t=10 then [67,111,110,116,101,110,116,45,84,121,112,101]
 else if t=11 then [82,111,117,116,101]else if t=12 then [82,101,99,111,114,100,45,82,111,117,116,101]else if t=13 then [82,101,102,101,114,45,84,111]
 else if t=14 then [82,101,102,101,114,114,101,100,45,66,121]else []
theorem C3(t:Int):(nmT t).length≤14:=by
 by_cases h1:t=1
 ·subst h1;decide
 by_cases h2:t=2
 ·subst h2;decide
 by_cases h3:t=3
 ·subst h3;decide
 by_cases h4:t=4
 ·subst h4;decide
 by_cases h5:t=5
 ·subst h5;decide
 by_cases h6:t=6
 ·subst h6;decide
 by_cases h7:t=7
 ·subst h7;decide
 by_cases h8:t=8
 ·subst h8;decide
 by_cases h9:t=9
 ·subst h9;decide
 by_cases h10:t=10
 ·subst h10;decide
 by_cases h11:t=11
 ·subst h11;decide
 by_cases h12:t=12
 ·subst h12;decide
 by_cases h13:t=13
 ·subst h13;decide
 by_cases h14:t=14
 ·subst h14;decide
 have h:nmT t=[]:=by unfold nmT;rw[if_neg h1,if_neg h2,if_neg h3,if_neg h4,if_neg h5,if_neg h6,if_neg h7,if_neg h8,if_neg h9,if_neg h10,if_neg h11,if_neg h12,if_neg h13,if_neg h14]
 rw[h];decide
def BP(t:Int):Prop:=t=1∨t=2∨t=3∨t=14
def Et(t:Int):Prop:=t=11∨t=12∨t=13
instance(t:Int):Decidable (BP t):=by unfold BP;exact inferInstance
instance(t:Int):Decidable (Et t):=by unfold Et;exact inferInstance
def gv(u:PU):Option PU:=if u.raw=[]then some u else match By (u.scheme++58::u.raw)with| .val v=>if v.raw=[]then none else some v|_=>none
def dqT(d:Tx):Tx:=if d=[]then []else 34::(d++[34,32])
def brT(u:PU):Tx:=60::(CK u++[62])
def MY(d:Tx)(u:PU)(l:KVs):Tx:=dqT d++(brT u++lwP l 59 59)
def KV(p:PH):Tx:=p.proto++47::(p.ver++47::(p.tr++32::(CZ p.host p.port++lwP p.ps 59 59)))
def vTx(p:PH)(u:PU):Tx:=
 if BP p.t then MY p.disp u p.ps else if p.t=5 then Lib.decDigits p.num++32::p.text else if p.t=6∨p.t=7∨p.t=8 then Lib.decDigits p.num
 else if p.t=9 then KV p else if Et p.t then brT u else p.text
def nTx(p:PH):Tx:=if 0<p.t∧p.t≤14 then nmT p.t else p.name
def hTx(p:PH)(u:PU):Tx:=nTx p++(58::32::vTx p u)
def kAd(d:Tx)(r:PU)(l:KVs):Tx:=dqT d++(60::(BY r++(62::uPs l 59 59)))
def kVi(p:PH):Tx:=p.proto++47::(p.ver++47::(p.tr++32::(p.host++((if 0<p.port then 58::Lib.itoa p.port else [])++uPs p.ps 59 59))))
def Kn(u:PU):Prop:=(u={PU.zero with scheme:=u.scheme,raw:=u.raw}∧u.raw≠[]∧u.scheme≠[])∨SipK u
theorem Kn.wild{u:PU}(h:Kn u):u.wild=false:=by
 rcases h with⟨h,_⟩|h
 ·rw[h];rfl
 ·exact h.wild
theorem Kn.host{u:PU}(h:Kn u):B8 u.host:=by
 rcases h with⟨h,_⟩|h
 ·rw[h];exact fun x hx=>by cases hx
 ·exact h.host
theorem FY{l:Tx}{u:PU}(h:By l= .val u)(hw:u.wild=false):Kn u:=by
 rcases JF h with e|e|e
 ·rw[hw]at e;cases e
 ·exact .inl e
 ·exact .inr e
theorem Kn.text{u:PU}(h:Kn u):BY u=CK u:=by
 rcases h with⟨h,h1,h2⟩|h
 ·have hw:u.wild=false:=by rw[h];rfl
  unfold BY I8 CK;rw[if_neg h2,if_neg h1,hw,if_neg (by simp),if_neg h1]
 ·exact Mz h
theorem GX{l:Tx}{u:PU}(h:By l= .val u)(hr:u.raw≠[]):u.scheme++58::u.raw=l:=by
 unfold By at h;split at h
 ·cases h
 ·split at h
  ·injection h with h;subst h;exact absurd rfl hr
  ·dsimp only at h;split at h
   ·rename_i hk
    split at h
    ·split at h
     ·rename_i hc
      injection h with h
      subst h;simp only[Bool.and_eq_true,decide_eq_true_eq]at hk;have hlt:=hk.1.2;exact(Fk hlt).1.symm
     ·cases h
    ·split at h
     ·cases h
     ·split at h
      ·cases h
      ·rename_i he _
       cases hs:Ac (l.take (BC l 58)) (l.drop (BC l 58+1))with
       |none=>rw[hs]at h;cases h
       |some v=>
        rw[hs]at h;injection h with h
        subst h;exfalso;unfold Ac at hs;split at hs
        ·cases hs
        ·split at hs
         ·cases hs
         ·split at hs
          ·cases hs
          ·split at hs
           ·cases hs
           ·injection hs with hs
            subst hs;exact hr rfl
   ·cases h
theorem FZ{l:Tx}{u:PU}(h:By l= .val u):gv u=some u:=by
 unfold gv;by_cases hr:u.raw=[]
 ·rw[if_pos hr]
 ·rw[if_neg hr,GX h hr,h];simp only[if_neg hr]
theorem RJ{u v:PU}(h:gv u=some v)(hr:u.raw≠[]):By (u.scheme++58::u.raw)= .val v∧v.raw≠[]:=by
 unfold gv at h;rw[if_neg hr]at h;split at h
 ·rename_i x hx
  split at h
  ·cases h
  ·rename_i hv
   injection h with h
   subst h;exact⟨hx,hv⟩
 ·cases h
theorem FX{l:Tx}{u:PU}(h:By l= .val u)(hl:l.length≤1099511626001)(hr:u.raw≠[]):u.scheme.length+u.raw.length≤1099511626000:=by
 have e:=congrArg List.length (GX h hr);simp only[LA,LC]at e;omega
theorem JG{l:Tx}{kvs:KVs}(h:C7 l=some kvs):∀x∈kvs,x.2.any bl2=false:=by
 unfold C7 at h;split at h
 ·injection h with h;subst h;simp
 ·split at h
  ·split at h
   ·rename_i hp
    split at h
    ·injection h with h;subst h;exact fun x hx=>MT (by rfl) (by rfl) (Ff hp x hx)
    ·cases h
   ·cases h
  ·cases h
structure PHk(p:PH):Prop where
 wild:p.uri.wild=false
 kn:BP p.t∨Et p.t→Kn p.uri
 gv:gv p.uri=some p.uri
 ps:∀x∈p.ps,x.2.any bl2=false
 host:B8 p.host
 sz:p.uri.raw≠[]→p.uri.scheme.length+p.uri.raw.length≤1099511626000
structure Rgt(p:PH)(v:PU):Prop where
 lo:0≤p.t
 hi:p.t≤14
 wild:p.uri.wild=false
 gv:gv p.uri=some v
 kn:BP p.t∨Et p.t→Kn v
 ps:BP p.t∨p.t=9→∀x∈p.ps,x.2.any bl2=false
 host:p.t=9→B8 p.host
theorem N7{l:KVs}(h:∀x∈l,x.2.any bl2=false)(c:UInt8):uPs l c 59=lwP l c 59:=by
 unfold uPs lwP;rw[II,IH h]
theorem Q7{d:Tx}{v:PU}{l:KVs}(hk:Kn v)(hp:∀x∈l,x.2.any bl2=false):kAd d v l=MY d v l:=by
 unfold kAd MY brT;rw[hk.text,N7 hp];simp
theorem Q3{p:PH}(hp:∀x∈p.ps,x.2.any bl2=false):kVi p=KV p:=by
 unfold kVi KV CZ;rw[N7 hp];simp
end Go.Proofs.YtejhpdcjafbklaaGreatDoor
