/- The law FnHeadWritten: HwM. -/
import Derived.Test.YtejhpdcjafbklaaGreatDoorHwE
set_option linter.all false
set_option maxHeartbeats 16000000
set_option maxRecDepth 8000
namespace Go.Proofs.YtejhpdcjafbklaaGreatDoor
open Go.RowKit
def QB(ψ:Nat→Prop)(p:PH)(v:PU)(w:World)(e:Ending)(w':World):Prop:=∃y:HV,e= .returned y.val∧Le w w'∧Hz (fun g=>ψ g∨w.heap.size≤g) w' y (nmd p v)
theorem Hz.both{ψ:Nat→Prop}{w:World}{x:HV}{p:PH}(h:Hz ψ w x p):Hz (fun g=>ψ g∧g<w.heap.size) w x p:=
 ⟨h.t,h.name,h.text,h.disp,⟨h.uri.toUq,fun k g e=>⟨h.uri.op k g e,h.now.uri.op k g e⟩,fun k g e=>⟨h.uri.oh k g e,h.now.uri.oh k g e⟩⟩,h.ps,fun k g e=>⟨h.op k g e,h.now.op k g e⟩,h.num,h.proto,h.ver,h.tr,h.host,h.port⟩
theorem CF(x:HV)(k:Nat)(v:Value)(h:x.uri.row[k]? =some v):x.row[4+k]? =some v:=by
 have hk:k<10:=(Array.getElem?_eq_some_iff.1 h).1;rcases(show k=0∨k=1∨k=2∨k=3∨k=4∨k=5∨k=6∨k=7∨k=8∨k=9 by omega)with rfl|rfl|rfl|rfl|rfl|rfl|rfl|rfl|rfl|rfl<;>exact h
theorem Bx{W:World}{b:Nat}{a:Act}{x:HV}{fn:Func}{p:Tmp}(hf:fn.results= #[.cell p 37])(h:W.heap[b]? =some (.cells x.row 37 (0,0)))
 (h2:a.tmps.getD p undef= .pointer (some ⟨b,0,none⟩)):(results fn a.tmps).run Tryz.prog W= .ok x.val W:=by
 have h2':a.tmps[p]?.getD undef= .pointer (some ⟨b,0,none⟩):=by simpa using h2
 have hl:=run_loadVar_row (P:=Tryz.prog) W b 37 37 x.row (0,0) _ h Tryz.underlying37 rfl AS;simp[results,hf,h2',asAddr,hl,Sem.run_bind,Result.andThen,HV.val]
def nmS(W1:World)(b1:Nat)(tt:Int):Nat→Value→World→Prop
 |1,v,_=>v=(.pointer (some ⟨b1,0,none⟩))
 |3,v,w_=>∃g,v= .pointer (some ⟨g,0,none⟩)∧W1.heap.size≤g∧w_.heap[g]? =some (.cells HV.nil.row 37 (0,0))
 |17,v,_=>v=(.pointer (some ⟨b1,0,none⟩))
 |18,v,_=>v=(.int .i64 tt)
 |19,v,_=>v=(.pointer (some ⟨b1,0,none⟩))
 |20,v,_=>v=(.int .i64 tt)
 |21,v,_=>v=(.string (st (nmT tt)))
 |22,v,w_=>Bv w_ v (nmT tt)
 |23,v,w_=>∃An nn cn,v= .agg (C5 tt (.slice An nn cn) UV.nil)∧Bv w_ (.slice An nn cn) (nmT tt)
 |_,_,_=>True
theorem LJ(W1:World)(b1:Nat)(tt:Int)(t:Nat)(v:Value)(w1 w2:World)(k:Le w1 w2)(h:nmS W1 b1 tt t v w1):nmS W1 b1 tt t v w2:=by
 unfold nmS at h⊢;split at h<;>first|exact h|exact(by obtain⟨A,n,c,e,b⟩:=h;exact⟨A,n,c,e,b.le k⟩)|exact(by obtain⟨g,e,b,c⟩:=h;exact⟨g,e,b,k.heap c⟩)|exact Bv.le h k
def nxS(Wr:World)(b1 g:Nat)(tt:Int)(B1:Option Addr)(nn c0:Nat)(Ad Aq:Option Addr)(nd cd nq cq:Nat)(y:UV):Nat→Value→World→Prop
 |1,v,_=>v=(.pointer (some ⟨b1,0,none⟩))
 |3,v,_=>v=(.pointer (some ⟨g,0,none⟩))
 |41,v,_=>v=(.pointer (some ⟨b1,3,none⟩))
 |42,v,_=>v=(.slice Ad nd cd)
 |43,v,_=>v=(.pointer (some ⟨b1,4,none⟩))
 |44,v,_=>v=(y.val)
 |45,v,_=>v=(.pointer (some ⟨b1,14,none⟩))
 |46,v,_=>v=(.slice Aq nq cq)
 |47,v,_=>v=(.pointer (some ⟨g,3,none⟩))
 |48,v,_=>v=(.pointer (some ⟨g,4,none⟩))
 |49,v,_=>v=(.pointer (some ⟨g,14,none⟩))
 |_,_,_=>True
theorem Iq9(Wr:World)(b1 g:Nat)(tt:Int)(B1:Option Addr)(nn c0:Nat)(Ad Aq:Option Addr)(nd cd nq cq:Nat)(y:UV)(t:Nat)(v:Value)(w1 w2:World)(h:nxS Wr b1 g tt B1 nn c0 Ad Aq nd cd nq cq y t v w1):nxS Wr b1 g tt B1 nn c0 Ad Aq nd cd nq cq y t v w2:=by
 unfold nxS at h⊢;split at h<;>exact h
def nxF(Wr:World)(b1 g:Nat)(tt:Int)(B1:Option Addr)(nn c0:Nat)(Ad Aq:Option Addr)(nd cd nq cq:Nat)(y:UV)(k:Nat):Option Value:=if(3≤k∧k<4)∨(4≤k∧k<14)∨(14≤k∧k<15)then none else(C5 tt (.slice B1 nn c0) UV.nil)[k]?
def nxG(Wr:World)(b1 g:Nat)(tt:Int)(B1:Option Addr)(nn c0:Nat)(Ad Aq:Option Addr)(nd cd nq cq:Nat)(y:UV)(W:World):Prop:=Kp g Wr W∧BS W g 37 21 (nxF Wr b1 g tt B1 nn c0 Ad Aq nd cd nq cq y)
def nxZ(Wr:World)(b1 g:Nat)(tt:Int)(B1:Option Addr)(nn c0:Nat)(Ad Aq:Option Addr)(nd cd nq cq:Nat)(y:UV)(j:Nat)(W:World):Prop:=if j=7 then BS W g 37 21 (CU 3 (.slice Ad nd cd:Value).cells.toList)else if j=9 then BS W g 37 21 (CU 4 (y.val:Value).cells.toList)else if j=11 then BS W g 37 21 (CU 14 (.slice Aq nq cq:Value).cells.toList)else True
def nyS(Wr:World)(b1 g:Nat)(tt:Int)(B1:Option Addr)(nn c0:Nat)(At:Option Addr)(nt ct nu:Nat):Nat→Value→World→Prop
 |1,v,_=>v=(.pointer (some ⟨b1,0,none⟩))
 |3,v,_=>v=(.pointer (some ⟨g,0,none⟩))
 |58,v,_=>v=(.pointer (some ⟨b1,15,none⟩))
 |59,v,_=>v=(.int .u32 nu)
 |60,v,_=>v=(.pointer (some ⟨b1,2,none⟩))
 |61,v,_=>v=(.slice At nt ct)
 |62,v,_=>v=(.pointer (some ⟨g,15,none⟩))
 |63,v,_=>v=(.pointer (some ⟨g,2,none⟩))
 |_,_,_=>True
theorem LH(Wr:World)(b1 g:Nat)(tt:Int)(B1:Option Addr)(nn c0:Nat)(At:Option Addr)(nt ct nu:Nat)(t:Nat)(v:Value)(w1 w2:World)(h:nyS Wr b1 g tt B1 nn c0 At nt ct nu t v w1):nyS Wr b1 g tt B1 nn c0 At nt ct nu t v w2:=by
 unfold nyS at h⊢;split at h<;>exact h
def nyF(Wr:World)(b1 g:Nat)(tt:Int)(B1:Option Addr)(nn c0:Nat)(At:Option Addr)(nt ct nu:Nat)(k:Nat):Option Value:=if(15≤k∧k<16)∨(2≤k∧k<3)then none else(C5 tt (.slice B1 nn c0) UV.nil)[k]?
def nyG(Wr:World)(b1 g:Nat)(tt:Int)(B1:Option Addr)(nn c0:Nat)(At:Option Addr)(nt ct nu:Nat)(W:World):Prop:=Kp g Wr W∧BS W g 37 21 (nyF Wr b1 g tt B1 nn c0 At nt ct nu)
def nyZ(Wr:World)(b1 g:Nat)(tt:Int)(B1:Option Addr)(nn c0:Nat)(At:Option Addr)(nt ct nu:Nat)(j:Nat)(W:World):Prop:=if j=5 then BS W g 37 21 (CU 15 (.int .u32 nu:Value).cells.toList)else if j=7 then BS W g 37 21 (CU 2 (.slice At nt ct:Value).cells.toList)else True
def nzS(Wr:World)(b1 g:Nat)(tt:Int)(B1:Option Addr)(nn c0:Nat)(A1 A2 A3 A4 Aq:Option Addr)(n1 c1 n2 c2 n3 c3 n4 c4 nq cq:Nat)(po:Int):Nat→Value→World→Prop
 |1,v,_=>v=(.pointer (some ⟨b1,0,none⟩))
 |3,v,_=>v=(.pointer (some ⟨g,0,none⟩))
 |73,v,_=>v=(.pointer (some ⟨b1,16,none⟩))
 |74,v,_=>v=(.slice A1 n1 c1)
 |75,v,_=>v=(.pointer (some ⟨b1,17,none⟩))
 |76,v,_=>v=(.slice A2 n2 c2)
 |77,v,_=>v=(.pointer (some ⟨b1,18,none⟩))
 |78,v,_=>v=(.slice A3 n3 c3)
 |79,v,_=>v=(.pointer (some ⟨b1,19,none⟩))
 |80,v,_=>v=(.slice A4 n4 c4)
 |81,v,_=>v=(.pointer (some ⟨b1,20,none⟩))
 |82,v,_=>v=(.int .i64 po)
 |83,v,_=>v=(.pointer (some ⟨b1,14,none⟩))
 |84,v,_=>v=(.slice Aq nq cq)
 |85,v,_=>v=(.pointer (some ⟨g,16,none⟩))
 |86,v,_=>v=(.pointer (some ⟨g,17,none⟩))
 |87,v,_=>v=(.pointer (some ⟨g,18,none⟩))
 |88,v,_=>v=(.pointer (some ⟨g,19,none⟩))
 |89,v,_=>v=(.pointer (some ⟨g,20,none⟩))
 |90,v,_=>v=(.pointer (some ⟨g,14,none⟩))
 |_,_,_=>True
theorem Ek(Wr:World)(b1 g:Nat)(tt:Int)(B1:Option Addr)(nn c0:Nat)(A1 A2 A3 A4 Aq:Option Addr)(n1 c1 n2 c2 n3 c3 n4 c4 nq cq:Nat)(po:Int)(t:Nat)(v:Value)(w1 w2:World)(h:nzS Wr b1 g tt B1 nn c0 A1 A2 A3 A4 Aq n1 c1 n2 c2 n3 c3 n4 c4 nq cq po t v w1):nzS Wr b1 g tt B1 nn c0 A1 A2 A3 A4 Aq n1 c1 n2 c2 n3 c3 n4 c4 nq cq po t v w2:=by
 unfold nzS at h⊢;split at h<;>exact h
def nzF(Wr:World)(b1 g:Nat)(tt:Int)(B1:Option Addr)(nn c0:Nat)(A1 A2 A3 A4 Aq:Option Addr)(n1 c1 n2 c2 n3 c3 n4 c4 nq cq:Nat)(po:Int)(k:Nat):Option Value:=if(16≤k∧k<17)∨(17≤k∧k<18)∨(18≤k∧k<19)∨(19≤k∧k<20)∨(20≤k∧k<21)∨(14≤k∧k<15)then none else(C5 tt (.slice B1 nn c0) UV.nil)[k]?
def nzG(Wr:World)(b1 g:Nat)(tt:Int)(B1:Option Addr)(nn c0:Nat)(A1 A2 A3 A4 Aq:Option Addr)(n1 c1 n2 c2 n3 c3 n4 c4 nq cq:Nat)(po:Int)(W:World):Prop:=Kp g Wr W∧BS W g 37 21 (nzF Wr b1 g tt B1 nn c0 A1 A2 A3 A4 Aq n1 c1 n2 c2 n3 c3 n4 c4 nq cq po)
def nzZ(Wr:World)(b1 g:Nat)(tt:Int)(B1:Option Addr)(nn c0:Nat)(A1 A2 A3 A4 Aq:Option Addr)(n1 c1 n2 c2 n3 c3 n4 c4 nq cq:Nat)(po:Int)(j:Nat)(W:World):Prop:=if j=13 then BS W g 37 21 (CU 16 (.slice A1 n1 c1:Value).cells.toList)else if j=15 then BS W g 37 21 (CU 17 (.slice A2 n2 c2:Value).cells.toList)else if j=17 then BS W g 37 21 (CU 18 (.slice A3 n3 c3:Value).cells.toList)else if j=19 then BS W g 37 21 (CU 19 (.slice A4 n4 c4:Value).cells.toList)else if j=21 then BS W g 37 21 (CU 20 (.int .i64 po:Value).cells.toList)else if j=23 then BS W g 37 21 (CU 14 (.slice Aq nq cq:Value).cells.toList)else True
theorem LL(ψ:Nat→Prop)(x:HV)(p:PH)(v:PU)(w:World)(hx0:Hz ψ w x p)(hgv:gv p.uri=some v)(hl:p.uri.raw≠[]→p.uri.scheme.length+p.uri.raw.length≤1099511626000):
 Calls Tryz.prog 36 #[x.val] w (QB ψ p v w):=by
 have hx:=hx0.both;clear hx0;obtain⟨xt,xn,xx,xd,xu,xp,xm,x1,x2,x3,x4,xo⟩:=x;obtain⟨tt,n,tx,d,u,ks,nu,pr,ve,tr,ho,po⟩:=p;have e1:tt=xt:=hx.t.symm;subst e1;have e2:nu=xm:=hx.num.symm;subst e2;have e3:po=xo:=hx.port.symm;subst e3;obtain⟨An,cn,rfl⟩:=(show Bv w xn n from hx.name).form;obtain⟨At,ct,rfl⟩:=(show Bv w xx tx from hx.text).form;obtain⟨Ad,cd,rfl⟩:=(show Bv w xd d from hx.disp).form
 obtain⟨Aq,cq,rfl⟩:∃A c,xp= .slice A ks.length c:=by obtain⟨A,c,e,_⟩:=hx.ps;exact⟨A,c,e⟩
 obtain⟨A1,c1,rfl⟩:=(show Bv w x1 pr from hx.proto).form;obtain⟨A2,c2,rfl⟩:=(show Bv w x2 ve from hx.ver).form;obtain⟨A3,c3,rfl⟩:=(show Bv w x3 tr from hx.tr).form;obtain⟨A4,c4,rfl⟩:=(show Bv w x4 ho from hx.host).form;have HX:=Hi hx;have HFX:=Hi hx.fit;have HGV:=Hi (show gv u=some v from hgv);have HLEN:=Hi (show u.raw≠[]→u.scheme.length+u.raw.length≤1099511626000 from hl)
 clear hx hgv hl;change Calls _ _ #[.agg #[.int .i64 tt,.slice An n.length cn,.slice At tx.length ct,.slice Ad d.length cd,xu.scheme,xu.raw,.bool xu.wild,.bool xu.slash,xu.user,xu.pass,xu.host,.int .i64 xu.port,xu.ps,xu.hs,.slice Aq ks.length cq,.int .u32 nu,.slice A1 pr.length c1,.slice A2 ve.length c2,.slice A3 tr.length c3,.slice A4 ho.length c4,.int .i64 po]] _ _
 go_enter Tryz.func36,Tryz.ntmps36;go_upto_region 1 with fail
 change Code.wp _ _ _ _ ((w.alloc (Obj.cells (HV.row ⟨tt,.slice An n.length cn,.slice At tx.length ct,.slice Ad d.length cd,xu,.slice Aq ks.length cq,nu,.slice A1 pr.length c1,.slice A2 ve.length c2,.slice A3 tr.length c3,.slice A4 ho.length c4,po⟩) 37)).alloc (Obj.cells HV.nil.row 37))
 have HB1:=Hi (heap_alloc2_old w (Obj.cells (HV.row ⟨tt,.slice An n.length cn,.slice At tx.length ct,.slice Ad d.length cd,xu,.slice Aq ks.length cq,nu,.slice A1 pr.length c1,.slice A2 ve.length c2,.slice A3 tr.length c3,.slice A4 ho.length c4,po⟩) 37) (Obj.cells HV.nil.row 37))
 have HB2:=Hi (heap_alloc2_new w (Obj.cells (HV.row ⟨tt,.slice An n.length cn,.slice At tx.length ct,.slice Ad d.length cd,xu,.slice Aq ks.length cq,nu,.slice A1 pr.length c1,.slice A2 ve.length c2,.slice A3 tr.length c3,.slice A4 ho.length c4,po⟩) 37) (Obj.cells HV.nil.row 37))
 have HL0:Hid (Le w ((w.alloc (Obj.cells (HV.row ⟨tt,.slice An n.length cn,.slice At tx.length ct,.slice Ad d.length cd,xu,.slice Aq ks.length cq,nu,.slice A1 pr.length c1,.slice A2 ve.length c2,.slice A3 tr.length c3,.slice A4 ho.length c4,po⟩) 37)).alloc (Obj.cells HV.nil.row 37))):=Hi (((AC w).alloc _).alloc _)
 have HSZ:Hid (((w.alloc (Obj.cells (HV.row ⟨tt,.slice An n.length cn,.slice At tx.length ct,.slice Ad d.length cd,xu,.slice Aq ks.length cq,nu,.slice A1 pr.length c1,.slice A2 ve.length c2,.slice A3 tr.length c3,.slice A4 ho.length c4,po⟩) 37)).alloc (Obj.cells HV.nil.row 37)).heap.size=w.heap.size+2):=Hi (by simp)
 generalize(w.alloc (Obj.cells (HV.row ⟨tt,.slice An n.length cn,.slice At tx.length ct,.slice Ad d.length cd,xu,.slice Aq ks.length cq,nu,.slice A1 pr.length c1,.slice A2 ve.length c2,.slice A3 tr.length c3,.slice A4 ho.length c4,po⟩) 37)).alloc (Obj.cells HV.nil.row 37)=W0 at HB1 HB2 HL0 HSZ⊢;generalize hb1:w.heap.size=b1 at HB1 HB2 HSZ⊢;have HBW:=Hi hb1;clear hb1
 have g0:W0.cell? ⟨b1,0,none⟩=some (.int .i64 tt):=AB HB1.out 0;have HC0:=Hi g0;by_cases hlo:tt<1
 ·have hd1:decide (tt<1)=true:=decide_eq_true hlo;have HARM:Hid (tt<1∨14<tt):=Hi (.inl hlo);have g1:W0.cell? ⟨b1,1,none⟩=some (.slice An n.length cn):=AB HB1.out 1;have g2:W0.cell? ⟨b1,2,none⟩=some (.slice At tx.length ct):=AB HB1.out 2;clear hlo
  go_wp2_with (first|refine wpList_buildTo rfl 37 #[(1,.tmp 13),(2,.tmp 15)] rfl (some 16) rfl (HV.row ⟨0,.slice An n.length cn,.slice At tx.length ct,.slice none 0 0,UV.nil,.slice none 0 0,0,.slice none 0 0,.slice none 0 0,.slice none 0 0,.slice none 0 0,0⟩) (by kernel_rfl) ?_ |refine AD rfl 37 (.tmp 2) (.tmp 16) rfl (b1+1) (HV.row ⟨0,.slice An n.length cn,.slice At tx.length ct,.slice none 0 0,UV.nil,.slice none 0 0,0,.slice none 0 0,.slice none 0 0,.slice none 0 0,.slice none 0 0,0⟩) rfl rfl 37 HV.nil.row HB2.out AS rfl (HV.all.trans rfl) ?_)
  intro WZ hz hkz;have HZ:=Hi hz;have HLZ:Hid (Le w WZ):=Hi (Below.trans HL0.out (hkz.below (by have:=HBW.out;omega) HL0.out.size));clear hz hkz;go_wp2
  refine bodyPost_ret (Bx (x:=⟨0,.slice An n.length cn,.slice At tx.length ct,.slice none 0 0,UV.nil,.slice none 0 0,0,.slice none 0 0,.slice none 0 0,.slice none 0 0,.slice none 0 0,0⟩) rfl HZ.out rfl) rfl ⟨⟨0,.slice An n.length cn,.slice At tx.length ct,.slice none 0 0,UV.nil,.slice none 0 0,0,.slice none 0 0,.slice none 0 0,.slice none 0 0,.slice none 0 0,0⟩,rfl,HLZ.out,?_⟩
  have hN:=HX.out.le HLZ.out;have hnm:nmd ⟨tt,n,tx,d,u,ks,nu,pr,ve,tr,ho,po⟩ v={PH.zero with name:=n,text:=tx}:=by unfold nmd;exact if_pos HARM.out
  rw[hnm];exact⟨rfl,hN.name,hN.text,Bv.nil _,(Hz.nil _ _).uri,Kq.nil _ _,KO.nil _ _,rfl,Bv.nil _,Bv.nil _,Bv.nil _,Bv.nil _,rfl⟩
 by_cases hhi:14<tt
 ·have hd1:decide (tt<1)=false:=decide_eq_false hlo;have hd2:decide (14<tt)=true:=decide_eq_true hhi;have HARM:Hid (tt<1∨14<tt):=Hi (.inr hhi);have g1:W0.cell? ⟨b1,1,none⟩=some (.slice An n.length cn):=AB HB1.out 1;have g2:W0.cell? ⟨b1,2,none⟩=some (.slice At tx.length ct):=AB HB1.out 2;clear hlo hhi
  go_wp2_with (first|refine wpList_buildTo rfl 37 #[(1,.tmp 13),(2,.tmp 15)] rfl (some 16) rfl (HV.row ⟨0,.slice An n.length cn,.slice At tx.length ct,.slice none 0 0,UV.nil,.slice none 0 0,0,.slice none 0 0,.slice none 0 0,.slice none 0 0,.slice none 0 0,0⟩) (by kernel_rfl) ?_ |refine AD rfl 37 (.tmp 2) (.tmp 16) rfl (b1+1) (HV.row ⟨0,.slice An n.length cn,.slice At tx.length ct,.slice none 0 0,UV.nil,.slice none 0 0,0,.slice none 0 0,.slice none 0 0,.slice none 0 0,.slice none 0 0,0⟩) rfl rfl 37 HV.nil.row HB2.out AS rfl (HV.all.trans rfl) ?_)
  intro WZ hz hkz;have HZ:=Hi hz;have HLZ:Hid (Le w WZ):=Hi (Below.trans HL0.out (hkz.below (by have:=HBW.out;omega) HL0.out.size));clear hz hkz;go_wp2
  refine bodyPost_ret (Bx (x:=⟨0,.slice An n.length cn,.slice At tx.length ct,.slice none 0 0,UV.nil,.slice none 0 0,0,.slice none 0 0,.slice none 0 0,.slice none 0 0,.slice none 0 0,0⟩) rfl HZ.out rfl) rfl ⟨⟨0,.slice An n.length cn,.slice At tx.length ct,.slice none 0 0,UV.nil,.slice none 0 0,0,.slice none 0 0,.slice none 0 0,.slice none 0 0,.slice none 0 0,0⟩,rfl,HLZ.out,?_⟩
  have hN:=HX.out.le HLZ.out;have hnm:nmd ⟨tt,n,tx,d,u,ks,nu,pr,ve,tr,ho,po⟩ v={PH.zero with name:=n,text:=tx}:=by unfold nmd;exact if_pos HARM.out
  rw[hnm];exact⟨rfl,hN.name,hN.text,Bv.nil _,(Hz.nil _ _).uri,Kq.nil _ _,KO.nil _ _,rfl,Bv.nil _,Bv.nil _,Bv.nil _,Bv.nil _,rfl⟩
 have hd1:decide (tt<1)=false:=decide_eq_false hlo;have hd2:decide (14<tt)=false:=decide_eq_false hhi;have HNA:Hid (¬(tt<1∨14<tt)):=Hi (by omega);have HTT:Hid (1≤tt∧tt≤14):=Hi (by omega);clear hlo hhi;go_upto_region 3 with fail
 clear g0;have hm_nm:(Tryz.prog).follows .mixedOrders=true:=by kernel_rfl
 refine G3.wp_region_grow_tail (nmS W0 b1 tt) ((Le W0)) 92 8 [17,18,19,20,21,22,23,3] hm_nm (by kernel_rfl) rfl rfl ?hG_nm ?hold_nm ?hs_nm ?hend_nm;case hG_nm=>exact(AC W0).drew
 case hold_nm=>
  intro t ht;simp only[List.mem_cons,List.mem_nil_iff,or_false,not_or]at ht;unfold nmS;split<;>first|exact True.intro|(exfalso;simp at ht;done)|rfl
 case hs_nm=>
  simp only[List.take_succ_cons,List.take_zero];refine⟨?_,?_,?_,?_,?_,?_,?_,?_,trivial⟩
  ·refine AA fun a W hg hop=>?_;have h1:_=_:=hq hop 1;have h1':=tg h1;refine⟨_,?_,rfl⟩;simp only[execOp,h1];go_simp
  ·refine AA fun a W hg hop=>?_;have h17:_=_:=hq hop 17;have h17':=tg h17;have hc:W.cell? ⟨b1,0,none⟩=some (.int .i64 tt):=hg.cell HC0.out;refine⟨_,?_,rfl⟩;simp only[execOp,h17];go_simp
  ·refine AA fun a W hg hop=>?_;have h1:_=_:=hq hop 1;have h1':=tg h1;refine⟨_,?_,rfl⟩;simp only[execOp,h1];go_simp
  ·refine AA fun a W hg hop=>?_;have h19:_=_:=hq hop 19;have h19':=tg h19;have hc:W.cell? ⟨b1,0,none⟩=some (.int .i64 tt):=hg.cell HC0.out;refine⟨_,?_,rfl⟩;simp only[execOp,h19];go_simp
  ·refine AG ?_ ?_ ?_ ?_
   ·exact fun t v w1 w2 kl h=>LJ W0 b1 tt t v w1 w2 kl h
   ·exact fun _ _ _ _ h=>h
   ·exact fun w1 w2 k h=>Le.trans h k
   ·intro a W hg hop;have h20:_=_:=hq hop 20;have h20':=tg h20;refine⟨28,#[.int .i64 tt],?_,((EG tt HTT.out.1 HTT.out.2 W)).mono ?_⟩
    ·simp only[execOp,h20];go_simp
    ·rintro e w' ⟨rfl,rfl⟩;exact⟨_,rfl,AC _,rfl⟩
  ·refine GrowStep.le ?_ ?_ ?_ ?_
   ·exact fun t v w1 w2 k h=>LJ W0 b1 tt t v w1 w2 k h
   ·exact fun _ _ _ _ h=>h
   ·exact fun w1 w2 k h=>Le.trans h k
   ·intro a W hg hop;have h21:_=_:=hq hop 21;have h21':=tg h21;obtain⟨B1,e1,W1,q1,le1,bt1⟩:=AT (base:=0) W (st (nmT tt)) (Nat.zero_le _) (by rw[AF];have:=C3 tt;omega);rw[AV]at bt1;refine⟨_,W1,?_,le1,bt1.1⟩;simp only[execOp,h21];go_simp
  ·refine AA fun a W hg hop=>?_;have h18:_=_:=hq hop 18;have h18':=tg h18;have h22:Bv W (a.eval (.tmp 22)) (nmT tt):=(hq hop 22);refine⟨.agg (C5 tt (a.eval (.tmp 22)) UV.nil),?_,(by obtain⟨A9,c9,e9⟩:=h22.form;rw[e9]at h22⊢;exact⟨_,_,_,rfl,h22⟩)⟩;obtain⟨A9,c9,e9⟩:=h22.form;rw[e9];refine Dl W 37 [(0,.tmp 18),(1,.tmp 22)] rfl _ ?_
   show(Tryz.prog).built 37 [(0,a.eval (.tmp 18)),(1,a.eval (.tmp 22))]=_;rw[e9,h18];kernel_rfl
  ·refine GrowStep.le ?_ ?_ ?_ ?_
   ·exact fun t v w1 w2 k h=>LJ W0 b1 tt t v w1 w2 k h
   ·exact fun _ _ _ _ h=>h
   ·exact fun w1 w2 k h=>Le.trans h k
   ·intro a W hg hop;refine⟨.pointer (some ⟨W.heap.size,0,none⟩),W.alloc (Obj.cells HV.nil.row 37),?_,(AC W).alloc _,W.heap.size,rfl,hg.size,heap_alloc_new W _⟩;simp only[execOp];go_simp;rfl
 case hend_nm=>
  intro s_ wz hg hS;obtain⟨g,e3,hgb,hgh⟩:∃g,s_ 3= .pointer (some ⟨g,0,none⟩)∧W0.heap.size≤g∧wz.heap[g]? =some (.cells HV.nil.row 37 (0,0)):=hS 3 (by decide);obtain⟨B1,nn,c0,e23,hnv⟩:∃An nn cn,s_ 23= .agg (C5 tt (.slice An nn cn) UV.nil)∧Bv wz (.slice An nn cn) (nmT tt):=hS 23 (by decide);have HLZ1:=Hi (show Le W0 wz from hg);have HGB:=Hi hgb;have HGH:=Hi hgh;have HNV:=Hi hnv
  clear hS hg hgb hgh hnv;simp only[Aj,Act.put,List.setIfInBounds_toArray,List.set_cons_zero,List.set_cons_succ,List.drop_succ_cons,List.drop_zero];rw[e3,e23];clear e3 e23;have hone:(C5 tt (.slice B1 nn c0) UV.nil).all (·.oneCell')=true:=HV.all.trans rfl
  go_upto_region 4 with(refine AD rfl 37 (.tmp 3) (.tmp 23) rfl g (C5 tt (.slice B1 nn c0) UV.nil) rfl rfl 37 HV.nil.row HGH.out AS rfl hone ?_)
  intro W2 hz2 hk2;have HL2:Hid (Le W0 W2):=Hi (Below.trans HLZ1.out (hk2.below HGB.out HLZ1.out.size));have HN2:Hid (Bv W2 (.slice B1 nn c0) (nmT tt)):=Hi (HNV.out.setH HGH.out Am.nou hk2)
  have HG2:Hid (W2.heap[g]? =some (.cells (HV.row ⟨tt,.slice B1 nn c0,.slice none 0 0,.slice none 0 0,UV.nil,.slice none 0 0,0,.slice none 0 0,.slice none 0 0,.slice none 0 0,.slice none 0 0,0⟩) 37 (0,0))):=Hi hz2;have HPL:Hid (w.heap.size=b1∧b1+2≤g∧g<W2.heap.size):=Hi (by have:=HBW.out;have:=HSZ.out;have:=HGB.out;have:=AQ hz2;omega);have HR12:=Hi (HL2.out.heap HB1.out)
  have HR22:=Hi (HL2.out.heap HB2.out);have HLW2:Hid (Le w W2):=Hi (Le.trans HL0.out HL2.out);clear hz2 hk2 hone
  go_wp2_with (refine BN rfl 35 (.tmp 25) rfl b1 4 rfl 37 (HV.row ⟨tt,.slice An n.length cn,.slice At tx.length ct,.slice Ad d.length cd,xu,.slice Aq ks.length cq,nu,.slice A1 pr.length c1,.slice A2 ve.length c2,.slice A3 tr.length c3,.slice A4 ho.length c4,po⟩) xu.row (0,0) _ HR12.out (CF ⟨tt,.slice An n.length cn,.slice At tx.length ct,.slice Ad d.length cd,xu,.slice Aq ks.length cq,nu,.slice A1 pr.length c1,.slice A2 ve.length c2,.slice A3 tr.length c3,.slice A4 ho.length c4,po⟩) Tryz.underlying35 rfl AI ?_)
  refine(Ir (fun g=>ψ g∧g<w.heap.size) xu u W2 (HX.out.uri.le HLW2.out) HLEN.out).mono ?_;rintro e W3 ⟨y,ok,rfl,hle3,hone,hok,huz⟩;have HUZ3:=Hi (huz v HGV.out);have HY1:=Hi hone;have HL3:=Hi hle3;have HR13:=Hi (hle3.heap HR12.out);clear hle3 hone hok huz
  go_upto_region 5 with(refine BG rfl 35 (.tmp 30) (.tmp 28) rfl b1 4 y.row rfl rfl 37 _ HR13.out AI (show 4+10≤21 by decide) HY1.out ?_)
  intro W4 hz4 hk4;rw[HV.put_uri]at hz4;have HR1:Hid (W4.heap[b1]? =some (.cells (HV.row ⟨tt,.slice An n.length cn,.slice At tx.length ct,.slice Ad d.length cd,y,.slice Aq ks.length cq,nu,.slice A1 pr.length c1,.slice A2 ve.length c2,.slice A3 tr.length c3,.slice A4 ho.length c4,po⟩) 37 (0,0))):=Hi hz4;have HGN:Hid (b1≠g):=Hi (by have:=HPL.out;omega)
  have HGN2:Hid (b1+1≠g):=Hi (by have:=HPL.out;omega);have HGR:=Hi (hk4.heap (Ne.symm HGN.out) (HL3.out.heap HG2.out));have HR2:=Hi (hk4.heap (show b1+1≠b1 by omega) (HL3.out.heap HR22.out));have HL4:Hid (Le w W4):=Hi (Below.trans (Le.trans HLW2.out HL3.out) (hk4.below (by have:=HPL.out;omega) (Le.trans HLW2.out HL3.out).size))
  have HUZ:Hid (Uz (fun g=>(ψ g∧g<w.heap.size)∨W2.heap.size≤g) W4 y v):=Hi (HUZ3.out.setH HR13.out HFX.out.nou hk4 (fun g' hg'=>by have:=HPL.out;omega));have HNV4:Hid (Bv W4 (.slice B1 nn c0) (nmT tt)):=Hi ((HN2.out.le HL3.out).setH HR13.out HFX.out.nou hk4);have g0:W4.cell? ⟨b1,0,none⟩=some (.int .i64 tt):=AB hz4 0;clear hz4 hk4;go_upto_if 36 with fail
  go_cut [36]from 36 to 41 (fun sx wx=>∃q:Bool,sx= .bool q∧W4=wx∧(q=true↔BP tt))
  case first=>
   by_cases e0:tt=1
   ·have b0:((tt:Int)==1)=true:=by rw[e0];rfl
    have HQ:Hid (BP tt):=Hi (by rw[e0];decide);clear e0;go_wp2;go_meet;case rel=>exact⟨true,by first|rfl|exact congrArg Value.bool b0,rfl,fun _=>HQ.out,fun _=>rfl⟩
   have b0:((tt:Int)==1)=false:=by rw[beq_eq_false_iff_ne];exact e0
   by_cases e1:tt=2
   ·have b1:((tt:Int)==2)=true:=by rw[e1];rfl
    have HQ:Hid (BP tt):=Hi (by rw[e1];decide);clear e0 e1;go_wp2;go_meet;case rel=>exact⟨true,by first|rfl|exact congrArg Value.bool b1,rfl,fun _=>HQ.out,fun _=>rfl⟩
   have b1:((tt:Int)==2)=false:=by rw[beq_eq_false_iff_ne];exact e1
   by_cases e2:tt=3
   ·have b2:((tt:Int)==3)=true:=by rw[e2];rfl
    have HQ:Hid (BP tt):=Hi (by rw[e2];decide);clear e0 e1 e2;go_wp2;go_meet;case rel=>exact⟨true,by first|rfl|exact congrArg Value.bool b2,rfl,fun _=>HQ.out,fun _=>rfl⟩
   have b2:((tt:Int)==3)=false:=by rw[beq_eq_false_iff_ne];exact e2
   by_cases e3:tt=14
   ·have b3:((tt:Int)==14)=true:=by rw[e3];rfl
    have HQ:Hid (BP tt):=Hi (by rw[e3];decide);clear e0 e1 e2 e3;go_wp2;go_meet;case rel=>exact⟨true,by first|rfl|exact congrArg Value.bool b3,rfl,fun _=>HQ.out,fun _=>rfl⟩
   have b3:((tt:Int)==14)=false:=by rw[beq_eq_false_iff_ne];exact e3
   have HQ:Hid (¬(BP tt)):=Hi (by unfold BP;omega);clear e0 e1 e2 e3;go_wp2;go_meet;case rel=>exact⟨false,rfl,rfl,(fun h=>by cases h),fun h=>absurd h HQ.out⟩
  case rest=>
  obtain⟨q,rfl,rfl,hqq⟩:=hcut;cases q;case true=>
   have HARM:Hid (BP tt∧¬(tt<1∨14<tt)):=Hi ⟨hqq.1 rfl,HNA.out⟩;clear hqq g0;go_upto_region 11 with fail
   have hm_nx:(Tryz.prog).follows .mixedOrders=true:=by kernel_rfl
   refine wp_region_grow_put (nxS W4 b1 g tt B1 nn c0 Ad Aq d.length cd ks.length cq y) (nxZ W4 b1 g tt B1 nn c0 Ad Aq d.length cd ks.length cq y) (nxG W4 b1 g tt B1 nn c0 Ad Aq d.length cd ks.length cq y) 92 [41,42,43,44,45,46,47,48,49] hm_nx (by kernel_rfl) rfl rfl ?hG_nx ?hold_nx ?hs_nx ?hend_nx
   case hG_nx=>exact⟨(Kp.refl _ _).le (AC _).drew,(BS.of HGR.out _ (fun k v h=>by unfold nxF at h;split at h<;>first|exact h|cases h)).le (AC _).drew⟩
   case hold_nx=>
    intro t ht;simp only[List.mem_cons,List.mem_nil_iff,or_false,not_or]at ht;unfold nxS;split<;>first|exact True.intro|(exfalso;simp at ht;done)|rfl
   case hs_nx=>
    refine⟨?_,?_,?_,?_,?_,?_,?_,?_,?_,?_,?_,?_,trivial⟩
    ·refine AA fun a W hg hop=>?_;have h1:_=_:=hq hop 1;have h1':=tg h1;refine⟨_,?_,rfl⟩;simp only[execOp,h1];go_simp
    ·refine AA fun a W hg hop=>?_;have h41:_=_:=hq hop 41;have h41':=tg h41;have hc:W.cell? ⟨b1,3,none⟩=some (.slice Ad d.length cd):=(AB (hg.1.heap HGN.out HR1.out) 3);refine⟨_,?_,rfl⟩;simp only[execOp,h41];go_simp
    ·refine AA fun a W hg hop=>?_;have h1:_=_:=hq hop 1;have h1':=tg h1;refine⟨_,?_,rfl⟩;simp only[execOp,h1];go_simp
    ·refine AA fun a W hg hop=>?_;have h43:_=_:=hq hop 43;have h43':=tg h43;refine⟨_,?_,rfl⟩
     have hs:=DL (P:=Tryz.prog) W b1 4 37 35 (HV.row ⟨tt,.slice An n.length cn,.slice At tx.length ct,.slice Ad d.length cd,y,.slice Aq ks.length cq,nu,.slice A1 pr.length c1,.slice A2 ve.length c2,.slice A3 tr.length c3,.slice A4 ho.length c4,po⟩) y.row (0,0) _ (hg.1.heap HGN.out HR1.out) (CF ⟨tt,.slice An n.length cn,.slice At tx.length ct,.slice Ad d.length cd,y,.slice Aq ks.length cq,nu,.slice A1 pr.length c1,.slice A2 ve.length c2,.slice A3 tr.length c3,.slice A4 ho.length c4,po⟩) Tryz.underlying35 rfl AI
     simp only[execOp,h43,hs,Sem.run_bind,Sem.run_pure,Result.andThen,Sem.run_map];try rfl
    ·refine AA fun a W hg hop=>?_;have h1:_=_:=hq hop 1;have h1':=tg h1;refine⟨_,?_,rfl⟩;simp only[execOp,h1];go_simp
    ·refine AA fun a W hg hop=>?_;have h45:_=_:=hq hop 45;have h45':=tg h45;have hc:W.cell? ⟨b1,14,none⟩=some (.slice Aq ks.length cq):=(AB (hg.1.heap HGN.out HR1.out) 14);refine⟨_,?_,rfl⟩;simp only[execOp,h45];go_simp
    ·refine AA fun a W hg hop=>?_;have h3:_=_:=hq hop 3;have h3':=tg h3;refine⟨_,?_,rfl⟩;simp only[execOp,h3];go_simp
    ·refine GrowStep.store ?_ rfl;intro a W hg hop;have hp:_=_:=hq hop 47;have hv:_=_:=hq hop 42;have hlen:(.slice Ad d.length cd:Value).cells.toList.length=1:=rfl;obtain⟨hk,cs,hcs,hce,hf⟩:=hg;obtain⟨W',hr,hrow,hkp⟩:=AU (P:=Tryz.prog) W g 3 22 37 cs (.slice Ad d.length cd) hce B5 (by rw[hcs];exact(show 3+1≤21 by decide)) (CM _ _ _)
     have hs:=BS.store (n:=21) (j:=3) hce hcs hrow (by rw[hlen];decide);refine⟨W',?_,⟨hk.trans hkp,hs.2 _ ⟨cs,hcs,hce,hf⟩ (fun k h1 h2=>by rw[hlen]at h2;unfold nxF;rw[if_pos (by omega)])⟩,fun t u h=>Iq9 W4 b1 g tt B1 nn c0 Ad Aq d.length cd ks.length cq y t u W W' h,fun j hj hz=>?_,?_⟩
     ·simp only[execOp,hp,hv,hr,Sem.run_bind,Sem.run_pure,Result.andThen]
     ·unfold nxZ at hz⊢;by_cases h7:j=7
      ·exact absurd h7 hj
      rw[if_neg h7]at hz⊢;by_cases h9:j=9
      ·rw[if_pos h9]at hz⊢;exact hs.2 _ hz (fun k h1 h2=>by rw[hlen]at h2;unfold CU;rw[if_neg (by rw[show(y.val:Value).cells.toList.length=10 from rfl];omega)])
      rw[if_neg h9]at hz⊢;by_cases h11:j=11
      ·rw[if_pos h11]at hz⊢;exact hs.2 _ hz (fun k h1 h2=>by rw[hlen]at h2;unfold CU;rw[if_neg (by rw[show(.slice Aq ks.length cq:Value).cells.toList.length=1 from rfl];omega)])
      rw[if_neg h11]at hz⊢;trivial
     ·unfold nxZ;rw[if_pos rfl];exact hs.1
    ·refine AA fun a W hg hop=>?_;have h3:_=_:=hq hop 3;have h3':=tg h3;refine⟨_,?_,rfl⟩;simp only[execOp,h3];go_simp
    ·refine GrowStep.store ?_ rfl;intro a W hg hop;have hp:_=_:=hq hop 48;have hv:_=_:=hq hop 44;have hlen:(y.val:Value).cells.toList.length=10:=rfl;obtain⟨hk,cs,hcs,hce,hf⟩:=hg;obtain⟨W',hr,hrow,hkp⟩:=AU (P:=Tryz.prog) W g 4 35 37 cs (y.val) hce AI (by rw[hcs];exact(show 4+10≤21 by decide)) (HY1.out);have hs:=BS.store (n:=21) (j:=4) hce hcs hrow (by rw[hlen];decide)
     refine⟨W',?_,⟨hk.trans hkp,hs.2 _ ⟨cs,hcs,hce,hf⟩ (fun k h1 h2=>by rw[hlen]at h2;unfold nxF;rw[if_pos (by omega)])⟩,fun t u h=>Iq9 W4 b1 g tt B1 nn c0 Ad Aq d.length cd ks.length cq y t u W W' h,fun j hj hz=>?_,?_⟩
     ·simp only[execOp,hp,hv,hr,Sem.run_bind,Sem.run_pure,Result.andThen]
     ·unfold nxZ at hz⊢;by_cases h7:j=7
      ·rw[if_pos h7]at hz⊢;exact hs.2 _ hz (fun k h1 h2=>by rw[hlen]at h2;unfold CU;rw[if_neg (by rw[show(.slice Ad d.length cd:Value).cells.toList.length=1 from rfl];omega)])
      rw[if_neg h7]at hz⊢;by_cases h9:j=9
      ·exact absurd h9 hj
      rw[if_neg h9]at hz⊢;by_cases h11:j=11
      ·rw[if_pos h11]at hz⊢;exact hs.2 _ hz (fun k h1 h2=>by rw[hlen]at h2;unfold CU;rw[if_neg (by rw[show(.slice Aq ks.length cq:Value).cells.toList.length=1 from rfl];omega)])
      rw[if_neg h11]at hz⊢;trivial
     ·unfold nxZ;rw[if_neg (by decide)];rw[if_pos rfl];exact hs.1
    ·refine AA fun a W hg hop=>?_;have h3:_=_:=hq hop 3;have h3':=tg h3;refine⟨_,?_,rfl⟩;simp only[execOp,h3];go_simp
    ·refine GrowStep.store ?_ rfl;intro a W hg hop;have hp:_=_:=hq hop 49;have hv:_=_:=hq hop 46;have hlen:(.slice Aq ks.length cq:Value).cells.toList.length=1:=rfl;obtain⟨hk,cs,hcs,hce,hf⟩:=hg;obtain⟨W',hr,hrow,hkp⟩:=AU (P:=Tryz.prog) W g 14 33 37 cs (.slice Aq ks.length cq) hce D0 (by rw[hcs];exact(show 14+1≤21 by decide)) (CM _ _ _)
     have hs:=BS.store (n:=21) (j:=14) hce hcs hrow (by rw[hlen];decide);refine⟨W',?_,⟨hk.trans hkp,hs.2 _ ⟨cs,hcs,hce,hf⟩ (fun k h1 h2=>by rw[hlen]at h2;unfold nxF;rw[if_pos (by omega)])⟩,fun t u h=>Iq9 W4 b1 g tt B1 nn c0 Ad Aq d.length cd ks.length cq y t u W W' h,fun j hj hz=>?_,?_⟩
     ·simp only[execOp,hp,hv,hr,Sem.run_bind,Sem.run_pure,Result.andThen]
     ·unfold nxZ at hz⊢;by_cases h7:j=7
      ·rw[if_pos h7]at hz⊢;exact hs.2 _ hz (fun k h1 h2=>by rw[hlen]at h2;unfold CU;rw[if_neg (by rw[show(.slice Ad d.length cd:Value).cells.toList.length=1 from rfl];omega)])
      rw[if_neg h7]at hz⊢;by_cases h9:j=9
      ·rw[if_pos h9]at hz⊢;exact hs.2 _ hz (fun k h1 h2=>by rw[hlen]at h2;unfold CU;rw[if_neg (by rw[show(y.val:Value).cells.toList.length=10 from rfl];omega)])
      rw[if_neg h9]at hz⊢;by_cases h11:j=11
      ·exact absurd h11 hj
      rw[if_neg h11]at hz⊢;trivial
     ·unfold nxZ;rw[if_neg (by decide)];rw[if_neg (by decide)];rw[if_pos rfl];exact hs.1
   case hend_nx=>
    intro s_ wz hg hS hZ;have z7:=hZ 7 _ rfl rfl;unfold nxZ at z7;rw[if_pos rfl]at z7;have z9:=hZ 9 _ rfl rfl;unfold nxZ at z9;rw[if_neg (by decide)]at z9;rw[if_pos rfl]at z9;have z11:=hZ 11 _ rfl rfl;unfold nxZ at z11;rw[if_neg (by decide)]at z11;rw[if_neg (by decide)]at z11;rw[if_pos rfl]at z11
    have HROW:Hid (wz.heap[g]? =some (.cells (HV.row ⟨tt,.slice B1 nn c0,.slice none 0 0,.slice Ad d.length cd,y,.slice Aq ks.length cq,0,.slice none 0 0,.slice none 0 0,.slice none 0 0,.slice none 0 0,0⟩) 37 (0,0))):=Hi ((z7.join (z9.join (z11.join hg.2))).eq (HV.row ⟨tt,.slice B1 nn c0,.slice none 0 0,.slice Ad d.length cd,y,.slice Aq ks.length cq,0,.slice none 0 0,.slice none 0 0,.slice none 0 0,.slice none 0 0,0⟩) rfl (fun k hk=>by
     have h:k=0∨k=1∨k=2∨k=3∨k=4∨k=5∨k=6∨k=7∨k=8∨k=9∨k=10∨k=11∨k=12∨k=13∨k=14∨k=15∨k=16∨k=17∨k=18∨k=19∨k=20:=by omega
     rcases h with rfl|rfl|rfl|rfl|rfl|rfl|rfl|rfl|rfl|rfl|rfl|rfl|rfl|rfl|rfl|rfl|rfl|rfl|rfl|rfl|rfl<;>rfl))
    have HKPZ:=Hi hg.1;clear hS hZ hg z7 z9 z11;simp only[Aj,Act.put,List.setIfInBounds_toArray,List.set_cons_zero,List.set_cons_succ];have HRES:=Hi (HKPZ.out.heap HGN2.out HR2.out);have HLK:Hid (Le w wz):=Hi (Below.trans HL4.out (HKPZ.out.below (by have:=HPL.out;omega) HL4.out.size))
    go_wp2_with (first|refine wpList_load_row rfl 37 (.tmp 3) rfl g rfl 37 (HV.row ⟨tt,.slice B1 nn c0,.slice none 0 0,.slice Ad d.length cd,y,.slice Aq ks.length cq,0,.slice none 0 0,.slice none 0 0,.slice none 0 0,.slice none 0 0,0⟩) (0,0) _ HROW.out Tryz.underlying37 rfl AS ?_ |refine AD rfl 37 (.tmp 2) (.tmp 91) rfl (b1+1) (HV.row ⟨tt,.slice B1 nn c0,.slice none 0 0,.slice Ad d.length cd,y,.slice Aq ks.length cq,0,.slice none 0 0,.slice none 0 0,.slice none 0 0,.slice none 0 0,0⟩) rfl rfl 37 HV.nil.row HRES.out AS rfl (DD HY1.out) ?_)
    intro WZ hz hkz;have HZ:=Hi hz;have HKZ:=Hi hkz;have HLZ:Hid (Le w WZ):=Hi (Below.trans HLK.out (hkz.below (by have:=HBW.out;omega) HLK.out.size));clear hz hkz;go_wp2
    refine bodyPost_ret (Bx (x:=⟨tt,.slice B1 nn c0,.slice none 0 0,.slice Ad d.length cd,y,.slice Aq ks.length cq,0,.slice none 0 0,.slice none 0 0,.slice none 0 0,.slice none 0 0,0⟩) rfl HZ.out rfl) rfl ⟨⟨tt,.slice B1 nn c0,.slice none 0 0,.slice Ad d.length cd,y,.slice Aq ks.length cq,0,.slice none 0 0,.slice none 0 0,.slice none 0 0,.slice none 0 0,0⟩,rfl,HLZ.out,?_⟩
    have hN:=HX.out.le HLZ.out;have hU:Uz (fun g=>(ψ g∧g<w.heap.size)∨W2.heap.size≤g) WZ y v:=(HUZ.out.setH HGR.out (HV.all.trans rfl) HKPZ.out (fun g' hg'=>by have:=HPL.out;omega)).setH HRES.out Am.nou HKZ.out (fun g' hg'=>by have:=HPL.out;omega);have hNV:Bv WZ (.slice B1 nn c0) (nmT tt):=(HNV4.out.setH HGR.out (HV.all.trans rfl) HKPZ.out).setH HRES.out Am.nou HKZ.out
    have hnm:nmd ⟨tt,n,tx,d,u,ks,nu,pr,ve,tr,ho,po⟩ v={PH.zero with t:=tt,name:=nmT tt,disp:=d,uri:=v,ps:=ks}:=by
     unfold nmd;dsimp only;rw[if_neg HARM.out.2,if_pos HARM.out.1]
    rw[hnm];exact⟨rfl,hNV,Bv.nil _,hN.disp,hU.imp (fun g hg=>by rcases hg with hg|hg;exact .inl hg.1;exact .inr (Nat.le_trans HLW2.out.size hg)),hN.ps,hN.op.imp (fun g hg=> .inl hg.1),rfl,Bv.nil _,Bv.nil _,Bv.nil _,Bv.nil _,rfl⟩
  have hq1:¬BP tt:=fun h=>by have:=hqq.2 h;cases this
  have HQ1:=Hi hq1;clear hqq hq1;go_upto_if 50 with fail
  go_cut [50]from 50 to 53 (fun sx wx=>∃q:Bool,sx= .bool q∧W4=wx∧(q=true↔tt=4∨tt=10))
  case first=>
   by_cases e0:tt=4
   ·have b0:((tt:Int)==4)=true:=by rw[e0];rfl
    have HQ:Hid (tt=4∨tt=10):=Hi (by rw[e0];decide);clear e0;go_wp2;go_meet;case rel=>exact⟨true,by first|rfl|exact congrArg Value.bool b0,rfl,fun _=>HQ.out,fun _=>rfl⟩
   have b0:((tt:Int)==4)=false:=by rw[beq_eq_false_iff_ne];exact e0
   by_cases e1:tt=10
   ·have b1:((tt:Int)==10)=true:=by rw[e1];rfl
    have HQ:Hid (tt=4∨tt=10):=Hi (by rw[e1];decide);clear e0 e1;go_wp2;go_meet;case rel=>exact⟨true,by first|rfl|exact congrArg Value.bool b1,rfl,fun _=>HQ.out,fun _=>rfl⟩
   have b1:((tt:Int)==10)=false:=by rw[beq_eq_false_iff_ne];exact e1
   have HQ:Hid (¬(tt=4∨tt=10)):=Hi (by omega);clear e0 e1;go_wp2;go_meet;case rel=>exact⟨false,rfl,rfl,(fun h=>by cases h),fun h=>absurd h HQ.out⟩
  case rest=>
  obtain⟨q,rfl,rfl,hqq⟩:=hcut;cases q;case true=>
   have HARM:Hid ((tt=4∨tt=10)∧¬BP tt∧¬(tt<1∨14<tt)):=Hi ⟨hqq.1 rfl,HQ1.out,HNA.out⟩;have g2:W4.cell? ⟨b1,2,none⟩=some (.slice At tx.length ct):=AB HR1.out 2;clear hqq
   go_upto_region 23 with(refine AM rfl 22 (.tmp 55) (.tmp 54) rfl g 2 (.slice At tx.length ct) rfl rfl rfl 37 (HV.row ⟨tt,.slice B1 nn c0,.slice none 0 0,.slice none 0 0,UV.nil,.slice none 0 0,0,.slice none 0 0,.slice none 0 0,.slice none 0 0,.slice none 0 0,0⟩) HGR.out (show 2<21 by decide) B5 ?_)
   intro W5 hz5 hk5;rw[HV.set_text]at hz5;have HROW:=Hi hz5;have HKPZ:=Hi hk5;clear hz5 hk5;have HRES:=Hi (HKPZ.out.heap HGN2.out HR2.out);have HLK:Hid (Le w W5):=Hi (Below.trans HL4.out (HKPZ.out.below (by have:=HPL.out;omega) HL4.out.size))
   go_wp2_with (first|refine wpList_load_row rfl 37 (.tmp 3) rfl g rfl 37 (HV.row ⟨tt,.slice B1 nn c0,.slice At tx.length ct,.slice none 0 0,UV.nil,.slice none 0 0,0,.slice none 0 0,.slice none 0 0,.slice none 0 0,.slice none 0 0,0⟩) (0,0) _ HROW.out Tryz.underlying37 rfl AS ?_ |refine AD rfl 37 (.tmp 2) (.tmp 91) rfl (b1+1) (HV.row ⟨tt,.slice B1 nn c0,.slice At tx.length ct,.slice none 0 0,UV.nil,.slice none 0 0,0,.slice none 0 0,.slice none 0 0,.slice none 0 0,.slice none 0 0,0⟩) rfl rfl 37 HV.nil.row HRES.out AS rfl (HV.all.trans rfl) ?_)
   intro WZ hz hkz;have HZ:=Hi hz;have HKZ:=Hi hkz;have HLZ:Hid (Le w WZ):=Hi (Below.trans HLK.out (hkz.below (by have:=HBW.out;omega) HLK.out.size));clear hz hkz;go_wp2
   refine bodyPost_ret (Bx (x:=⟨tt,.slice B1 nn c0,.slice At tx.length ct,.slice none 0 0,UV.nil,.slice none 0 0,0,.slice none 0 0,.slice none 0 0,.slice none 0 0,.slice none 0 0,0⟩) rfl HZ.out rfl) rfl ⟨⟨tt,.slice B1 nn c0,.slice At tx.length ct,.slice none 0 0,UV.nil,.slice none 0 0,0,.slice none 0 0,.slice none 0 0,.slice none 0 0,.slice none 0 0,0⟩,rfl,HLZ.out,?_⟩
   have hN:=HX.out.le HLZ.out;have hU:Uz (fun g=>(ψ g∧g<w.heap.size)∨W2.heap.size≤g) WZ y v:=(HUZ.out.setH HGR.out (HV.all.trans rfl) HKPZ.out (fun g' hg'=>by have:=HPL.out;omega)).setH HRES.out Am.nou HKZ.out (fun g' hg'=>by have:=HPL.out;omega);have hNV:Bv WZ (.slice B1 nn c0) (nmT tt):=(HNV4.out.setH HGR.out (HV.all.trans rfl) HKPZ.out).setH HRES.out Am.nou HKZ.out
   have hnm:nmd ⟨tt,n,tx,d,u,ks,nu,pr,ve,tr,ho,po⟩ v={PH.zero with t:=tt,name:=nmT tt,text:=tx}:=by
    unfold nmd;dsimp only;rw[if_neg HARM.out.2.2,if_neg HARM.out.2.1,if_pos HARM.out.1]
   rw[hnm];exact⟨rfl,hNV,hN.text,Bv.nil _,(Hz.nil _ _).uri,Kq.nil _ _,KO.nil _ _,rfl,Bv.nil _,Bv.nil _,Bv.nil _,Bv.nil _,rfl⟩
  have HQ2:Hid (¬(tt=4∨tt=10)):=Hi (fun h=>by have:=hqq.2 h;cases this);clear hqq;by_cases h5:tt=5
  ·have b5:((tt:Int)==5)=true:=by rw[h5];rfl
   have HARM:Hid (tt=5∧¬(tt=4∨tt=10)∧¬BP tt∧¬(tt<1∨14<tt)):=Hi ⟨h5,HQ2.out,HQ1.out,HNA.out⟩;clear h5;go_upto_region 16 with fail
   have hm_ny:(Tryz.prog).follows .mixedOrders=true:=by kernel_rfl
   refine wp_region_grow_put (nyS W4 b1 g tt B1 nn c0 At tx.length ct nu) (nyZ W4 b1 g tt B1 nn c0 At tx.length ct nu) (nyG W4 b1 g tt B1 nn c0 At tx.length ct nu) 92 [58,59,60,61,62,63] hm_ny (by kernel_rfl) rfl rfl ?hG_ny ?hold_ny ?hs_ny ?hend_ny
   case hG_ny=>exact⟨(Kp.refl _ _).le (AC _).drew,(BS.of HGR.out _ (fun k v h=>by unfold nyF at h;split at h<;>first|exact h|cases h)).le (AC _).drew⟩
   case hold_ny=>
    intro t ht;simp only[List.mem_cons,List.mem_nil_iff,or_false,not_or]at ht;unfold nyS;split<;>first|exact True.intro|(exfalso;simp at ht;done)|rfl
   case hs_ny=>
    refine⟨?_,?_,?_,?_,?_,?_,?_,?_,trivial⟩
    ·refine AA fun a W hg hop=>?_;have h1:_=_:=hq hop 1;have h1':=tg h1;refine⟨_,?_,rfl⟩;simp only[execOp,h1];go_simp
    ·refine AA fun a W hg hop=>?_;have h58:_=_:=hq hop 58;have h58':=tg h58;have hc:W.cell? ⟨b1,15,none⟩=some (.int .u32 nu):=(AB (hg.1.heap HGN.out HR1.out) 15);refine⟨_,?_,rfl⟩;simp only[execOp,h58];go_simp
    ·refine AA fun a W hg hop=>?_;have h1:_=_:=hq hop 1;have h1':=tg h1;refine⟨_,?_,rfl⟩;simp only[execOp,h1];go_simp
    ·refine AA fun a W hg hop=>?_;have h60:_=_:=hq hop 60;have h60':=tg h60;have hc:W.cell? ⟨b1,2,none⟩=some (.slice At tx.length ct):=(AB (hg.1.heap HGN.out HR1.out) 2);refine⟨_,?_,rfl⟩;simp only[execOp,h60];go_simp
    ·refine AA fun a W hg hop=>?_;have h3:_=_:=hq hop 3;have h3':=tg h3;refine⟨_,?_,rfl⟩;simp only[execOp,h3];go_simp
    ·refine GrowStep.store ?_ rfl;intro a W hg hop;have hp:_=_:=hq hop 62;have hv:_=_:=hq hop 59;have hlen:(.int .u32 nu:Value).cells.toList.length=1:=rfl;obtain⟨hk,cs,hcs,hce,hf⟩:=hg;obtain⟨W',hr,hrow,hkp⟩:=AU (P:=Tryz.prog) W g 15 26 37 cs (.int .u32 nu) hce De (by rw[hcs];exact(show 15+1≤21 by decide)) (IN _ _)
     have hs:=BS.store (n:=21) (j:=15) hce hcs hrow (by rw[hlen];decide);refine⟨W',?_,⟨hk.trans hkp,hs.2 _ ⟨cs,hcs,hce,hf⟩ (fun k h1 h2=>by rw[hlen]at h2;unfold nyF;rw[if_pos (by omega)])⟩,fun t u h=>LH W4 b1 g tt B1 nn c0 At tx.length ct nu t u W W' h,fun j hj hz=>?_,?_⟩
     ·simp only[execOp,hp,hv,hr,Sem.run_bind,Sem.run_pure,Result.andThen]
     ·unfold nyZ at hz⊢;by_cases h5:j=5
      ·exact absurd h5 hj
      rw[if_neg h5]at hz⊢;by_cases h7:j=7
      ·rw[if_pos h7]at hz⊢;exact hs.2 _ hz (fun k h1 h2=>by rw[hlen]at h2;unfold CU;rw[if_neg (by rw[show(.slice At tx.length ct:Value).cells.toList.length=1 from rfl];omega)])
      rw[if_neg h7]at hz⊢;trivial
     ·unfold nyZ;rw[if_pos rfl];exact hs.1
    ·refine AA fun a W hg hop=>?_;have h3:_=_:=hq hop 3;have h3':=tg h3;refine⟨_,?_,rfl⟩;simp only[execOp,h3];go_simp
    ·refine GrowStep.store ?_ rfl;intro a W hg hop;have hp:_=_:=hq hop 63;have hv:_=_:=hq hop 61;have hlen:(.slice At tx.length ct:Value).cells.toList.length=1:=rfl;obtain⟨hk,cs,hcs,hce,hf⟩:=hg;obtain⟨W',hr,hrow,hkp⟩:=AU (P:=Tryz.prog) W g 2 22 37 cs (.slice At tx.length ct) hce B5 (by rw[hcs];exact(show 2+1≤21 by decide)) (CM _ _ _)
     have hs:=BS.store (n:=21) (j:=2) hce hcs hrow (by rw[hlen];decide);refine⟨W',?_,⟨hk.trans hkp,hs.2 _ ⟨cs,hcs,hce,hf⟩ (fun k h1 h2=>by rw[hlen]at h2;unfold nyF;rw[if_pos (by omega)])⟩,fun t u h=>LH W4 b1 g tt B1 nn c0 At tx.length ct nu t u W W' h,fun j hj hz=>?_,?_⟩
     ·simp only[execOp,hp,hv,hr,Sem.run_bind,Sem.run_pure,Result.andThen]
     ·unfold nyZ at hz⊢;by_cases h5:j=5
      ·rw[if_pos h5]at hz⊢;exact hs.2 _ hz (fun k h1 h2=>by rw[hlen]at h2;unfold CU;rw[if_neg (by rw[show(.int .u32 nu:Value).cells.toList.length=1 from rfl];omega)])
      rw[if_neg h5]at hz⊢;by_cases h7:j=7
      ·exact absurd h7 hj
      rw[if_neg h7]at hz⊢;trivial
     ·unfold nyZ;rw[if_neg (by decide)];rw[if_pos rfl];exact hs.1
   case hend_ny=>
    intro s_ wz hg hS hZ;have z5:=hZ 5 _ rfl rfl;unfold nyZ at z5;rw[if_pos rfl]at z5;have z7:=hZ 7 _ rfl rfl;unfold nyZ at z7;rw[if_neg (by decide)]at z7;rw[if_pos rfl]at z7
    have HROW:Hid (wz.heap[g]? =some (.cells (HV.row ⟨tt,.slice B1 nn c0,.slice At tx.length ct,.slice none 0 0,UV.nil,.slice none 0 0,nu,.slice none 0 0,.slice none 0 0,.slice none 0 0,.slice none 0 0,0⟩) 37 (0,0))):=Hi ((z5.join (z7.join hg.2)).eq (HV.row ⟨tt,.slice B1 nn c0,.slice At tx.length ct,.slice none 0 0,UV.nil,.slice none 0 0,nu,.slice none 0 0,.slice none 0 0,.slice none 0 0,.slice none 0 0,0⟩) rfl (fun k hk=>by
     have h:k=0∨k=1∨k=2∨k=3∨k=4∨k=5∨k=6∨k=7∨k=8∨k=9∨k=10∨k=11∨k=12∨k=13∨k=14∨k=15∨k=16∨k=17∨k=18∨k=19∨k=20:=by omega
     rcases h with rfl|rfl|rfl|rfl|rfl|rfl|rfl|rfl|rfl|rfl|rfl|rfl|rfl|rfl|rfl|rfl|rfl|rfl|rfl|rfl|rfl<;>rfl))
    have HKPZ:=Hi hg.1;clear hS hZ hg z5 z7;simp only[Aj,Act.put,List.setIfInBounds_toArray,List.set_cons_zero,List.set_cons_succ];have HRES:=Hi (HKPZ.out.heap HGN2.out HR2.out);have HLK:Hid (Le w wz):=Hi (Below.trans HL4.out (HKPZ.out.below (by have:=HPL.out;omega) HL4.out.size))
    go_wp2_with (first|refine wpList_load_row rfl 37 (.tmp 3) rfl g rfl 37 (HV.row ⟨tt,.slice B1 nn c0,.slice At tx.length ct,.slice none 0 0,UV.nil,.slice none 0 0,nu,.slice none 0 0,.slice none 0 0,.slice none 0 0,.slice none 0 0,0⟩) (0,0) _ HROW.out Tryz.underlying37 rfl AS ?_ |refine AD rfl 37 (.tmp 2) (.tmp 91) rfl (b1+1) (HV.row ⟨tt,.slice B1 nn c0,.slice At tx.length ct,.slice none 0 0,UV.nil,.slice none 0 0,nu,.slice none 0 0,.slice none 0 0,.slice none 0 0,.slice none 0 0,0⟩) rfl rfl 37 HV.nil.row HRES.out AS rfl (HV.all.trans rfl) ?_)
    intro WZ hz hkz;have HZ:=Hi hz;have HKZ:=Hi hkz;have HLZ:Hid (Le w WZ):=Hi (Below.trans HLK.out (hkz.below (by have:=HBW.out;omega) HLK.out.size));clear hz hkz;go_wp2
    refine bodyPost_ret (Bx (x:=⟨tt,.slice B1 nn c0,.slice At tx.length ct,.slice none 0 0,UV.nil,.slice none 0 0,nu,.slice none 0 0,.slice none 0 0,.slice none 0 0,.slice none 0 0,0⟩) rfl HZ.out rfl) rfl ⟨⟨tt,.slice B1 nn c0,.slice At tx.length ct,.slice none 0 0,UV.nil,.slice none 0 0,nu,.slice none 0 0,.slice none 0 0,.slice none 0 0,.slice none 0 0,0⟩,rfl,HLZ.out,?_⟩
    have hN:=HX.out.le HLZ.out;have hU:Uz (fun g=>(ψ g∧g<w.heap.size)∨W2.heap.size≤g) WZ y v:=(HUZ.out.setH HGR.out (HV.all.trans rfl) HKPZ.out (fun g' hg'=>by have:=HPL.out;omega)).setH HRES.out Am.nou HKZ.out (fun g' hg'=>by have:=HPL.out;omega);have hNV:Bv WZ (.slice B1 nn c0) (nmT tt):=(HNV4.out.setH HGR.out (HV.all.trans rfl) HKPZ.out).setH HRES.out Am.nou HKZ.out
    have hnm:nmd ⟨tt,n,tx,d,u,ks,nu,pr,ve,tr,ho,po⟩ v={PH.zero with t:=tt,name:=nmT tt,num:=nu,text:=tx}:=by
     unfold nmd;dsimp only;rw[if_neg HARM.out.2.2.2,if_neg HARM.out.2.2.1,if_neg HARM.out.2.1,if_pos HARM.out.1]
    rw[hnm];exact⟨rfl,hNV,hN.text,Bv.nil _,(Hz.nil _ _).uri,Kq.nil _ _,KO.nil _ _,hN.num,Bv.nil _,Bv.nil _,Bv.nil _,Bv.nil _,rfl⟩
  have b5:((tt:Int)==5)=false:=by rw[beq_eq_false_iff_ne];exact h5
  have HQ5:=Hi h5;clear h5;go_upto_if 64 with fail
  go_cut [64]from 64 to 68 (fun sx wx=>∃q:Bool,sx= .bool q∧W4=wx∧(q=true↔tt=6∨tt=7∨tt=8))
  case first=>
   by_cases e0:tt=6
   ·have b0:((tt:Int)==6)=true:=by rw[e0];rfl
    have HQ:Hid (tt=6∨tt=7∨tt=8):=Hi (by rw[e0];decide);clear e0;go_wp2;go_meet;case rel=>exact⟨true,by first|rfl|exact congrArg Value.bool b0,rfl,fun _=>HQ.out,fun _=>rfl⟩
   have b0:((tt:Int)==6)=false:=by rw[beq_eq_false_iff_ne];exact e0
   by_cases e1:tt=7
   ·have b1:((tt:Int)==7)=true:=by rw[e1];rfl
    have HQ:Hid (tt=6∨tt=7∨tt=8):=Hi (by rw[e1];decide);clear e0 e1;go_wp2;go_meet;case rel=>exact⟨true,by first|rfl|exact congrArg Value.bool b1,rfl,fun _=>HQ.out,fun _=>rfl⟩
   have b1:((tt:Int)==7)=false:=by rw[beq_eq_false_iff_ne];exact e1
   by_cases e2:tt=8
   ·have b2:((tt:Int)==8)=true:=by rw[e2];rfl
    have HQ:Hid (tt=6∨tt=7∨tt=8):=Hi (by rw[e2];decide);clear e0 e1 e2;go_wp2;go_meet;case rel=>exact⟨true,by first|rfl|exact congrArg Value.bool b2,rfl,fun _=>HQ.out,fun _=>rfl⟩
   have b2:((tt:Int)==8)=false:=by rw[beq_eq_false_iff_ne];exact e2
   have HQ:Hid (¬(tt=6∨tt=7∨tt=8)):=Hi (by omega);clear e0 e1 e2;go_wp2;go_meet;case rel=>exact⟨false,rfl,rfl,(fun h=>by cases h),fun h=>absurd h HQ.out⟩
  case rest=>
  obtain⟨q,rfl,rfl,hqq⟩:=hcut;cases q;case true=>
   have HARM:Hid ((tt=6∨tt=7∨tt=8)∧¬tt=5∧¬(tt=4∨tt=10)∧¬BP tt∧¬(tt<1∨14<tt)):=Hi ⟨hqq.1 rfl,HQ5.out,HQ2.out,HQ1.out,HNA.out⟩;have g2:W4.cell? ⟨b1,15,none⟩=some (.int .u32 nu):=AB HR1.out 15;clear hqq
   go_upto_region 23 with(refine AM rfl 26 (.tmp 70) (.tmp 69) rfl g 15 (.int .u32 nu) rfl rfl rfl 37 (HV.row ⟨tt,.slice B1 nn c0,.slice none 0 0,.slice none 0 0,UV.nil,.slice none 0 0,0,.slice none 0 0,.slice none 0 0,.slice none 0 0,.slice none 0 0,0⟩) HGR.out (show 15<21 by decide) De ?_)
   intro W5 hz5 hk5;rw[HV.set_num]at hz5;have HROW:=Hi hz5;have HKPZ:=Hi hk5;clear hz5 hk5;have HRES:=Hi (HKPZ.out.heap HGN2.out HR2.out);have HLK:Hid (Le w W5):=Hi (Below.trans HL4.out (HKPZ.out.below (by have:=HPL.out;omega) HL4.out.size))
   go_wp2_with (first|refine wpList_load_row rfl 37 (.tmp 3) rfl g rfl 37 (HV.row ⟨tt,.slice B1 nn c0,.slice none 0 0,.slice none 0 0,UV.nil,.slice none 0 0,nu,.slice none 0 0,.slice none 0 0,.slice none 0 0,.slice none 0 0,0⟩) (0,0) _ HROW.out Tryz.underlying37 rfl AS ?_ |refine AD rfl 37 (.tmp 2) (.tmp 91) rfl (b1+1) (HV.row ⟨tt,.slice B1 nn c0,.slice none 0 0,.slice none 0 0,UV.nil,.slice none 0 0,nu,.slice none 0 0,.slice none 0 0,.slice none 0 0,.slice none 0 0,0⟩) rfl rfl 37 HV.nil.row HRES.out AS rfl (HV.all.trans rfl) ?_)
   intro WZ hz hkz;have HZ:=Hi hz;have HKZ:=Hi hkz;have HLZ:Hid (Le w WZ):=Hi (Below.trans HLK.out (hkz.below (by have:=HBW.out;omega) HLK.out.size));clear hz hkz;go_wp2
   refine bodyPost_ret (Bx (x:=⟨tt,.slice B1 nn c0,.slice none 0 0,.slice none 0 0,UV.nil,.slice none 0 0,nu,.slice none 0 0,.slice none 0 0,.slice none 0 0,.slice none 0 0,0⟩) rfl HZ.out rfl) rfl ⟨⟨tt,.slice B1 nn c0,.slice none 0 0,.slice none 0 0,UV.nil,.slice none 0 0,nu,.slice none 0 0,.slice none 0 0,.slice none 0 0,.slice none 0 0,0⟩,rfl,HLZ.out,?_⟩;have hN:=HX.out.le HLZ.out
   have hU:Uz (fun g=>(ψ g∧g<w.heap.size)∨W2.heap.size≤g) WZ y v:=(HUZ.out.setH HGR.out (HV.all.trans rfl) HKPZ.out (fun g' hg'=>by have:=HPL.out;omega)).setH HRES.out Am.nou HKZ.out (fun g' hg'=>by have:=HPL.out;omega);have hNV:Bv WZ (.slice B1 nn c0) (nmT tt):=(HNV4.out.setH HGR.out (HV.all.trans rfl) HKPZ.out).setH HRES.out Am.nou HKZ.out
   have hnm:nmd ⟨tt,n,tx,d,u,ks,nu,pr,ve,tr,ho,po⟩ v={PH.zero with t:=tt,name:=nmT tt,num:=nu}:=by
    unfold nmd;dsimp only;rw[if_neg HARM.out.2.2.2.2,if_neg HARM.out.2.2.2.1,if_neg HARM.out.2.2.1,if_neg HARM.out.2.1,if_pos HARM.out.1]
   rw[hnm];exact⟨rfl,hNV,Bv.nil _,Bv.nil _,(Hz.nil _ _).uri,Kq.nil _ _,KO.nil _ _,hN.num,Bv.nil _,Bv.nil _,Bv.nil _,Bv.nil _,rfl⟩
  have HQ6:Hid (¬(tt=6∨tt=7∨tt=8)):=Hi (fun h=>by have:=hqq.2 h;cases this);clear hqq;by_cases h9:tt=9
  ·have b9:((tt:Int)==9)=true:=by rw[h9];rfl
   have HARM:Hid (tt=9∧¬(tt=6∨tt=7∨tt=8)∧¬tt=5∧¬(tt=4∨tt=10)∧¬BP tt∧¬(tt<1∨14<tt)):=Hi ⟨h9,HQ6.out,HQ5.out,HQ2.out,HQ1.out,HNA.out⟩;clear h9;go_upto_region 22 with fail
   have hm_nz:(Tryz.prog).follows .mixedOrders=true:=by kernel_rfl
   refine wp_region_grow_put (nzS W4 b1 g tt B1 nn c0 A1 A2 A3 A4 Aq pr.length c1 ve.length c2 tr.length c3 ho.length c4 ks.length cq po) (nzZ W4 b1 g tt B1 nn c0 A1 A2 A3 A4 Aq pr.length c1 ve.length c2 tr.length c3 ho.length c4 ks.length cq po) (nzG W4 b1 g tt B1 nn c0 A1 A2 A3 A4 Aq pr.length c1 ve.length c2 tr.length c3 ho.length c4 ks.length cq po) 92 [73,74,75,76,77,78,79,80,81,82,83,84,85,86,87,88,89,90] hm_nz (by kernel_rfl) rfl rfl ?hG_nz ?hold_nz ?hs_nz ?hend_nz
   case hG_nz=>exact⟨(Kp.refl _ _).le (AC _).drew,(BS.of HGR.out _ (fun k v h=>by unfold nzF at h;split at h<;>first|exact h|cases h)).le (AC _).drew⟩
   case hold_nz=>
    intro t ht;simp only[List.mem_cons,List.mem_nil_iff,or_false,not_or]at ht;unfold nzS;split<;>first|exact True.intro|(exfalso;simp at ht;done)|rfl
   case hs_nz=>
    refine⟨?_,?_,?_,?_,?_,?_,?_,?_,?_,?_,?_,?_,?_,?_,?_,?_,?_,?_,?_,?_,?_,?_,?_,?_,trivial⟩
    ·refine AA fun a W hg hop=>?_;have h1:_=_:=hq hop 1;have h1':=tg h1;refine⟨_,?_,rfl⟩;simp only[execOp,h1];go_simp
    ·refine AA fun a W hg hop=>?_;have h73:_=_:=hq hop 73;have h73':=tg h73;have hc:W.cell? ⟨b1,16,none⟩=some (.slice A1 pr.length c1):=(AB (hg.1.heap HGN.out HR1.out) 16);refine⟨_,?_,rfl⟩;simp only[execOp,h73];go_simp
    ·refine AA fun a W hg hop=>?_;have h1:_=_:=hq hop 1;have h1':=tg h1;refine⟨_,?_,rfl⟩;simp only[execOp,h1];go_simp
    ·refine AA fun a W hg hop=>?_;have h75:_=_:=hq hop 75;have h75':=tg h75;have hc:W.cell? ⟨b1,17,none⟩=some (.slice A2 ve.length c2):=(AB (hg.1.heap HGN.out HR1.out) 17);refine⟨_,?_,rfl⟩;simp only[execOp,h75];go_simp
    ·refine AA fun a W hg hop=>?_;have h1:_=_:=hq hop 1;have h1':=tg h1;refine⟨_,?_,rfl⟩;simp only[execOp,h1];go_simp
    ·refine AA fun a W hg hop=>?_;have h77:_=_:=hq hop 77;have h77':=tg h77;have hc:W.cell? ⟨b1,18,none⟩=some (.slice A3 tr.length c3):=(AB (hg.1.heap HGN.out HR1.out) 18);refine⟨_,?_,rfl⟩;simp only[execOp,h77];go_simp
    ·refine AA fun a W hg hop=>?_;have h1:_=_:=hq hop 1;have h1':=tg h1;refine⟨_,?_,rfl⟩;simp only[execOp,h1];go_simp
    ·refine AA fun a W hg hop=>?_;have h79:_=_:=hq hop 79;have h79':=tg h79;have hc:W.cell? ⟨b1,19,none⟩=some (.slice A4 ho.length c4):=(AB (hg.1.heap HGN.out HR1.out) 19);refine⟨_,?_,rfl⟩;simp only[execOp,h79];go_simp
    ·refine AA fun a W hg hop=>?_;have h1:_=_:=hq hop 1;have h1':=tg h1;refine⟨_,?_,rfl⟩;simp only[execOp,h1];go_simp
    ·refine AA fun a W hg hop=>?_;have h81:_=_:=hq hop 81;have h81':=tg h81;have hc:W.cell? ⟨b1,20,none⟩=some (.int .i64 po):=(AB (hg.1.heap HGN.out HR1.out) 20);refine⟨_,?_,rfl⟩;simp only[execOp,h81];go_simp
    ·refine AA fun a W hg hop=>?_;have h1:_=_:=hq hop 1;have h1':=tg h1;refine⟨_,?_,rfl⟩;simp only[execOp,h1];go_simp
    ·refine AA fun a W hg hop=>?_;have h83:_=_:=hq hop 83;have h83':=tg h83;have hc:W.cell? ⟨b1,14,none⟩=some (.slice Aq ks.length cq):=(AB (hg.1.heap HGN.out HR1.out) 14);refine⟨_,?_,rfl⟩;simp only[execOp,h83];go_simp
    ·refine AA fun a W hg hop=>?_;have h3:_=_:=hq hop 3;have h3':=tg h3;refine⟨_,?_,rfl⟩;simp only[execOp,h3];go_simp
    ·refine GrowStep.store ?_ rfl;intro a W hg hop;have hp:_=_:=hq hop 85;have hv:_=_:=hq hop 74;have hlen:(.slice A1 pr.length c1:Value).cells.toList.length=1:=rfl;obtain⟨hk,cs,hcs,hce,hf⟩:=hg;obtain⟨W',hr,hrow,hkp⟩:=AU (P:=Tryz.prog) W g 16 22 37 cs (.slice A1 pr.length c1) hce B5 (by rw[hcs];exact(show 16+1≤21 by decide)) (CM _ _ _)
     have hs:=BS.store (n:=21) (j:=16) hce hcs hrow (by rw[hlen];decide);refine⟨W',?_,⟨hk.trans hkp,hs.2 _ ⟨cs,hcs,hce,hf⟩ (fun k h1 h2=>by rw[hlen]at h2;unfold nzF;rw[if_pos (by omega)])⟩,fun t u h=>Ek W4 b1 g tt B1 nn c0 A1 A2 A3 A4 Aq pr.length c1 ve.length c2 tr.length c3 ho.length c4 ks.length cq po t u W W' h,fun j hj hz=>?_,?_⟩
     ·simp only[execOp,hp,hv,hr,Sem.run_bind,Sem.run_pure,Result.andThen]
     ·unfold nzZ at hz⊢;by_cases h13:j=13
      ·exact absurd h13 hj
      rw[if_neg h13]at hz⊢;by_cases h15:j=15
      ·rw[if_pos h15]at hz⊢;exact hs.2 _ hz (fun k h1 h2=>by rw[hlen]at h2;unfold CU;rw[if_neg (by rw[show(.slice A2 ve.length c2:Value).cells.toList.length=1 from rfl];omega)])
      rw[if_neg h15]at hz⊢;by_cases h17:j=17
      ·rw[if_pos h17]at hz⊢;exact hs.2 _ hz (fun k h1 h2=>by rw[hlen]at h2;unfold CU;rw[if_neg (by rw[show(.slice A3 tr.length c3:Value).cells.toList.length=1 from rfl];omega)])
      rw[if_neg h17]at hz⊢;by_cases h19:j=19
      ·rw[if_pos h19]at hz⊢;exact hs.2 _ hz (fun k h1 h2=>by rw[hlen]at h2;unfold CU;rw[if_neg (by rw[show(.slice A4 ho.length c4:Value).cells.toList.length=1 from rfl];omega)])
      rw[if_neg h19]at hz⊢;by_cases h21:j=21
      ·rw[if_pos h21]at hz⊢;exact hs.2 _ hz (fun k h1 h2=>by rw[hlen]at h2;unfold CU;rw[if_neg (by rw[show(.int .i64 po:Value).cells.toList.length=1 from rfl];omega)])
      rw[if_neg h21]at hz⊢;by_cases h23:j=23
      ·rw[if_pos h23]at hz⊢;exact hs.2 _ hz (fun k h1 h2=>by rw[hlen]at h2;unfold CU;rw[if_neg (by rw[show(.slice Aq ks.length cq:Value).cells.toList.length=1 from rfl];omega)])
      rw[if_neg h23]at hz⊢;trivial
     ·unfold nzZ;rw[if_pos rfl];exact hs.1
    ·refine AA fun a W hg hop=>?_;have h3:_=_:=hq hop 3;have h3':=tg h3;refine⟨_,?_,rfl⟩;simp only[execOp,h3];go_simp
    ·refine GrowStep.store ?_ rfl;intro a W hg hop;have hp:_=_:=hq hop 86;have hv:_=_:=hq hop 76;have hlen:(.slice A2 ve.length c2:Value).cells.toList.length=1:=rfl;obtain⟨hk,cs,hcs,hce,hf⟩:=hg;obtain⟨W',hr,hrow,hkp⟩:=AU (P:=Tryz.prog) W g 17 22 37 cs (.slice A2 ve.length c2) hce B5 (by rw[hcs];exact(show 17+1≤21 by decide)) (CM _ _ _)
     have hs:=BS.store (n:=21) (j:=17) hce hcs hrow (by rw[hlen];decide);refine⟨W',?_,⟨hk.trans hkp,hs.2 _ ⟨cs,hcs,hce,hf⟩ (fun k h1 h2=>by rw[hlen]at h2;unfold nzF;rw[if_pos (by omega)])⟩,fun t u h=>Ek W4 b1 g tt B1 nn c0 A1 A2 A3 A4 Aq pr.length c1 ve.length c2 tr.length c3 ho.length c4 ks.length cq po t u W W' h,fun j hj hz=>?_,?_⟩
     ·simp only[execOp,hp,hv,hr,Sem.run_bind,Sem.run_pure,Result.andThen]
     ·unfold nzZ at hz⊢;by_cases h13:j=13
      ·rw[if_pos h13]at hz⊢;exact hs.2 _ hz (fun k h1 h2=>by rw[hlen]at h2;unfold CU;rw[if_neg (by rw[show(.slice A1 pr.length c1:Value).cells.toList.length=1 from rfl];omega)])
      rw[if_neg h13]at hz⊢;by_cases h15:j=15
      ·exact absurd h15 hj
      rw[if_neg h15]at hz⊢;by_cases h17:j=17
      ·rw[if_pos h17]at hz⊢;exact hs.2 _ hz (fun k h1 h2=>by rw[hlen]at h2;unfold CU;rw[if_neg (by rw[show(.slice A3 tr.length c3:Value).cells.toList.length=1 from rfl];omega)])
      rw[if_neg h17]at hz⊢;by_cases h19:j=19
      ·rw[if_pos h19]at hz⊢;exact hs.2 _ hz (fun k h1 h2=>by rw[hlen]at h2;unfold CU;rw[if_neg (by rw[show(.slice A4 ho.length c4:Value).cells.toList.length=1 from rfl];omega)])
      rw[if_neg h19]at hz⊢;by_cases h21:j=21
      ·rw[if_pos h21]at hz⊢;exact hs.2 _ hz (fun k h1 h2=>by rw[hlen]at h2;unfold CU;rw[if_neg (by rw[show(.int .i64 po:Value).cells.toList.length=1 from rfl];omega)])
      rw[if_neg h21]at hz⊢;by_cases h23:j=23
      ·rw[if_pos h23]at hz⊢;exact hs.2 _ hz (fun k h1 h2=>by rw[hlen]at h2;unfold CU;rw[if_neg (by rw[show(.slice Aq ks.length cq:Value).cells.toList.length=1 from rfl];omega)])
      rw[if_neg h23]at hz⊢;trivial
     ·unfold nzZ;rw[if_neg (by decide)];rw[if_pos rfl];exact hs.1
    ·refine AA fun a W hg hop=>?_;have h3:_=_:=hq hop 3;have h3':=tg h3;refine⟨_,?_,rfl⟩;simp only[execOp,h3];go_simp
    ·refine GrowStep.store ?_ rfl;intro a W hg hop;have hp:_=_:=hq hop 87;have hv:_=_:=hq hop 78;have hlen:(.slice A3 tr.length c3:Value).cells.toList.length=1:=rfl;obtain⟨hk,cs,hcs,hce,hf⟩:=hg;obtain⟨W',hr,hrow,hkp⟩:=AU (P:=Tryz.prog) W g 18 22 37 cs (.slice A3 tr.length c3) hce B5 (by rw[hcs];exact(show 18+1≤21 by decide)) (CM _ _ _)
     have hs:=BS.store (n:=21) (j:=18) hce hcs hrow (by rw[hlen];decide);refine⟨W',?_,⟨hk.trans hkp,hs.2 _ ⟨cs,hcs,hce,hf⟩ (fun k h1 h2=>by rw[hlen]at h2;unfold nzF;rw[if_pos (by omega)])⟩,fun t u h=>Ek W4 b1 g tt B1 nn c0 A1 A2 A3 A4 Aq pr.length c1 ve.length c2 tr.length c3 ho.length c4 ks.length cq po t u W W' h,fun j hj hz=>?_,?_⟩
     ·simp only[execOp,hp,hv,hr,Sem.run_bind,Sem.run_pure,Result.andThen]
     ·unfold nzZ at hz⊢;by_cases h13:j=13
      ·rw[if_pos h13]at hz⊢;exact hs.2 _ hz (fun k h1 h2=>by rw[hlen]at h2;unfold CU;rw[if_neg (by rw[show(.slice A1 pr.length c1:Value).cells.toList.length=1 from rfl];omega)])
      rw[if_neg h13]at hz⊢;by_cases h15:j=15
      ·rw[if_pos h15]at hz⊢;exact hs.2 _ hz (fun k h1 h2=>by rw[hlen]at h2;unfold CU;rw[if_neg (by rw[show(.slice A2 ve.length c2:Value).cells.toList.length=1 from rfl];omega)])
      rw[if_neg h15]at hz⊢;by_cases h17:j=17
      ·exact absurd h17 hj
      rw[if_neg h17]at hz⊢;by_cases h19:j=19
      ·rw[if_pos h19]at hz⊢;exact hs.2 _ hz (fun k h1 h2=>by rw[hlen]at h2;unfold CU;rw[if_neg (by rw[show(.slice A4 ho.length c4:Value).cells.toList.length=1 from rfl];omega)])
      rw[if_neg h19]at hz⊢;by_cases h21:j=21
      ·rw[if_pos h21]at hz⊢;exact hs.2 _ hz (fun k h1 h2=>by rw[hlen]at h2;unfold CU;rw[if_neg (by rw[show(.int .i64 po:Value).cells.toList.length=1 from rfl];omega)])
      rw[if_neg h21]at hz⊢;by_cases h23:j=23
      ·rw[if_pos h23]at hz⊢;exact hs.2 _ hz (fun k h1 h2=>by rw[hlen]at h2;unfold CU;rw[if_neg (by rw[show(.slice Aq ks.length cq:Value).cells.toList.length=1 from rfl];omega)])
      rw[if_neg h23]at hz⊢;trivial
     ·unfold nzZ;rw[if_neg (by decide)];rw[if_neg (by decide)];rw[if_pos rfl];exact hs.1
    ·refine AA fun a W hg hop=>?_;have h3:_=_:=hq hop 3;have h3':=tg h3;refine⟨_,?_,rfl⟩;simp only[execOp,h3];go_simp
    ·refine GrowStep.store ?_ rfl;intro a W hg hop;have hp:_=_:=hq hop 88;have hv:_=_:=hq hop 80;have hlen:(.slice A4 ho.length c4:Value).cells.toList.length=1:=rfl;obtain⟨hk,cs,hcs,hce,hf⟩:=hg;obtain⟨W',hr,hrow,hkp⟩:=AU (P:=Tryz.prog) W g 19 22 37 cs (.slice A4 ho.length c4) hce B5 (by rw[hcs];exact(show 19+1≤21 by decide)) (CM _ _ _)
     have hs:=BS.store (n:=21) (j:=19) hce hcs hrow (by rw[hlen];decide);refine⟨W',?_,⟨hk.trans hkp,hs.2 _ ⟨cs,hcs,hce,hf⟩ (fun k h1 h2=>by rw[hlen]at h2;unfold nzF;rw[if_pos (by omega)])⟩,fun t u h=>Ek W4 b1 g tt B1 nn c0 A1 A2 A3 A4 Aq pr.length c1 ve.length c2 tr.length c3 ho.length c4 ks.length cq po t u W W' h,fun j hj hz=>?_,?_⟩
     ·simp only[execOp,hp,hv,hr,Sem.run_bind,Sem.run_pure,Result.andThen]
     ·unfold nzZ at hz⊢;by_cases h13:j=13
      ·rw[if_pos h13]at hz⊢;exact hs.2 _ hz (fun k h1 h2=>by rw[hlen]at h2;unfold CU;rw[if_neg (by rw[show(.slice A1 pr.length c1:Value).cells.toList.length=1 from rfl];omega)])
      rw[if_neg h13]at hz⊢;by_cases h15:j=15
      ·rw[if_pos h15]at hz⊢;exact hs.2 _ hz (fun k h1 h2=>by rw[hlen]at h2;unfold CU;rw[if_neg (by rw[show(.slice A2 ve.length c2:Value).cells.toList.length=1 from rfl];omega)])
      rw[if_neg h15]at hz⊢;by_cases h17:j=17
      ·rw[if_pos h17]at hz⊢;exact hs.2 _ hz (fun k h1 h2=>by rw[hlen]at h2;unfold CU;rw[if_neg (by rw[show(.slice A3 tr.length c3:Value).cells.toList.length=1 from rfl];omega)])
      rw[if_neg h17]at hz⊢;by_cases h19:j=19
      ·exact absurd h19 hj
      rw[if_neg h19]at hz⊢;by_cases h21:j=21
      ·rw[if_pos h21]at hz⊢;exact hs.2 _ hz (fun k h1 h2=>by rw[hlen]at h2;unfold CU;rw[if_neg (by rw[show(.int .i64 po:Value).cells.toList.length=1 from rfl];omega)])
      rw[if_neg h21]at hz⊢;by_cases h23:j=23
      ·rw[if_pos h23]at hz⊢;exact hs.2 _ hz (fun k h1 h2=>by rw[hlen]at h2;unfold CU;rw[if_neg (by rw[show(.slice Aq ks.length cq:Value).cells.toList.length=1 from rfl];omega)])
      rw[if_neg h23]at hz⊢;trivial
     ·unfold nzZ;rw[if_neg (by decide)];rw[if_neg (by decide)];rw[if_neg (by decide)];rw[if_pos rfl];exact hs.1
    ·refine AA fun a W hg hop=>?_;have h3:_=_:=hq hop 3;have h3':=tg h3;refine⟨_,?_,rfl⟩;simp only[execOp,h3];go_simp
    ·refine GrowStep.store ?_ rfl;intro a W hg hop;have hp:_=_:=hq hop 89;have hv:_=_:=hq hop 82;have hlen:(.int .i64 po:Value).cells.toList.length=1:=rfl;obtain⟨hk,cs,hcs,hce,hf⟩:=hg;obtain⟨W',hr,hrow,hkp⟩:=AU (P:=Tryz.prog) W g 20 3 37 cs (.int .i64 po) hce IZ (by rw[hcs];exact(show 20+1≤21 by decide)) (IN _ _)
     have hs:=BS.store (n:=21) (j:=20) hce hcs hrow (by rw[hlen];decide);refine⟨W',?_,⟨hk.trans hkp,hs.2 _ ⟨cs,hcs,hce,hf⟩ (fun k h1 h2=>by rw[hlen]at h2;unfold nzF;rw[if_pos (by omega)])⟩,fun t u h=>Ek W4 b1 g tt B1 nn c0 A1 A2 A3 A4 Aq pr.length c1 ve.length c2 tr.length c3 ho.length c4 ks.length cq po t u W W' h,fun j hj hz=>?_,?_⟩
     ·simp only[execOp,hp,hv,hr,Sem.run_bind,Sem.run_pure,Result.andThen]
     ·unfold nzZ at hz⊢;by_cases h13:j=13
      ·rw[if_pos h13]at hz⊢;exact hs.2 _ hz (fun k h1 h2=>by rw[hlen]at h2;unfold CU;rw[if_neg (by rw[show(.slice A1 pr.length c1:Value).cells.toList.length=1 from rfl];omega)])
      rw[if_neg h13]at hz⊢;by_cases h15:j=15
      ·rw[if_pos h15]at hz⊢;exact hs.2 _ hz (fun k h1 h2=>by rw[hlen]at h2;unfold CU;rw[if_neg (by rw[show(.slice A2 ve.length c2:Value).cells.toList.length=1 from rfl];omega)])
      rw[if_neg h15]at hz⊢;by_cases h17:j=17
      ·rw[if_pos h17]at hz⊢;exact hs.2 _ hz (fun k h1 h2=>by rw[hlen]at h2;unfold CU;rw[if_neg (by rw[show(.slice A3 tr.length c3:Value).cells.toList.length=1 from rfl];omega)])
      rw[if_neg h17]at hz⊢;by_cases h19:j=19
      ·rw[if_pos h19]at hz⊢;exact hs.2 _ hz (fun k h1 h2=>by rw[hlen]at h2;unfold CU;rw[if_neg (by rw[show(.slice A4 ho.length c4:Value).cells.toList.length=1 from rfl];omega)])
      rw[if_neg h19]at hz⊢;by_cases h21:j=21
      ·exact absurd h21 hj
      rw[if_neg h21]at hz⊢;by_cases h23:j=23
      ·rw[if_pos h23]at hz⊢;exact hs.2 _ hz (fun k h1 h2=>by rw[hlen]at h2;unfold CU;rw[if_neg (by rw[show(.slice Aq ks.length cq:Value).cells.toList.length=1 from rfl];omega)])
      rw[if_neg h23]at hz⊢;trivial
     ·unfold nzZ;rw[if_neg (by decide)];rw[if_neg (by decide)];rw[if_neg (by decide)];rw[if_neg (by decide)];rw[if_pos rfl];exact hs.1
    ·refine AA fun a W hg hop=>?_;have h3:_=_:=hq hop 3;have h3':=tg h3;refine⟨_,?_,rfl⟩;simp only[execOp,h3];go_simp
    ·refine GrowStep.store ?_ rfl;intro a W hg hop;have hp:_=_:=hq hop 90;have hv:_=_:=hq hop 84;have hlen:(.slice Aq ks.length cq:Value).cells.toList.length=1:=rfl;obtain⟨hk,cs,hcs,hce,hf⟩:=hg;obtain⟨W',hr,hrow,hkp⟩:=AU (P:=Tryz.prog) W g 14 33 37 cs (.slice Aq ks.length cq) hce D0 (by rw[hcs];exact(show 14+1≤21 by decide)) (CM _ _ _)
     have hs:=BS.store (n:=21) (j:=14) hce hcs hrow (by rw[hlen];decide);refine⟨W',?_,⟨hk.trans hkp,hs.2 _ ⟨cs,hcs,hce,hf⟩ (fun k h1 h2=>by rw[hlen]at h2;unfold nzF;rw[if_pos (by omega)])⟩,fun t u h=>Ek W4 b1 g tt B1 nn c0 A1 A2 A3 A4 Aq pr.length c1 ve.length c2 tr.length c3 ho.length c4 ks.length cq po t u W W' h,fun j hj hz=>?_,?_⟩
     ·simp only[execOp,hp,hv,hr,Sem.run_bind,Sem.run_pure,Result.andThen]
     ·unfold nzZ at hz⊢;by_cases h13:j=13
      ·rw[if_pos h13]at hz⊢;exact hs.2 _ hz (fun k h1 h2=>by rw[hlen]at h2;unfold CU;rw[if_neg (by rw[show(.slice A1 pr.length c1:Value).cells.toList.length=1 from rfl];omega)])
      rw[if_neg h13]at hz⊢;by_cases h15:j=15
      ·rw[if_pos h15]at hz⊢;exact hs.2 _ hz (fun k h1 h2=>by rw[hlen]at h2;unfold CU;rw[if_neg (by rw[show(.slice A2 ve.length c2:Value).cells.toList.length=1 from rfl];omega)])
      rw[if_neg h15]at hz⊢;by_cases h17:j=17
      ·rw[if_pos h17]at hz⊢;exact hs.2 _ hz (fun k h1 h2=>by rw[hlen]at h2;unfold CU;rw[if_neg (by rw[show(.slice A3 tr.length c3:Value).cells.toList.length=1 from rfl];omega)])
      rw[if_neg h17]at hz⊢;by_cases h19:j=19
      ·rw[if_pos h19]at hz⊢;exact hs.2 _ hz (fun k h1 h2=>by rw[hlen]at h2;unfold CU;rw[if_neg (by rw[show(.slice A4 ho.length c4:Value).cells.toList.length=1 from rfl];omega)])
      rw[if_neg h19]at hz⊢;by_cases h21:j=21
      ·rw[if_pos h21]at hz⊢;exact hs.2 _ hz (fun k h1 h2=>by rw[hlen]at h2;unfold CU;rw[if_neg (by rw[show(.int .i64 po:Value).cells.toList.length=1 from rfl];omega)])
      rw[if_neg h21]at hz⊢;by_cases h23:j=23
      ·exact absurd h23 hj
      rw[if_neg h23]at hz⊢;trivial
     ·unfold nzZ;rw[if_neg (by decide)];rw[if_neg (by decide)];rw[if_neg (by decide)];rw[if_neg (by decide)];rw[if_neg (by decide)];rw[if_pos rfl];exact hs.1
   case hend_nz=>
    intro s_ wz hg hS hZ;have z13:=hZ 13 _ rfl rfl;unfold nzZ at z13;rw[if_pos rfl]at z13;have z15:=hZ 15 _ rfl rfl;unfold nzZ at z15;rw[if_neg (by decide)]at z15;rw[if_pos rfl]at z15;have z17:=hZ 17 _ rfl rfl;unfold nzZ at z17;rw[if_neg (by decide)]at z17;rw[if_neg (by decide)]at z17;rw[if_pos rfl]at z17;have z19:=hZ 19 _ rfl rfl;unfold nzZ at z19;rw[if_neg (by decide)]at z19
    rw[if_neg (by decide)]at z19;rw[if_neg (by decide)]at z19;rw[if_pos rfl]at z19;have z21:=hZ 21 _ rfl rfl;unfold nzZ at z21;rw[if_neg (by decide)]at z21;rw[if_neg (by decide)]at z21;rw[if_neg (by decide)]at z21;rw[if_neg (by decide)]at z21;rw[if_pos rfl]at z21;have z23:=hZ 23 _ rfl rfl;unfold nzZ at z23;rw[if_neg (by decide)]at z23;rw[if_neg (by decide)]at z23;rw[if_neg (by decide)]at z23
    rw[if_neg (by decide)]at z23;rw[if_neg (by decide)]at z23;rw[if_pos rfl]at z23
    have HROW:Hid (wz.heap[g]? =some (.cells (HV.row ⟨tt,.slice B1 nn c0,.slice none 0 0,.slice none 0 0,UV.nil,.slice Aq ks.length cq,0,.slice A1 pr.length c1,.slice A2 ve.length c2,.slice A3 tr.length c3,.slice A4 ho.length c4,po⟩) 37 (0,0))):=Hi ((z13.join (z15.join (z17.join (z19.join (z21.join (z23.join hg.2)))))).eq (HV.row ⟨tt,.slice B1 nn c0,.slice none 0 0,.slice none 0 0,UV.nil,.slice Aq ks.length cq,0,.slice A1 pr.length c1,.slice A2 ve.length c2,.slice A3 tr.length c3,.slice A4 ho.length c4,po⟩) rfl (fun k hk=>by
     have h:k=0∨k=1∨k=2∨k=3∨k=4∨k=5∨k=6∨k=7∨k=8∨k=9∨k=10∨k=11∨k=12∨k=13∨k=14∨k=15∨k=16∨k=17∨k=18∨k=19∨k=20:=by omega
     rcases h with rfl|rfl|rfl|rfl|rfl|rfl|rfl|rfl|rfl|rfl|rfl|rfl|rfl|rfl|rfl|rfl|rfl|rfl|rfl|rfl|rfl<;>rfl))
    have HKPZ:=Hi hg.1;clear hS hZ hg z13 z15 z17 z19 z21 z23;simp only[Aj,Act.put,List.setIfInBounds_toArray,List.set_cons_zero,List.set_cons_succ];have HRES:=Hi (HKPZ.out.heap HGN2.out HR2.out);have HLK:Hid (Le w wz):=Hi (Below.trans HL4.out (HKPZ.out.below (by have:=HPL.out;omega) HL4.out.size))
    go_wp2_with (first|refine wpList_load_row rfl 37 (.tmp 3) rfl g rfl 37 (HV.row ⟨tt,.slice B1 nn c0,.slice none 0 0,.slice none 0 0,UV.nil,.slice Aq ks.length cq,0,.slice A1 pr.length c1,.slice A2 ve.length c2,.slice A3 tr.length c3,.slice A4 ho.length c4,po⟩) (0,0) _ HROW.out Tryz.underlying37 rfl AS ?_ |refine AD rfl 37 (.tmp 2) (.tmp 91) rfl (b1+1) (HV.row ⟨tt,.slice B1 nn c0,.slice none 0 0,.slice none 0 0,UV.nil,.slice Aq ks.length cq,0,.slice A1 pr.length c1,.slice A2 ve.length c2,.slice A3 tr.length c3,.slice A4 ho.length c4,po⟩) rfl rfl 37 HV.nil.row HRES.out AS rfl (HV.all.trans rfl) ?_)
    intro WZ hz hkz;have HZ:=Hi hz;have HKZ:=Hi hkz;have HLZ:Hid (Le w WZ):=Hi (Below.trans HLK.out (hkz.below (by have:=HBW.out;omega) HLK.out.size));clear hz hkz;go_wp2
    refine bodyPost_ret (Bx (x:=⟨tt,.slice B1 nn c0,.slice none 0 0,.slice none 0 0,UV.nil,.slice Aq ks.length cq,0,.slice A1 pr.length c1,.slice A2 ve.length c2,.slice A3 tr.length c3,.slice A4 ho.length c4,po⟩) rfl HZ.out rfl) rfl ⟨⟨tt,.slice B1 nn c0,.slice none 0 0,.slice none 0 0,UV.nil,.slice Aq ks.length cq,0,.slice A1 pr.length c1,.slice A2 ve.length c2,.slice A3 tr.length c3,.slice A4 ho.length c4,po⟩,rfl,HLZ.out,?_⟩
    have hN:=HX.out.le HLZ.out;have hU:Uz (fun g=>(ψ g∧g<w.heap.size)∨W2.heap.size≤g) WZ y v:=(HUZ.out.setH HGR.out (HV.all.trans rfl) HKPZ.out (fun g' hg'=>by have:=HPL.out;omega)).setH HRES.out Am.nou HKZ.out (fun g' hg'=>by have:=HPL.out;omega);have hNV:Bv WZ (.slice B1 nn c0) (nmT tt):=(HNV4.out.setH HGR.out (HV.all.trans rfl) HKPZ.out).setH HRES.out Am.nou HKZ.out
    have hnm:nmd ⟨tt,n,tx,d,u,ks,nu,pr,ve,tr,ho,po⟩ v={PH.zero with t:=tt,name:=nmT tt,ps:=ks,proto:=pr,ver:=ve,tr:=tr,host:=ho,port:=po}:=by
     unfold nmd;dsimp only;rw[if_neg HARM.out.2.2.2.2.2,if_neg HARM.out.2.2.2.2.1,if_neg HARM.out.2.2.2.1,if_neg HARM.out.2.2.1,if_neg HARM.out.2.1,if_pos HARM.out.1]
    rw[hnm];exact⟨rfl,hNV,Bv.nil _,Bv.nil _,(Hz.nil _ _).uri,hN.ps,hN.op.imp (fun g hg=> .inl hg.1),rfl,hN.proto,hN.ver,hN.tr,hN.host,hN.port⟩
  have b9:((tt:Int)==9)=false:=by rw[beq_eq_false_iff_ne];exact h9
  have HARM:Hid (¬tt=9∧¬(tt=6∨tt=7∨tt=8)∧¬tt=5∧¬(tt=4∨tt=10)∧¬BP tt∧¬(tt<1∨14<tt)):=Hi ⟨h9,HQ6.out,HQ5.out,HQ2.out,HQ1.out,HNA.out⟩;clear h9;go_upto_region 6 with fail
  go_upto_region 23 with(first|refine BN rfl 35 (.tmp 33) rfl b1 4 rfl 37 (HV.row ⟨tt,.slice An n.length cn,.slice At tx.length ct,.slice Ad d.length cd,y,.slice Aq ks.length cq,nu,.slice A1 pr.length c1,.slice A2 ve.length c2,.slice A3 tr.length c3,.slice A4 ho.length c4,po⟩) y.row (0,0) _ HR1.out (CF ⟨tt,.slice An n.length cn,.slice At tx.length ct,.slice Ad d.length cd,y,.slice Aq ks.length cq,nu,.slice A1 pr.length c1,.slice A2 ve.length c2,.slice A3 tr.length c3,.slice A4 ho.length c4,po⟩) Tryz.underlying35 rfl AI ?_ |refine BG rfl 35 (.tmp 35) (.tmp 34) rfl g 4 y.row rfl rfl 37 (HV.row ⟨tt,.slice B1 nn c0,.slice none 0 0,.slice none 0 0,UV.nil,.slice none 0 0,0,.slice none 0 0,.slice none 0 0,.slice none 0 0,.slice none 0 0,0⟩) HGR.out AI (show 4+10≤21 by decide) HY1.out ?_)
  intro W5 hz5 hk5;rw[HV.put_uri]at hz5;have HROW:=Hi hz5;have HKPZ:=Hi hk5;clear hz5 hk5;have HRES:=Hi (HKPZ.out.heap HGN2.out HR2.out);have HLK:Hid (Le w W5):=Hi (Below.trans HL4.out (HKPZ.out.below (by have:=HPL.out;omega) HL4.out.size))
  go_wp2_with (first|refine wpList_load_row rfl 37 (.tmp 3) rfl g rfl 37 (HV.row ⟨tt,.slice B1 nn c0,.slice none 0 0,.slice none 0 0,y,.slice none 0 0,0,.slice none 0 0,.slice none 0 0,.slice none 0 0,.slice none 0 0,0⟩) (0,0) _ HROW.out Tryz.underlying37 rfl AS ?_ |refine AD rfl 37 (.tmp 2) (.tmp 91) rfl (b1+1) (HV.row ⟨tt,.slice B1 nn c0,.slice none 0 0,.slice none 0 0,y,.slice none 0 0,0,.slice none 0 0,.slice none 0 0,.slice none 0 0,.slice none 0 0,0⟩) rfl rfl 37 HV.nil.row HRES.out AS rfl (Gn HY1.out) ?_)
  intro WZ hz hkz;have HZ:=Hi hz;have HKZ:=Hi hkz;have HLZ:Hid (Le w WZ):=Hi (Below.trans HLK.out (hkz.below (by have:=HBW.out;omega) HLK.out.size));clear hz hkz;go_wp2
  refine bodyPost_ret (Bx (x:=⟨tt,.slice B1 nn c0,.slice none 0 0,.slice none 0 0,y,.slice none 0 0,0,.slice none 0 0,.slice none 0 0,.slice none 0 0,.slice none 0 0,0⟩) rfl HZ.out rfl) rfl ⟨⟨tt,.slice B1 nn c0,.slice none 0 0,.slice none 0 0,y,.slice none 0 0,0,.slice none 0 0,.slice none 0 0,.slice none 0 0,.slice none 0 0,0⟩,rfl,HLZ.out,?_⟩;have hN:=HX.out.le HLZ.out
  have hU:Uz (fun g=>(ψ g∧g<w.heap.size)∨W2.heap.size≤g) WZ y v:=(HUZ.out.setH HGR.out (HV.all.trans rfl) HKPZ.out (fun g' hg'=>by have:=HPL.out;omega)).setH HRES.out Am.nou HKZ.out (fun g' hg'=>by have:=HPL.out;omega);have hNV:Bv WZ (.slice B1 nn c0) (nmT tt):=(HNV4.out.setH HGR.out (HV.all.trans rfl) HKPZ.out).setH HRES.out Am.nou HKZ.out
  have hnm:nmd ⟨tt,n,tx,d,u,ks,nu,pr,ve,tr,ho,po⟩ v={PH.zero with t:=tt,name:=nmT tt,uri:=v}:=by
   unfold nmd;dsimp only;rw[if_neg HARM.out.2.2.2.2.2,if_neg HARM.out.2.2.2.2.1,if_neg HARM.out.2.2.2.1,if_neg HARM.out.2.2.1,if_neg HARM.out.2.1,if_neg HARM.out.1]
  rw[hnm];exact⟨rfl,hNV,Bv.nil _,Bv.nil _,hU.imp (fun g hg=>by rcases hg with hg|hg;exact .inl hg.1;exact .inr (Nat.le_trans HLW2.out.size hg)),Kq.nil _ _,KO.nil _ _,rfl,Bv.nil _,Bv.nil _,Bv.nil _,Bv.nil _,rfl⟩
end Go.Proofs.YtejhpdcjafbklaaGreatDoor
