/- The law FnHeadWritten: Head. -/
import Derived.Deep.WholeRow
import Derived.Test.YtejhpdcjafbklaaGreatDoorUText
set_option linter.all false
set_option maxHeartbeats 4000000
set_option maxRecDepth 4000
namespace Go.Proofs.YtejhpdcjafbklaaGreatDoor
open Go.RowKit
theorem NK(φ:Nat→Prop)(w:World)(v:Value)(l:KVs)(hv:Kq φ w v l)(hl:∀x∈l,x.1.length≤1099511627776∧x.2.length≤1099511627776)(h0:l.length≤1099511627775):
 Calls Tryz.prog 68 #[v] w fun e w'=>∃v',e= .returned v'∧Hp w' v' l∧w'.ownsRow w.heap.size 172 2 v' l.length (BO l)∧Le w w':=by
 obtain⟨A,c,rfl,hc1,hc2,hln,hr⟩:=hv;have HM:=Hi hl;clear hl;go_enter Tryz.func68,Tryz.ntmps68;go_wp2
 go_loopg [3,8] (l.length) (fun n sv i wr=>∃(k:Nat),n+k=l.length∧i= .int .i64 k∧Le w wr∧wr.ownsRow w.heap.size 172 2 sv k (BO (l.take k)))
 case atStart=>exact⟨0,by omega,rfl,AC w,World.ownsRow_nil _ _ _ _⟩
 case round=>
  obtain⟨k,hn,rfl,hle,hown⟩:=hrel;have HOWN:=Hi hown;have HLE:=Hi hle;have HN:gk+k≤l.length∧l.length≤gk+k:=by omega
  clear hn hown;by_cases hlt:k<l.length
  ·obtain⟨g,o,rfl,hg,hcells⟩:=hr (by omega);obtain⟨x,y,hx,hy,hbx,hby⟩:=hcells k hlt;have d1:=Le.cell hle hx;have d2:=Le.cell hle hy;clear hcells hg hr hx hy;have hbx2:=hbx.1.le hle;have hby2:=hby.1.le hle;obtain⟨A1,n1,c1,e1⟩:∃A n c,x= .slice A n c:=by obtain⟨A,c,e,_⟩:=hbx2;exact⟨A,_,c,e⟩
   obtain⟨A2,n2,c2,e2⟩:∃A n c,y= .slice A n c:=by obtain⟨A,c,e,_⟩:=hby2;exact⟨A,_,c,e⟩
   subst e1 e2;have q1:=BT (P:=Tryz.prog) Tryz.underlying22 Tryz.underlying5 Tryz.underlying9 (hbx2.le ((AC wr).alloc (Obj.cells #[.slice A1 n1 c1,.slice A2 n2 c2] 69)));have q2:=BT (P:=Tryz.prog) Tryz.underlying22 Tryz.underlying5 Tryz.underlying9 (hby2.le ((AC wr).alloc (Obj.cells #[.slice A1 n1 c1,.slice A2 n2 c2] 69)));have HSZ:=Hi hle.size
   have HOWN2:=Hi (Ds HOWN.out ((AC wr).alloc (Obj.cells #[.slice A1 n1 c1,.slice A2 n2 c2] 69)));clear hle hbx hby hbx2 hby2;obtain⟨i0,hi0,hz0,hz1,hz2⟩:=info_parts IU
   go_wp2_with (at_builtin;refine wpList_append_lies _ rfl _ _ 82 rfl w.heap.size 172 i0 (.agg #[.string ⟨#[]⟩,.string ⟨#[]⟩]) 2 32 Tryz.underlying82 hi0 hz0 hz1 hz2 rfl (by decide) _ _ _ rfl (HOWN2.out.alloc _) ⟨wr.heap.size+1,0,none⟩ 1 1 [.string (st l[k].1),.string (st l[k].2)] rfl rfl ?c1 ?c2 ?c3 ?c4 ?c5 ?c6 (wr.heap.size+1+1) ?c7 ?_)
   case c1=>exact World.news_of_block (by have:=heap_alloc2_new wr (Obj.cells #[.slice A1 n1 c1,.slice A2 n2 c2] 69);exact this _)
   case c2=>intro u hu;simp only[List.mem_cons,List.mem_nil_iff,or_false]at hu;rcases hu with rfl|rfl<;>rfl
   case c3=>omega
   case c4=>unfold maxLen;omega
   case c5=>omega
   case c6=>have:=HSZ.out;simp;omega
   case c7=>simp
   intro g2 cap2 w2 hown2 hgrow2 hat2 hlt2;have hrow:=AK HOWN2.out;have HLE3:Hid (Le w w2):=Hi (Below.grown' ((HLE.out.alloc _).alloc _) hgrow2 (NL _) (fun g hg=>(hrow g hg).1));have HT:Hid (BO (l.take (k+1))=BO (l.take k)++[.string (st l[k].1),.string (st l[k].2)]):=Hi (by rw[List.take_succ_eq_append_getElem hlt,Dt];rfl);have HOWN3:=Hi hown2
   clear hown2 hgrow2 hat2 hlt2 hrow q1 q2 d1 d2;go_wp2;go_roundg (gk-1)
   case measure=>omega
   case rel=>exact⟨k+1,by omega,by go_num,HLE3.out,by rw[HT.out];exact HOWN3.out⟩
  ·clear hr hle;go_wp2;go_ret;have hk:l.take k=l:=List.take_of_length_le (by omega);have h2:=HOWN.out;rw[hk]at h2;obtain rfl:k=l.length:=by omega
   exact⟨_,rfl,Hp.of_own h2 (by omega) HM.out,h2,HLE.out⟩
def adS(b:Nat)(u:PU)(x:UV):Nat→Value→World→Prop
 |1,v,_=>v= .pointer (some ⟨b,0,none⟩)
 |2,v,_=>v= .pointer (some ⟨b+1,0,none⟩)
 |18,v,_=>v= .pointer (some ⟨b,0,none⟩)
 |19,v,_=>v=x.scheme
 |20,v,_=>v= .string (st u.scheme)
 |21,v,_=>v= .pointer (some ⟨b,2,none⟩)
 |22,v,_=>v= .bool u.wild
 |23,v,_=>v= .pointer (some ⟨b,3,none⟩)
 |24,v,_=>v= .bool u.slash
 |25,v,_=>v= .pointer (some ⟨b,4,none⟩)
 |26,v,_=>v=x.user
 |27,v,_=>v= .string (st u.user)
 |28,v,_=>v= .pointer (some ⟨b,5,none⟩)
 |29,v,_=>v=x.pass
 |30,v,_=>v= .string (st u.pass)
 |31,v,_=>v= .pointer (some ⟨b,6,none⟩)
 |32,v,_=>v=x.host
 |33,v,_=>v= .string (st u.host)
 |34,v,_=>v= .pointer (some ⟨b,7,none⟩)
 |35,v,_=>v= .int .i64 u.port
 |36,v,_=>v= .pointer (some ⟨b,8,none⟩)
 |37,v,_=>v=x.ps
 |38,v,w=>Hp w v u.ps
 |39,v,_=>v= .pointer (some ⟨b,9,none⟩)
 |40,v,_=>v=x.hs
 |41,v,w=>Hp w v u.hs
 |42,v,w=>∃pv hv,v= .agg (u.cells pv hv)∧Hp w pv u.ps∧Hp w hv u.hs
 |_,_,_=>True
theorem MZ(b:Nat)(u:PU)(x:UV)(t:Nat)(v:Value)(w w':World)(k:∀v l,Hp w v l→Hp w' v l)(h:adS b u x t v w):adS b u x t v w':=by
 unfold adS at h⊢;split at h<;>first|exact h|exact k _ _ h|skip
 ·obtain⟨pv,hv,e,h1,h2⟩:=h;exact⟨pv,hv,e,k _ _ h1,k _ _ h2⟩
def adZ(b:Nat)(u:PU)(j:Nat)(w:World):Prop:=∃pv hv,w.heap[b+1]? =some (.cells (u.cells pv hv) 84 (0,0))∧Hp w pv u.ps∧Hp w hv u.hs
def adG(w0:World)(b:Nat)(x:UV)(w:World):Prop:=
 Kp (b+1) w0 w∧w.heap[b]? =some (.cells x.row 25 (0,0))∧(∃cs,cs.size=10∧w.heap[b+1]? =some (.cells cs 84 (0,0)))
theorem RV{w0:World}{b:Nat}{x:UV}(w w':World)(k:Le w w')(h:adG w0 b x w):adG w0 b x w':=by
 obtain⟨h1,h2,cs,h3,h4⟩:=h;exact⟨h1.le k,k.heap h2,cs,h3,k.heap h4⟩
theorem Uq.at_{φ:Nat→Prop}{w W:World}{x:UV}{u:PU}(h:Uq φ w x u){o1 o2:Obj}(k:Kp (w.heap.size+1) ((w.alloc o1).alloc o2) W):Uq φ W x u:=
 h.keep fun g _ hg=>(k.block g (by simp;omega) (by intro e;injection e with e;omega)).trans ((Below.heap_alloc _ _ _ (by simp;omega)).trans (Below.heap_alloc _ _ _ hg))
theorem F3(φ:Nat→Prop)(w:World)(x:UV)(u:PU)(hx:Uq φ w x u)(hs:u.small)(hr:u.raw=[])
 (hp:KSm 1099511627775 u.ps)(hh:KSm 1099511627775 u.hs):
 Calls Tryz.prog 42 #[x.val] w fun e w'=>∃pv hv,e= .returned (.agg (u.cells pv hv))∧Hp w' pv u.ps∧Hp w' hv u.hs∧Le w w':=by
 have HX:=Hi hx;have HS:=Hi hs;have HPS:=Hi hp;have HHS:=Hi hh;have hW:x.wild=u.wild:=hx.wild;have hSl:x.slash=u.slash:=hx.slash;have hPo:x.port=u.port:=hx.port;have hraw:∃A c,x.raw= .slice A 0 c:=by
  obtain⟨⟨A,c,e,_⟩,_⟩:=hx.raw;rw[hr]at e;exact⟨A,c,e⟩
 obtain⟨Ar,cr,er⟩:=hraw;have hone:=hx.one;obtain⟨sA,sn,sc,es⟩:∃A n c,x.scheme= .slice A n c:=by obtain⟨⟨A,c,e,_⟩,_⟩:=hx.scheme;exact⟨A,_,c,e⟩
 obtain⟨uA,un,uc,eu⟩:∃A n c,x.user= .slice A n c:=by obtain⟨⟨A,c,e,_⟩,_⟩:=hx.user;exact⟨A,_,c,e⟩
 obtain⟨pA,pn,pc,ep⟩:∃A n c,x.pass= .slice A n c:=by obtain⟨⟨A,c,e,_⟩,_⟩:=hx.pass;exact⟨A,_,c,e⟩
 obtain⟨hA,hn,hc,eh⟩:∃A n c,x.host= .slice A n c:=by obtain⟨⟨A,c,e,_⟩,_⟩:=hx.host;exact⟨A,_,c,e⟩
 obtain⟨kA,kn,kc,ek⟩:∃A n c,x.ps= .slice A n c:=by obtain⟨A,c,e,_⟩:=hx.ps;exact⟨A,_,c,e⟩
 obtain⟨jA,jn,jc,ej⟩:∃A n c,x.hs= .slice A n c:=by obtain⟨A,c,e,_⟩:=hx.hs;exact⟨A,_,c,e⟩
 have hval:x.val= .agg #[.slice sA sn sc,.slice Ar 0 cr,.bool u.wild,.bool u.slash,.slice uA un uc,.slice pA pn pc,.slice hA hn hc,.int .i64 u.port,.slice kA kn kc,.slice jA jn jc]:=by
  unfold UV.val;rw[es,er,hW,hSl,eu,ep,eh,hPo,ek,ej]
 have hrow:Hid (x.row= #[.slice sA sn sc,.slice Ar 0 cr,.bool u.wild,.bool u.slash,.slice uA un uc,.slice pA pn pc,.slice hA hn hc,.int .i64 u.port,.slice kA kn kc,.slice jA jn jc]):=Hi (by
  unfold UV.row;rw[es,er,hW,hSl,eu,ep,eh,hPo,ek,ej])
 have HE:=Hi (⟨es,eu,ep,eh,ek,ej⟩:_∧_∧_∧_∧_∧_);have HR:=Hi hr;rw[hval];clear hval hx hs hp hh hW hSl hPo er hone es eu ep eh ek ej hr;go_enter Tryz.func42,Tryz.ntmps42;go_wp2;rw[←hrow.out];have hm:(Tryz.prog).follows .mixedOrders=true:=by kernel_rfl
 have hGl:=RV (w0:=((w.alloc (Obj.cells x.row 25)).alloc (Obj.cells #[.string ⟨#[]⟩,.string ⟨#[]⟩,.bool false,.bool false,.string ⟨#[]⟩,.string ⟨#[]⟩,.string ⟨#[]⟩,.int .i64 0,.slice none 0 0,.slice none 0 0] 84))) (b:=w.heap.size) (x:=x)
 refine Bk (adS w.heap.size u x) (adZ w.heap.size u) (adG ((w.alloc (Obj.cells x.row 25)).alloc (Obj.cells #[.string ⟨#[]⟩,.string ⟨#[]⟩,.bool false,.bool false,.string ⟨#[]⟩,.string ⟨#[]⟩,.string ⟨#[]⟩,.int .i64 0,.slice none 0 0,.slice none 0 0] 84)) w.heap.size x) 43 hm (by kernel_rfl) rfl rfl ?hG [0,1,2,3,4,5,6,7,8,9,10,11,12,13,14,15,16,17] (by kernel_rfl) ?hold ?hs ?hend
 case hG=>exact⟨(Kp.refl _ _).le (AC _).drew,heap_alloc2_old w _ _,_,by rfl,heap_alloc2_new w _ _⟩
 case hold=>
  intro t ht;simp only[List.mem_cons,List.mem_nil_iff,or_false]at ht;rcases ht with rfl|rfl|rfl|rfl|rfl|rfl|rfl|rfl|rfl|rfl|rfl|rfl|rfl|rfl|rfl|rfl|rfl|rfl<;>first|exact trivial|rfl
 case hs=>
  refine⟨?_,?_,?_,?_,?_,?_,?_,?_,?_,?_,?_,?_,?_,?_,?_,?_,?_,?_,?_,?_,?_,?_,?_,?_,?_,?_,trivial⟩
  ·refine AA fun a W hg hop=>?_;have h1:_=_:=hq hop 1;refine⟨_,?_,rfl⟩;simp only[execOp,h1];go_simp
  ·refine AA fun a W hg hop=>?_;have h1:_=_:=hq hop 18;have h2:W.cell? ⟨w.heap.size,0,none⟩=some (.slice sA sn sc):=by rw[AB hg.2.1 0,hrow.out];rfl
   refine⟨.slice sA sn sc,?_,(show Value.slice sA sn sc=x.scheme from HE.out.1.symm)⟩;simp only[execOp,h1];go_simp
  ·refine AA fun a W hg hop=>?_;have h0:_=_:=hq hop 19;have h1:=h0.trans HE.out.1;have hq:=BT (P:=Tryz.prog) Tryz.underlying22 Tryz.underlying5 Tryz.underlying9 (HX.out.at_ hg.1).scheme.1;rw[HE.out.1]at hq;refine⟨_,?_,rfl⟩;simp only[execOp,h1];go_simp
  ·refine AA fun a W hg hop=>?_;have h1:_=_:=hq hop 1;refine⟨_,?_,rfl⟩;simp only[execOp,h1];go_simp
  ·refine AA fun a W hg hop=>?_;have h1:_=_:=hq hop 21;have h2:W.cell? ⟨w.heap.size,2,none⟩=some (.bool u.wild):=by rw[AB hg.2.1 2,hrow.out];rfl
   refine⟨_,?_,rfl⟩;simp only[execOp,h1];go_simp
  ·refine AA fun a W hg hop=>?_;have h1:_=_:=hq hop 1;refine⟨_,?_,rfl⟩;simp only[execOp,h1];go_simp
  ·refine AA fun a W hg hop=>?_;have h1:_=_:=hq hop 23;have h2:W.cell? ⟨w.heap.size,3,none⟩=some (.bool u.slash):=by rw[AB hg.2.1 3,hrow.out];rfl
   refine⟨_,?_,rfl⟩;simp only[execOp,h1];go_simp
  ·refine AA fun a W hg hop=>?_;have h1:_=_:=hq hop 1;refine⟨_,?_,rfl⟩;simp only[execOp,h1];go_simp
  ·refine AA fun a W hg hop=>?_;have h1:_=_:=hq hop 25;have h2:W.cell? ⟨w.heap.size,4,none⟩=some (.slice uA un uc):=by rw[AB hg.2.1 4,hrow.out];rfl
   refine⟨.slice uA un uc,?_,(show Value.slice uA un uc=x.user from HE.out.2.1.symm)⟩;simp only[execOp,h1];go_simp
  ·refine AA fun a W hg hop=>?_;have h0:_=_:=hq hop 26;have h1:=h0.trans HE.out.2.1;have hq:=BT (P:=Tryz.prog) Tryz.underlying22 Tryz.underlying5 Tryz.underlying9 (HX.out.at_ hg.1).user.1;rw[HE.out.2.1]at hq;refine⟨_,?_,rfl⟩;simp only[execOp,h1];go_simp
  ·refine AA fun a W hg hop=>?_;have h1:_=_:=hq hop 1;refine⟨_,?_,rfl⟩;simp only[execOp,h1];go_simp
  ·refine AA fun a W hg hop=>?_;have h1:_=_:=hq hop 28;have h2:W.cell? ⟨w.heap.size,5,none⟩=some (.slice pA pn pc):=by rw[AB hg.2.1 5,hrow.out];rfl
   refine⟨.slice pA pn pc,?_,(show Value.slice pA pn pc=x.pass from HE.out.2.2.1.symm)⟩;simp only[execOp,h1];go_simp
  ·refine AA fun a W hg hop=>?_;have h0:_=_:=hq hop 29;have h1:=h0.trans HE.out.2.2.1;have hq:=BT (P:=Tryz.prog) Tryz.underlying22 Tryz.underlying5 Tryz.underlying9 (HX.out.at_ hg.1).pass.1;rw[HE.out.2.2.1]at hq;refine⟨_,?_,rfl⟩;simp only[execOp,h1];go_simp
  ·refine AA fun a W hg hop=>?_;have h1:_=_:=hq hop 1;refine⟨_,?_,rfl⟩;simp only[execOp,h1];go_simp
  ·refine AA fun a W hg hop=>?_;have h1:_=_:=hq hop 31;have h2:W.cell? ⟨w.heap.size,6,none⟩=some (.slice hA hn hc):=by rw[AB hg.2.1 6,hrow.out];rfl
   refine⟨.slice hA hn hc,?_,(show Value.slice hA hn hc=x.host from HE.out.2.2.2.1.symm)⟩;simp only[execOp,h1];go_simp
  ·refine AA fun a W hg hop=>?_;have h0:_=_:=hq hop 32;have h1:=h0.trans HE.out.2.2.2.1;have hq:=BT (P:=Tryz.prog) Tryz.underlying22 Tryz.underlying5 Tryz.underlying9 (HX.out.at_ hg.1).host.1;rw[HE.out.2.2.2.1]at hq;refine⟨_,?_,rfl⟩;simp only[execOp,h1];go_simp
  ·refine AA fun a W hg hop=>?_;have h1:_=_:=hq hop 1;refine⟨_,?_,rfl⟩;simp only[execOp,h1];go_simp
  ·refine AA fun a W hg hop=>?_;have h1:_=_:=hq hop 34;have h2:W.cell? ⟨w.heap.size,7,none⟩=some (.int .i64 u.port):=by rw[AB hg.2.1 7,hrow.out];rfl
   refine⟨_,?_,rfl⟩;simp only[execOp,h1];go_simp
  ·refine AA fun a W hg hop=>?_;have h1:_=_:=hq hop 1;refine⟨_,?_,rfl⟩;simp only[execOp,h1];go_simp
  ·refine AA fun a W hg hop=>?_;have h1:_=_:=hq hop 36;have h2:W.cell? ⟨w.heap.size,8,none⟩=some (.slice kA kn kc):=by rw[AB hg.2.1 8,hrow.out];rfl
   refine⟨.slice kA kn kc,?_,(show Value.slice kA kn kc=x.ps from HE.out.2.2.2.2.1.symm)⟩;simp only[execOp,h1];go_simp
  ·refine AG ?_ ?_ ?_ ?_
   ·exact fun t u' w1 w2 k h=>MZ _ _ _ t u' w1 w2 (fun v l h=>h.le k) h
   ·exact fun j w1 w2 k ⟨pv,hv,e,h1,h2⟩=>⟨pv,hv,k.heap e,h1.le k,h2.le k⟩
   ·exact hGl
   intro a W hg hop;have h0:_=_:=hq hop 37;have h1':=tg h0;refine⟨68,#[x.ps],?_,(NK φ W x.ps u.ps (HX.out.at_ hg.1).ps HPS.out.2 HPS.out.1).mono ?_⟩
   ·simp only[execOp,h0];go_simp
   ·rintro e w' ⟨v',rfl,hk,_,hle⟩;exact⟨v',rfl,hle,hk⟩
  ·refine AA fun a W hg hop=>?_;have h1:_=_:=hq hop 1;refine⟨_,?_,rfl⟩;simp only[execOp,h1];go_simp
  ·refine AA fun a W hg hop=>?_;have h1:_=_:=hq hop 39;have h2:W.cell? ⟨w.heap.size,9,none⟩=some (.slice jA jn jc):=by rw[AB hg.2.1 9,hrow.out];rfl
   refine⟨.slice jA jn jc,?_,(show Value.slice jA jn jc=x.hs from HE.out.2.2.2.2.2.symm)⟩;simp only[execOp,h1];go_simp
  ·refine AG ?_ ?_ ?_ ?_
   ·exact fun t u' w1 w2 k h=>MZ _ _ _ t u' w1 w2 (fun v l h=>h.le k) h
   ·exact fun j w1 w2 k ⟨pv,hv,e,h1,h2⟩=>⟨pv,hv,k.heap e,h1.le k,h2.le k⟩
   ·exact hGl
   intro a W hg hop;have h0:_=_:=hq hop 40;have h1':=tg h0;refine⟨68,#[x.hs],?_,(NK φ W x.hs u.hs (HX.out.at_ hg.1).hs HHS.out.2 HHS.out.1).mono ?_⟩
   ·simp only[execOp,h0];go_simp
   ·rintro e w' ⟨v',rfl,hk,_,hle⟩;exact⟨v',rfl,hle,hk⟩
  ·refine AA fun a W hg hop=>?_;have k20:_=_:=hq hop 20;have d20:=tg k20;have k22:_=_:=hq hop 22;have d22:=tg k22;have k24:_=_:=hq hop 24;have d24:=tg k24;have k27:_=_:=hq hop 27;have d27:=tg k27;have k30:_=_:=hq hop 30;have d30:=tg k30;have k33:_=_:=hq hop 33;have d33:=tg k33;have k35:_=_:=hq hop 35;have d35:=tg k35;have k38:Hp W (a.eval (.tmp 38)) u.ps:=hq hop 38
   obtain⟨A38,c38,e38,_⟩:=id k38;rw[e38]at k38;have d38:=tg e38;have k41:Hp W (a.eval (.tmp 41)) u.hs:=hq hop 41;obtain⟨A41,c41,e41,_⟩:=id k41;rw[e41]at k41;have d41:=tg e41;refine⟨_,?_,⟨_,_,rfl,k38,k41⟩⟩;clear k20 k22 k24 k27 k30 k33 k35 k38 k41 e38 e41;have hr0:=HR.out;simp only[execOp];go_simp
   (try unfold PU.cells;rw[hr0];rfl)
  ·refine GrowStep.store ?_ rfl;intro a W hg hop;have h1:_=_:=hq hop 2;obtain⟨pv,hv,h2,hp1,hp2⟩:∃pv hv,a.eval (.tmp 42)= .agg (u.cells pv hv)∧Hp W pv u.ps∧Hp W hv u.hs:=hq hop 42;obtain⟨h3,h4,cs,h5,h6⟩:=hg;have hk:=Bd W (w.heap.size+1) (u.cells pv hv)
   have hone:(u.cells pv hv).all (·.oneCell')=true:=by
    obtain⟨A,c,rfl,_⟩:=hp1;obtain⟨A',c',rfl,_⟩:=hp2;unfold PU.cells;simp only[List.all_toArray,List.all_cons,List.all_nil];rfl
   have hkp:∀v l,Hp W v l→Hp (W.setRow (w.heap.size+1) (u.cells pv hv)) v l:=fun v l h=>h.kp hk h6 (by decide);refine⟨W.setRow (w.heap.size+1) (u.cells pv hv),?_,⟨h3.trans hk,(setRow_other W _ _ _ (by omega)).trans h4,u.cells pv hv,rfl,setRow_heap W _ _ _ _ _ h6⟩,fun t v hv=>MZ _ _ _ t v W _ hkp hv,?_,pv,hv,setRow_heap W _ _ _ _ _ h6,hkp _ _ hp1,hkp _ _ hp2⟩
   ·have hs:=run_storeVar_row (P:=Tryz.prog) W (w.heap.size+1) 84 84 cs (u.cells pv hv) h6 BZ h5 hone;simp only[execOp,h1,h2,Instr.storeAt,Instr.sureAddr,Sem.run_bind,Sem.run_pure,Result.andThen,hs]
   ·intro j _ _;exact⟨pv,hv,setRow_heap W _ _ _ _ _ h6,hkp _ _ hp1,hkp _ _ hp2⟩
 case hend=>
  intro a' w' hg hd hn hS hZ;obtain⟨pv,hv,hx1,hp1,hp2⟩:=hZ 25 _ rfl rfl;have h2:a'.eval (.tmp 2)= .pointer (some ⟨w.heap.size+1,0,none⟩):=hS 2 (by decide);have HG:=Hi hg;clear hS hZ hg;go_wp2
  (try simp only[Exit.inBlock,Exit.then])
  refine bodyPost_ret (results_cell_row rfl _ _ (w.heap.size+1) 84 _ (0,0) _ h2 hx1 Tryz.underlying84 rfl BZ) hd ?_;refine⟨pv,hv,rfl,hp1,hp2,HG.out.1.os,HG.out.1.tape,HG.out.1.output,by have:=HG.out.1.size;simp at this;omega,fun k hk=>?_⟩
  exact(HG.out.1.block k (by simp;omega) (by intro e;injection e with e;omega)).trans ((Below.heap_alloc _ _ _ (by simp;omega)).trans (Below.heap_alloc _ _ _ hk))
end Go.Proofs.YtejhpdcjafbklaaGreatDoor
namespace Go.Proofs.YtejhpdcjafbklaaGreatDoor
open Go.RowKit
def B8(l:Tx):Prop:=∀x∈l,x≠58
theorem B8.no{l:Tx}(h:B8 l):∀k (h:k<(st l).size),(st l)[k]'h≠58:=by
 intro k hk;have h1:k<(bs (st l)).length:=by rw[BD];exact hk
 have h2:(st l)[k]'hk=(bs (st l))[k]:=Nk _ _ _;rw[h2];have hm:(bs (st l))[k]∈bs (st l):=List.getElem_mem h1;exact h _ (show(bs (st l))[k]∈l from hm)
theorem Mo(w:World)(b:Nat)(u:PU)(hu:UAt w b u)(hL:BW w)(hh:B8 u.host)
 (hlp:(u.ps.flatMap (Ae 59)).length≤1099511627776)(hlh:(u.hs.flatMap (Ae 38)).length≤1099511627776):
 Calls Tryz.prog 43 #[.pointer (some ⟨b,0,none⟩)] w fun e w'=>e= .returned (.string (st (BY u)))∧Le w w':=by
 have HU:=Hi hu;have HL:=Hi hL;have HH:=Hi hh;clear hu hL hh;go_enter Tryz.func43,Tryz.ntmps43;go_wp2_with fail
 refine(Jp w _ b w.heap.size u HU.out ⟨(AC w).alloc _,BR w⟩ HL.out HH.out.no hlp hlh).mono ?_;rintro e w2 ⟨rfl,hw2⟩;have HW2:=Hi hw2;clear hw2;go_wp2_with fail
 refine(Bj _ _ _ _ HW2.out.bld).mono ?_;rintro e w3 ⟨rfl,_,hf3⟩;have HL3:Hid (Le w w3):=Hi (Below.trans HW2.out.le hf3.1);clear hf3;go_wp2;go_ret;exact⟨rfl,HL3.out⟩
theorem Ki(u:PU)(hs:u.small)(hlp:(u.ps.flatMap (Ae 59)).length≤1099511627776)(hlh:(u.hs.flatMap (Ae 38)).length≤1099511627776):(BY u).length≤140737488355328:=by
 have h1:(I8 u).length≤1099511627776:=by
  unfold I8;split
  ·decide
  ·exact hs.1
 have h2:(CH u).length≤2199023255560:=by
  have a:=hs.2.2.1;have b:=hs.2.2.2.1;unfold CH;split
  ·simp
  ·split<;>simp only[LA,LC,LN]<;>omega
 have h3:=Lib.itoa_length_le u.port hs.2.2.2.2.2.1 hs.2.2.2.2.2.2;have h4:(Cg u).length≤22:=by
  unfold Cg;split
  ·simp only[LC];omega
  ·simp
 have h5:(uSl u).length≤2:=by unfold uSl;split<;>simp
 have h6:(uPs u.ps 59 59).length≤1099511627777:=by
  unfold uPs AZ;split
  ·simp
  ·simp only[LC,List.length_drop];omega
 have h7:(uPs u.hs 63 38).length≤1099511627777:=by
  unfold uPs AZ;split
  ·simp
  ·simp only[LC,List.length_drop];omega
 have h8:=hs.2.1;have h9:=hs.2.2.2.2.1;unfold BY;split<;>simp only[LA,LC]<;>omega
theorem KZ(φ:Nat→Prop)(w:World)(x:UV)(u:PU)(hx:Uq φ w x u)(hs:u.small)(hr:u.raw=[])(hL:BW w)(hh:B8 u.host)
 (hp:KSm 1099511627775 u.ps)(hq:KSm 1099511627775 u.hs)
 (hlp:(u.ps.flatMap (Ae 59)).length≤1099511627776)(hlh:(u.hs.flatMap (Ae 38)).length≤1099511627776):
 Calls Tryz.prog 24 #[x.val] w fun e w'=>∃v,e= .returned v∧Bq (w.heap.size≤·) w' v (BY u)∧Le w w':=by
 have HX:=Hi hx;have HS:=Hi hs;have HL:=Hi hL;have HH:=Hi hh;have HTL:=Hi (Ki u hs hlp hlh);have hval:Hid (x.val= .agg #[x.scheme,x.raw,.bool x.wild,.bool x.slash,x.user,x.pass,x.host,.int .i64 x.port,x.ps,x.hs]):=Hi rfl;clear hx hs hL hh;rw[hval.out];go_enter Tryz.func24,Tryz.ntmps24;go_wp2_with fail
 refine(F3 φ _ x u (HX.out.le ((AC w).alloc _)) HS.out hr hp hq).mono ?_;rintro e w2 ⟨pv,hv,rfl,h1,h2,hle2⟩;have HLE2:Hid (Le w w2):=Hi (Le.trans ((AC w).alloc _) hle2);have HP:=Hi h1;have HV:=Hi h2
 have hone:(u.cells pv hv).all (·.oneCell')=true:=by
  obtain⟨A,c,e1,_⟩:=h1;obtain⟨A',c',e2,_⟩:=h2;rw[e1,e2];unfold PU.cells;simp only[List.all_toArray,List.all_cons,List.all_nil];rfl
 have hst:=run_storeCells_new (P:=Tryz.prog) w2 84 #[.string ⟨#[]⟩,.string ⟨#[]⟩,.bool false,.bool false,.string ⟨#[]⟩,.string ⟨#[]⟩,.string ⟨#[]⟩,.int .i64 0,.slice none 0 0,.slice none 0 0] (u.cells pv hv) BZ rfl hone;clear h1 h2 hle2 hone;go_wp2_with fail
 have hle3:Le w (w2.alloc (Obj.cells (u.cells pv hv) 84)):=HLE2.out.alloc _;have hle4:Le w2 (w2.alloc (Obj.cells (u.cells pv hv) 84)):=(AC w2).alloc _;refine(Mo _ w2.heap.size u ⟨pv,hv,heap_alloc_new w2 _,HP.out.le hle4,HV.out.le hle4,HS.out⟩ (HL.out.le hle3) HH.out hlp hlh).mono ?_;rintro e w3 ⟨rfl,hle5⟩;have HLE3:Hid (Le w w3):=Hi (Le.trans hle3 hle5);clear hle3 hle4 hle5 hst
 obtain⟨B,c,W,q,le1,bt⟩:=AT (base:=w.heap.size) w3 (st (BY u)) HLE3.out.size (by rw[AF];exact HTL.out);rw[AV]at bt;have HB:=Hi bt;have HLE4:Hid (Le w W):=Hi (Le.trans HLE3.out le1);clear bt le1;go_wp2;go_ret;exact⟨_,rfl,⟨HB.out.1,fun g h=>(HB.out.2 g h).1⟩,HLE4.out⟩
end Go.Proofs.YtejhpdcjafbklaaGreatDoor
namespace Go.Proofs.YtejhpdcjafbklaaGreatDoor
open Go.RowKit
theorem Nc(w:World)(v:Value):Calls Tryz.prog 201 #[v] w fun e w'=>e= .returned (.string ⟨#[67,83,101,113]⟩)∧w'=w:=by
 go_enter Tryz.func201,Tryz.ntmps201;go_wp2;go_ret;exact⟨rfl,rfl⟩
def OQ(w:World)(b:Nat)(n:Nat)(m:Tx):Prop:=w.heap[b]? =some (.cells #[.int .u32 n,.string (st m)] 97 (0,0))
def Dp(n:Nat)(m:Tx):Tx:=Lib.itoa n++(32::m)
def ES(n:Nat)(m:Tx):Tx:=[67,83,101,113,58,32]++Dp n m
def csS(b bb:Nat)(n:Nat)(m:Tx):Nat→Value→World→Prop
 |0,v,_=>v=(Value.pointer (some ⟨b,0,none⟩))
 |1,v,_=>v=(Value.iface 127 (.pointer (some ⟨bb,0,none⟩)))
 |4,v,_=>v=(Value.iface 127 (.pointer (some ⟨bb,0,none⟩)))
 |5,v,_=>v=(Value.pointer (some ⟨b,0,none⟩))
 |6,v,_=>v=(Value.pointer (some ⟨b,0,none⟩))
 |7,v,_=>v=(Value.pointer (some ⟨b,0,none⟩))
 |8,v,_=>v=(Value.int .u32 n)
 |9,v,_=>v=(Value.int .i64 n)
 |10,v,_=>v=(Value.string (st (Lib.itoa n)))
 |11,v,_=>v=(Value.func (Fn.method "WriteString") #[(Value.iface 127 (.pointer (some ⟨bb,0,none⟩)))] #[])
 |12,v,_=>v=(Value.func (Fn.method "WriteString") #[(Value.iface 127 (.pointer (some ⟨bb,0,none⟩)))] #[])
 |13,v,_=>v=(Value.iface 127 (.pointer (some ⟨bb,0,none⟩)))
 |_,_,_=>True
def cvS(b bb:Nat)(n:Nat)(m:Tx):Nat→Value→World→Prop
 |0,v,_=>v=(Value.pointer (some ⟨b,0,none⟩))
 |3,v,_=>v=(Value.pointer (some ⟨b,0,none⟩))
 |4,v,_=>v=(Value.pointer (some ⟨b,0,none⟩))
 |5,v,_=>v=(Value.pointer (some ⟨b,0,none⟩))
 |6,v,_=>v=(Value.int .u32 n)
 |7,v,_=>v=(Value.int .i64 n)
 |8,v,_=>v=(Value.string (st (Lib.itoa n)))
 |9,v,_=>v=(Value.string (st (Lib.itoa n++[32])))
 |10,v,_=>v=(Value.pointer (some ⟨b,0,none⟩))
 |11,v,_=>v=(Value.pointer (some ⟨b,0,none⟩))
 |12,v,_=>v=(Value.pointer (some ⟨b,1,none⟩))
 |13,v,_=>v=(Value.string (st m))
 |14,v,_=>v=(Value.string (st (Dp n m)))
 |2,v,_=>v=(Value.string (st (Dp n m)))
 |_,_,_=>True
theorem RO(b bb:Nat)(n:Nat)(m:Tx)(t:Nat)(v:Value)(w w':World)(h:csS b bb n m t v w):csS b bb n m t v w':=by unfold csS at h⊢;split at h<;>exact h
theorem RN(b bb:Nat)(n:Nat)(m:Tx)(t:Nat)(v:Value)(w w':World)(h:cvS b bb n m t v w):cvS b bb n m t v w':=by unfold cvS at h⊢;split at h<;>exact h
theorem MK(w0 w:World)(b bb:Nat)(n:Nat)(m t0:Tx)(hb:OQ w0 b n m)(hw:UW w0 bb t0 w)(hL:BW w0)(hn:n<4294967296)(hm0:m.length≤1099511627776)(ht0:t0.length≤1000):
 Calls Tryz.prog 206 #[.pointer (some ⟨b,0,none⟩),.iface 127 (.pointer (some ⟨bb,0,none⟩))] w fun e w'=>e= .returned (.tuple #[])∧UW w0 bb (t0++Dp n m) w':=by
 have HB:=Hi hb;have HW0:=Hi hw;have HLAID:=Hi hL;have HIT:=Hi (Lib.itoa_length_le n (by omega) (by omega));have hna:∀(n:Nat) (w:World),(nilAhead (n+1) 127 (.pointer (some ⟨bb,0,none⟩)) "WriteString").run Tryz.prog w= .ok (some false) w:=fun n w=>by kernel_rfl
 clear hb hw hL;go_enter Tryz.func206,Tryz.ntmps206;go_wp2;have hm:(Tryz.prog).follows .mixedOrders=true:=by kernel_rfl
 refine wp_region_grow_tail (csS b bb n m) (UW w0 bb t0) 26 10 [4,5,6,7,8,9,10,11,12,13] hm (by kernel_rfl) rfl rfl (HW0.out.grow (AC _).drew) ?hold ?hs ?hend;case hold=>
  intro t ht;simp only[List.mem_cons,List.mem_nil_iff,or_false,not_or]at ht;unfold csS;split<;>first|rfl|trivial|(exfalso;simp at ht)
 case hs=>
  simp only[List.take_succ_cons,List.take_zero];refine⟨?_,?_,?_,?_,?_,?_,?_,?_,?_,?_,trivial⟩
  ·refine AA fun a W hg hop=>?_;have h1:_=_:=hq hop 1;refine⟨_,?_,rfl⟩;simp only[execOp,h1];go_simp
  ·refine AA fun a W hg hop=>?_;have h1:_=_:=hq hop 0;refine⟨_,?_,rfl⟩;simp only[execOp,h1];go_simp
  ·refine AA fun a W hg hop=>?_;have h1:_=_:=hq hop 5;refine⟨_,?_,rfl⟩;simp only[execOp,h1];go_simp
  ·refine AA fun a W hg hop=>?_;have h1:_=_:=hq hop 6;refine⟨_,?_,rfl⟩;simp only[execOp,h1];go_simp
  ·refine AA fun a W hg hop=>?_;have h1:_=_:=hq hop 7;have h2:W.cell? ⟨b,0,none⟩=some (Value.int .u32 n):=AB (hg.le.heap HB.out) 0;refine⟨_,?_,rfl⟩;simp only[execOp,h1];go_simp
  ·refine AA fun a W hg hop=>?_;have h1:_=_:=hq hop 8;refine⟨_,?_,rfl⟩;simp only[execOp,h1];go_simp;exact IntWalk.i64_in _ (by omega)
  ·refine AG ?_ ?_ ?_ ?_
   ·exact fun t u w w' _ h=>RO _ _ _ _ _ _ _ _ h
   ·exact fun _ _ _ _ h=>h
   ·exact fun w w' k h=>h.grow k
   intro a W hg hop;have h1:_=_:=hq hop 9;have h1':=tg h1;refine⟨92,#[(Value.int .i64 n)],?_,(Fl n W (by omega) (by omega) (HLAID.out.le hg.le)).mono ?_⟩
   ·simp only[execOp,h1];go_simp
   ·rintro e w' ⟨rfl,hle⟩;exact⟨_,rfl,hle,rfl⟩
  ·refine AA fun a W hg hop=>?_;have h1:_=_:=hq hop 4;have h1':=tg h1;refine⟨_,?_,rfl⟩;simp only[execOp];go_simp
  ·refine AA fun a W hg hop=>?_;have h1:_=_:=hq hop 11;refine⟨_,?_,rfl⟩;simp only[execOp,h1];go_simp
  ·refine AA fun a W hg hop=>?_;have h1:_=_:=hq hop 4;refine⟨_,?_,rfl⟩;simp only[execOp,h1];go_simp
 case hend=>
  intro v wt hG hS;have HWt:=Hi hG;have v4:v 4=(Value.iface 127 (.pointer (some ⟨bb,0,none⟩))):=hS 4 (by simp);have v5:v 5=(Value.pointer (some ⟨b,0,none⟩)):=hS 5 (by simp);have v6:v 6=(Value.pointer (some ⟨b,0,none⟩)):=hS 6 (by simp);have v7:v 7=(Value.pointer (some ⟨b,0,none⟩)):=hS 7 (by simp);have v8:v 8=(Value.int .u32 n):=hS 8 (by simp);have v9:v 9=(Value.int .i64 n):=hS 9 (by simp)
  have v10:v 10=(Value.string (st (Lib.itoa n))):=hS 10 (by simp);have v11:v 11=(Value.func (Fn.method "WriteString") #[(Value.iface 127 (.pointer (some ⟨bb,0,none⟩)))] #[]):=hS 11 (by simp);have v12:v 12=(Value.func (Fn.method "WriteString") #[(Value.iface 127 (.pointer (some ⟨bb,0,none⟩)))] #[]):=hS 12 (by simp);have v13:v 13=(Value.iface 127 (.pointer (some ⟨bb,0,none⟩))):=hS 13 (by simp)
  clear hS hG;simp only[Aj,v4,v5,v6,v7,v8,v9,v10,v11,v12,v13,Act.put,List.setIfInBounds_toArray,List.set_cons_zero,List.set_cons_succ,List.drop_succ_cons,List.drop_zero];clear v4 v5 v6 v7 v8 v9 v10 v11 v12 v13;go_wp2_with fail
  refine(HWt.out.ws (st (Lib.itoa n)) (by have hz:=HIT.out;simp only[LA,LC,LN,AF];(try simp only[ByteArray.size,List.size_toArray,LC,LN]);omega)).mono ?_;rintro e w1 ⟨rfl,hw1⟩;have HW1:Hid (UW w0 bb (t0++Lib.itoa n) w1):=Hi hw1;clear hw1;go_wp2_with fail
  refine(HW1.out.ws ⟨#[32]⟩ (by have hz:=HIT.out;simp only[LA,LC,LN,AF];(try simp only[ByteArray.size,List.size_toArray,LC,LN]);omega)).mono ?_;rintro e w2 ⟨rfl,hw2⟩;have HW2:Hid (UW w0 bb (t0++Lib.itoa n++[32]) w2):=Hi hw2;have g1:w2.cell? ⟨b,1,none⟩=some (.string (st m)):=AB (hw2.le.heap HB.out) 1;clear hw2
  go_wp2;go_still_tail 8,(by kernel_rfl)
  change wpList _ _ _ _ _ (World.drew _);have HWd:=Hi (HW2.out.grow (AC _).drew);generalize World.drew _=wd at HWd⊢;go_wp2_with fail
  refine(HWd.out.ws (st m) (by have hz:=HIT.out;simp only[LA,LC,LN,AF];(try simp only[ByteArray.size,List.size_toArray,LC,LN]);omega)).mono ?_;rintro e w3 ⟨rfl,hw3⟩;have HW3:Hid (UW w0 bb (t0++Lib.itoa n++[32]++m) w3):=Hi hw3;clear hw3;go_wp2
  go_returns
  refine⟨rfl,?_⟩;have h:=HW3.out;unfold Dp;simp only[List.append_assoc,List.cons_append,List.nil_append]at h⊢;exact h
theorem RP(w0 w:World)(b bb:Nat)(n:Nat)(m:Tx)(hb:OQ w0 b n m)(hw:UW w0 bb [] w)(hL:BW w0)(hn:n<4294967296)(hm0:m.length≤1099511627776):
 Calls Tryz.prog 203 #[.pointer (some ⟨b,0,none⟩),.iface 127 (.pointer (some ⟨bb,0,none⟩))] w fun e w'=>e= .returned (.tuple #[])∧UW w0 bb (ES n m) w':=by
 have HB:=Hi hb;have HW0:=Hi hw;have HLAID:=Hi hL;have hna:∀(n:Nat) (w:World),(nilAhead (n+1) 127 (.pointer (some ⟨bb,0,none⟩)) "WriteString").run Tryz.prog w= .ok (some false) w:=fun n w=>by kernel_rfl
 clear hb hw hL;go_enter Tryz.func203,Tryz.ntmps203;go_wp2;go_still_tail 6,(by kernel_rfl)
 still_call (Nc _ _)
 repeat still_step
 refine wpStill_nil ?_;change wpList _ _ _ _ _ (World.drew _);have HWd:=Hi (HW0.out.grow (AC _).drew);generalize World.drew _=wd at HWd⊢;go_wp2_with fail
 refine(HWd.out.ws ⟨#[67,83,101,113]⟩ (by decide)).mono ?_;rintro e w1 ⟨rfl,hw1⟩;have HW1:Hid (UW w0 bb [67,83,101,113] w1):=Hi hw1;clear hw1;go_wp2_with fail
 refine(HW1.out.ws ⟨#[58,32]⟩ (by decide)).mono ?_;rintro e w2 ⟨rfl,hw2⟩;have HW2:Hid (UW w0 bb [67,83,101,113,58,32] w2):=Hi hw2;clear hw2;go_wp2_with fail
 refine(MK w0 _ b bb n m _ HB.out HW2.out HLAID.out hn hm0 (by decide)).mono ?_;rintro e w3 ⟨rfl,hw3⟩;have HW3:Hid (UW w0 bb (ES n m) w3):=Hi hw3;clear hw3;go_wp2
 go_returns
 exact⟨rfl,HW3.out⟩
theorem GU(w:World)(b:Nat)(n:Nat)(m:Tx)(hb:OQ w b n m)(hL:BW w)(hn:n<4294967296)(hm0:m.length≤1099511627776):
 Calls Tryz.prog 202 #[.pointer (some ⟨b,0,none⟩)] w fun e w'=>e= .returned (.string (st (ES n m)))∧Le w w':=by
 have HB:=Hi hb;have HL:=Hi hL;clear hb hL;go_enter Tryz.func202,Tryz.ntmps202;go_wp2_with fail
 refine(RP w _ b w.heap.size n m HB.out ⟨(AC w).alloc _,BR w⟩ HL.out hn hm0).mono ?_;rintro e w2 ⟨rfl,hw2⟩;have HW2:=Hi hw2;clear hw2;go_wp2_with fail
 refine(Bj _ _ _ _ HW2.out.bld).mono ?_;rintro e w3 ⟨rfl,_,hf3⟩;have HL3:Hid (Le w w3):=Hi (Below.trans HW2.out.le hf3.1);clear hf3;go_wp2;go_ret;exact⟨rfl,HL3.out⟩
theorem GG(a b:Tx):st a++st b=st (a++b):=by
 apply MM;rw[AV];show(st a++st b).data.toList=_;rw[ByteArray.data_append];simp[st]
theorem Hr(w:World)(b:Nat)(n:Nat)(m:Tx)(hb:OQ w b n m)(hL:BW w)(hn:n<4294967296)(hm0:m.length≤1099511627776):
 Calls Tryz.prog 204 #[.pointer (some ⟨b,0,none⟩)] w fun e w'=>e= .returned (.string (st (Dp n m)))∧Le w w':=by
 have HB:=Hi hb;have HL:=Hi hL;have HIT:=Hi (Lib.itoa_length_le n (by omega) (by omega));clear hb hL;go_enter Tryz.func204,Tryz.ntmps204;go_wp2;have hm:(Tryz.prog).follows .mixedOrders=true:=by kernel_rfl
 refine Bk (cvS b 0 n m) (fun _ _=>True) (Le w) 15 hm (by kernel_rfl) rfl rfl ((AC w).drew) [0,1] (by kernel_rfl) ?hold ?hs ?hend;case hold=>
  intro t ht;simp only[List.mem_cons,List.mem_nil_iff,or_false]at ht;rcases ht with rfl|rfl<;>first|exact trivial|rfl
 case hs=>
  refine⟨?_,?_,?_,?_,?_,?_,?_,?_,?_,?_,?_,?_,?_,trivial⟩
  ·refine AA fun a W hg hop=>?_;have h1:_=_:=hq hop 0;refine⟨_,?_,rfl⟩;simp only[execOp,h1];go_simp
  ·refine AA fun a W hg hop=>?_;have h1:_=_:=hq hop 3;refine⟨_,?_,rfl⟩;simp only[execOp,h1];go_simp
  ·refine AA fun a W hg hop=>?_;have h1:_=_:=hq hop 4;refine⟨_,?_,rfl⟩;simp only[execOp,h1];go_simp
  ·refine AA fun a W hg hop=>?_;have h1:_=_:=hq hop 5;have h2:W.cell? ⟨b,0,none⟩=some (Value.int .u32 n):=AB (hg.heap HB.out) 0;refine⟨_,?_,rfl⟩;simp only[execOp,h1];go_simp
  ·refine AA fun a W hg hop=>?_;have h1:_=_:=hq hop 6;refine⟨_,?_,rfl⟩;simp only[execOp,h1];go_simp;exact IntWalk.i64_in _ (by omega)
  ·refine AG ?_ ?_ ?_ ?_
   ·exact fun t u w w' _ h=>RN _ _ _ _ _ _ _ _ h
   ·exact fun _ _ _ _ h=>h
   ·exact fun w1 w2 k h=>Le.trans h k
   intro a W hg hop;have h1:_=_:=hq hop 7;have h1':=tg h1;refine⟨92,#[(Value.int .i64 n)],?_,(Fl n W (by omega) (by omega) (HL.out.le hg)).mono ?_⟩
   ·simp only[execOp,h1];go_simp
   ·rintro e w' ⟨rfl,hle⟩;exact⟨_,rfl,hle,rfl⟩
  ·refine AA fun a W hg hop=>?_;have h1:_=_:=hq hop 8;have h3:=h1;refine⟨(.string (st (Lib.itoa n)++⟨#[32]⟩)),?_,congrArg Value.string (GG _ [32])⟩;simp only[execOp,h1,h3];go_simp;have hz:=HIT.out;simp only[AF,LA,LC,LN];omega
  ·refine AA fun a W hg hop=>?_;have h1:_=_:=hq hop 0;refine⟨_,?_,rfl⟩;simp only[execOp,h1];go_simp
  ·refine AA fun a W hg hop=>?_;have h1:_=_:=hq hop 10;refine⟨_,?_,rfl⟩;simp only[execOp,h1];go_simp
  ·refine AA fun a W hg hop=>?_;have h1:_=_:=hq hop 11;refine⟨_,?_,rfl⟩;simp only[execOp,h1];go_simp
  ·refine AA fun a W hg hop=>?_;have h1:_=_:=hq hop 12;have h2:W.cell? ⟨b,1,none⟩=some (Value.string (st m)):=AB (hg.heap HB.out) 1;refine⟨_,?_,rfl⟩;simp only[execOp,h1];go_simp
  ·refine AA fun a W hg hop=>?_;have h1:_=_:=hq hop 9;have h3:_=_:=hq hop 13;refine⟨(.string (st (Lib.itoa n++[32])++st m)),?_,congrArg Value.string ((GG _ _).trans (by unfold Dp;rw[List.append_assoc];rfl))⟩;simp only[execOp,h1,h3];go_simp;have hz:=HIT.out;simp only[AF,LA,LC,LN];omega
  ·refine AA fun a W hg hop=>?_;have h1:_=_:=hq hop 14;refine⟨_,?_,rfl⟩;simp only[execOp,h1];go_simp
 case hend=>
  intro a' w' hg hd hn' hS _;have h2:a'.eval (.tmp 2)= .string (st (Dp n m)):=hS 2 (by decide);clear hS;go_wp2
  (try simp only[Exit.inBlock,Exit.then])
  refine bodyPost_ret (results_tmp rfl _ _ _) hd ?_;exact⟨congrArg Ending.returned h2,hg⟩
end Go.Proofs.YtejhpdcjafbklaaGreatDoor
namespace Go.Proofs.YtejhpdcjafbklaaGreatDoor
open Go.RowKit
structure HV where
 t:Int
 name:Value
 text:Value
 disp:Value
 uri:UV
 ps:Value
 num:Nat
 proto:Value
 ver:Value
 tr:Value
 host:Value
 port:Int
def HV.row(h:HV):Array Value:=
 #[.int .i64 h.t,h.name,h.text,h.disp,h.uri.scheme,h.uri.raw,.bool h.uri.wild,.bool h.uri.slash,h.uri.user,h.uri.pass,h.uri.host,.int .i64 h.uri.port,h.uri.ps,h.uri.hs,h.ps,.int .u32 h.num,h.proto,h.ver,h.tr,h.host,.int .i64 h.port]
def HV.val(h:HV):Value:= .agg h.row
structure Hq(φ:Nat→Prop)(w:World)(h:HV)(d:Tx)(u:PU)(l:KVs):Prop where
 disp:Bq φ w h.disp d
 uri:Uq φ w h.uri u
 ps:Kq φ w h.ps l
section
variable {P:Program} {Q:Exit→Act→World→Prop}
theorem wp_region_grow_put{id:Nat}{l:List Oper}{a:Act}{w:World}(S:Nat→Value→World→Prop)(Z:Nat→World→Prop)(G:World→Prop)(n:Nat)(ds:List Nat)
 (hm:P.follows .mixedOrders=true)(hB:(depsB .any l.toArray&&apartB l.toArray n&&DR .any l.toArray&&decide (l.filterMap (·.dst)=ds))=true)
 (hn:a.tmps.size=n)(hdef:a.defers=[])(hG:G w.drew)(hold:∀t,t∉ds→S t (a.eval (.tmp t)) w.drew)
 (hs:BX P S Z G Q 0 l)
 (hend:∀v w',G w'→(∀t,t∈ds→S t (v t) w')→(∀(i:Nat) (o:Oper),l[i]? =some o→o.dst=none→Z i w')→Q .normal (Aj a v ds) w'):
 (Code.region id l.toArray true).wp P Q a w:=by
 simp only[Bool.and_eq_true,decide_eq_true_eq]at hB;obtain⟨⟨⟨hd,ha⟩,hah⟩,hds⟩:=hB;refine wp_region_any hm ?_;refine Ca hd ha (fun i o ho=>by have:=hs.at i o (by simpa using ho);simpa using this) ?_ l.toArray.size _ a _ (by simp) ?_ ?_ (S:=S) (Z:=Z) (G:=G) (n:=n) (a0:=a)
 ·intro listed a' w' hz h hr;have hall:=CE hah hz hr
  have hmem:∀(i:Nat) (o:Oper) (t:Nat),l.toArray[i]? =some o→o.dst=some t→t∈ds:=fun i o t ho hdt=>by
   rw[←hds];obtain⟨hlt,e⟩:=List.getElem?_eq_some_iff.1 (show l[i]? =some o by simpa using ho);exact List.mem_filterMap.2 ⟨o,e▸List.getElem_mem hlt,hdt⟩
  have e:a'=Aj a (fun t=>a'.eval (.tmp t)) ds:=by
   refine D7 (by rw[h.d,Bg,hdef]) (by rw[h.sz,BJ,hn]) fun t ht=>?_;rw[CC _ t ds a (by rw[hn,←h.sz];exact ht)];by_cases hm:t∈ds
   ·rw[if_pos hm]
   ·rw[if_neg hm];exact h.un t fun i o ho _ hdt=>hm (hmem i o t ho hdt)
  rw[e];refine hend _ w' h.g (fun t ht=>?_) (fun i o ho hdn=>?_)
  ·rw[←hds]at ht;obtain⟨o,ho,hdt⟩:=List.mem_filterMap.1 ht;obtain⟨i,hi,e2⟩:=List.getElem_of_mem ho;have hli:l.toArray[i]? =some o:=by simp[List.getElem?_eq_getElem hi,e2]
   have hnew:=h.new i o hli (hall i (Array.getElem?_eq_some_iff.1 hli).1);unfold EI at hnew;rw[hdt]at hnew;exact hnew
  ·have ho':l.toArray[i]? =some o:=by simpa using ho
   have hnew:=h.new i o ho' (hall i (Array.getElem?_eq_some_iff.1 ho').1);rw[hdn]at hnew;exact hnew
 ·simp
 ·refine⟨hG,hdef,hn,fun t ht hno=>?_,fun t _=>rfl,fun i o ho hl=>?_⟩
  ·refine hold t fun hm=>?_;rw[←hds]at hm;obtain⟨o,ho,hdt⟩:=List.mem_filterMap.1 hm;obtain⟨i,hi,e2⟩:=List.getElem_of_mem ho;exact hno i o (by simp[List.getElem?_eq_getElem hi,e2]) hdt
  ·rw[getD_replicate_false]at hl;cases hl
end
def mdS(b:Nat)(h:HV)(d:Tx)(u:PU)(l:KVs):Nat→Value→World→Prop
 |1,v,_=>v= .pointer (some ⟨b,0,none⟩)
 |3,v,_=>v= .string (st d)
 |4,v,w=>∃g,v= .pointer (some ⟨g,0,none⟩)∧b+1≤g∧∃cs,cs.size=10∧w.heap[g]? =some (.cells cs 84 (0,0))
 |5,v,w=>Hp w v l
 |6,v,_=>v= .pointer (some ⟨b,3,none⟩)
 |7,v,_=>v=h.disp
 |8,v,_=>v= .string (st d)
 |9,v,_=>v= .pointer (some ⟨b,4,none⟩)
 |10,v,_=>v=h.uri.val
 |11,v,w=>∃pv hv,v= .agg (u.cells pv hv)∧Hp w pv u.ps∧Hp w hv u.hs
 |12,v,_=>v= .pointer (some ⟨b,14,none⟩)
 |13,v,_=>v=h.ps
 |14,v,w=>Hp w v l
 |_,_,_=>True
theorem LO(b:Nat)(h:HV)(d:Tx)(u:PU)(l:KVs)(t:Nat)(v:Value)(w w':World)(k:Le w w')(hh:mdS b h d u l t v w):mdS b h d u l t v w':=by
 unfold mdS at hh⊢;split at hh<;>first|exact hh|exact hh.le k|skip
 ·obtain⟨g,e,h1,cs,h2,h3⟩:=hh;exact⟨g,e,h1,cs,h2,k.heap h3⟩
 ·obtain⟨pv,hv,e,h1,h2⟩:=hh;exact⟨pv,hv,e,h1.le k,h2.le k⟩
def mdG(w:World)(h:HV)(W:World):Prop:=Le w W∧W.heap[w.heap.size]? =some (.cells h.row 28 (0,0))
theorem Qp(φ:Nat→Prop)(w:World)(h:HV)(d:Tx)(u:PU)(l:KVs)(hq:Hq φ w h d u l)(hs:u.small)(hr:u.raw=[])(ht:h.t=5)(hkp:KSm 1099511627775 u.ps)(hkh:KSm 1099511627775 u.hs)(hkl:KSm 1099511627775 l):
 Calls Tryz.prog 45 #[h.val] w fun e w'=>e= .returned .nilIface∧Le w w':=by
 have hval:Hid (h.val= .agg #[.int .i64 5,h.name,h.text,h.disp,h.uri.scheme,h.uri.raw,.bool h.uri.wild,.bool h.uri.slash,h.uri.user,h.uri.pass,h.uri.host,.int .i64 h.uri.port,h.uri.ps,h.uri.hs,h.ps,.int .u32 h.num,h.proto,h.ver,h.tr,h.host,.int .i64 h.port]):=Hi (by unfold HV.val HV.row;rw[ht]);have HQ:=Hi hq;have HS:=Hi hs;clear hq hs;rw[hval.out];go_enter Tryz.func45,Tryz.ntmps45
 go_wp2;have hrow:Hid (h.row= #[.int .i64 5,h.name,h.text,h.disp,h.uri.scheme,h.uri.raw,.bool h.uri.wild,.bool h.uri.slash,h.uri.user,h.uri.pass,h.uri.host,.int .i64 h.uri.port,h.uri.ps,h.uri.hs,h.ps,.int .u32 h.num,h.proto,h.ver,h.tr,h.host,.int .i64 h.port]):=Hi (by unfold HV.row;rw[ht]);rw[←hrow.out];have hm:(Tryz.prog).follows .mixedOrders=true:=by kernel_rfl
 have hGl:∀w1 w2,Le w1 w2→mdG w h w1→mdG w h w2:=fun w1 w2 k hh=>⟨Le.trans hh.1 k,Le.heap k hh.2⟩;refine wp_region_grow_put (mdS w.heap.size h d u l) (fun _ _=>True) (mdG w h) 87 [6,7,8,9,10,11,12,13,14,4,3,5] hm (by kernel_rfl) rfl rfl ?hG ?hold ?hs ?hend;case hG=>exact⟨((AC w).alloc _).drew,heap_alloc_new w _⟩
 case hold=>
  intro t ht;simp only[List.mem_cons,List.mem_nil_iff,or_false,not_or]at ht;unfold mdS;split<;>first|rfl|trivial|(exfalso;simp at ht)
 case hs=>
  refine⟨?_,?_,?_,?_,?_,?_,?_,?_,?_,?_,?_,?_,?_,trivial⟩
  ·refine AA fun a W hg hop=>?_;have h1:_=_:=hq hop 1;refine⟨_,?_,rfl⟩;simp only[execOp,h1];go_simp
  ·refine AA fun a W hg hop=>?_;have h1:_=_:=hq hop 6;have h2:W.cell? ⟨w.heap.size,3,none⟩=some (h.disp):=by rw[AB hg.2 3,hrow.out];rfl
   refine⟨_,?_,rfl⟩;simp only[execOp,h1];go_simp
  ·refine AA fun a W hg hop=>?_;have h1:_=_:=hq hop 7;have hc:=BT (P:=Tryz.prog) Tryz.underlying22 Tryz.underlying5 Tryz.underlying9 (HQ.out.disp.1.le hg.1);refine⟨_,?_,rfl⟩;simp only[execOp,h1];go_simp
  ·refine AA fun a W hg hop=>?_;have h1:_=_:=hq hop 1;refine⟨_,?_,rfl⟩;simp only[execOp,h1];go_simp
  ·refine AA fun a W hg hop=>?_;have h1:_=_:=hq hop 9;have c0:W.cell? ⟨w.heap.size,4,none⟩=some (h.uri.scheme):=by rw[AB hg.2 4,hrow.out];rfl
   have c1:W.cell? ⟨w.heap.size,5,none⟩=some (h.uri.raw):=by rw[AB hg.2 5,hrow.out];rfl
   have c2:W.cell? ⟨w.heap.size,6,none⟩=some (.bool h.uri.wild):=by rw[AB hg.2 6,hrow.out];rfl
   have c3:W.cell? ⟨w.heap.size,7,none⟩=some (.bool h.uri.slash):=by rw[AB hg.2 7,hrow.out];rfl
   have c4:W.cell? ⟨w.heap.size,8,none⟩=some (h.uri.user):=by rw[AB hg.2 8,hrow.out];rfl
   have c5:W.cell? ⟨w.heap.size,9,none⟩=some (h.uri.pass):=by rw[AB hg.2 9,hrow.out];rfl
   have c6:W.cell? ⟨w.heap.size,10,none⟩=some (h.uri.host):=by rw[AB hg.2 10,hrow.out];rfl
   have c7:W.cell? ⟨w.heap.size,11,none⟩=some (.int .i64 h.uri.port):=by rw[AB hg.2 11,hrow.out];rfl
   have c8:W.cell? ⟨w.heap.size,12,none⟩=some (h.uri.ps):=by rw[AB hg.2 12,hrow.out];rfl
   have c9:W.cell? ⟨w.heap.size,13,none⟩=some (h.uri.hs):=by rw[AB hg.2 13,hrow.out];rfl
   refine⟨_,?_,rfl⟩;unfold UV.val;simp only[execOp,h1];go_simp
  ·refine AG ?_ ?_ ?_ ?_
   ·exact fun t u' w1 w2 k hh=>LO _ _ _ _ _ t u' w1 w2 k hh
   ·exact fun _ _ _ _ h=>h
   ·exact hGl
   intro a W hg hop;have h0:_=_:=hq hop 10;have h1':=tg h0;refine⟨42,#[h.uri.val],?_,(F3 φ W h.uri u (HQ.out.uri.le hg.1) HS.out hr hkp hkh).mono ?_⟩
   ·simp only[execOp,h0];go_simp
   ·rintro e w' ⟨pv,hv,rfl,k1,k2,hle⟩;exact⟨_,rfl,hle,pv,hv,rfl,k1,k2⟩
  ·refine AA fun a W hg hop=>?_;have h1:_=_:=hq hop 1;refine⟨_,?_,rfl⟩;simp only[execOp,h1];go_simp
  ·refine AA fun a W hg hop=>?_;have h1:_=_:=hq hop 12;have h2:W.cell? ⟨w.heap.size,14,none⟩=some (h.ps):=by rw[AB hg.2 14,hrow.out];rfl
   refine⟨_,?_,rfl⟩;simp only[execOp,h1];go_simp
  ·refine AG ?_ ?_ ?_ ?_
   ·exact fun t u' w1 w2 k hh=>LO _ _ _ _ _ t u' w1 w2 k hh
   ·exact fun _ _ _ _ h=>h
   ·exact hGl
   intro a W hg hop;have h0:_=_:=hq hop 13;have h1':=tg h0;refine⟨68,#[h.ps],?_,(NK φ W h.ps l (HQ.out.ps.le hg.1) hkl.2 hkl.1).mono ?_⟩
   ·simp only[execOp,h0];go_simp
   ·rintro e w' ⟨v',rfl,hk,_,hle⟩;exact⟨v',rfl,hle,hk⟩
  ·refine GrowStep.le ?_ ?_ ?_ ?_
   ·exact fun t u' w1 w2 k hh=>LO _ _ _ _ _ t u' w1 w2 k hh
   ·exact fun _ _ _ _ h=>h
   ·exact hGl
   intro a W hg hop;refine⟨.pointer (some ⟨W.heap.size,0,none⟩),W.alloc (.cells #[.string ⟨#[]⟩,.string ⟨#[]⟩,.bool false,.bool false,.string ⟨#[]⟩,.string ⟨#[]⟩,.string ⟨#[]⟩,.int .i64 0,.slice none 0 0,.slice none 0 0] 84),?_,(AC W).alloc _,W.heap.size,rfl,AQ hg.2,_,?_,heap_alloc_new W _⟩
   ·simp only[execOp];go_simp
   ·rfl
  ·refine AA fun a W hg hop=>?_;have h1:_=_:=hq hop 8;refine⟨_,?_,rfl⟩;simp only[execOp,h1];go_simp
  ·refine GrowStep.store ?_ rfl;intro a W hg hop;obtain⟨g,h1,hgb,cs,h5,h6⟩:∃g,a.eval (.tmp 4)= .pointer (some ⟨g,0,none⟩)∧w.heap.size+1≤g∧∃cs:Array Value,cs.size=10∧W.heap[g]? =some (.cells cs 84 (0,0)):=(hq hop 4);obtain⟨pv,hv,h2,hp1,hp2⟩:∃pv hv,a.eval (.tmp 11)= .agg (u.cells pv hv)∧Hp W pv u.ps∧Hp W hv u.hs:=(hq hop 11);have hk:=Bd W g (u.cells pv hv)
   have hone:(u.cells pv hv).all (·.oneCell')=true:=by
    obtain⟨A,c,rfl,_⟩:=hp1;obtain⟨A',c',rfl,_⟩:=hp2;unfold PU.cells;simp only[List.all_toArray,List.all_cons,List.all_nil];rfl
   have hkp2:∀v l,Hp W v l→Hp (W.setRow g (u.cells pv hv)) v l:=fun v l h=>h.kp hk h6 (by decide);refine⟨W.setRow g (u.cells pv hv),?_,⟨Below.trans hg.1 (hk.below (by omega) hg.1.size),(setRow_other W _ _ _ (by omega)).trans hg.2⟩,fun t v hh=>?_,fun _ _ h=>h,trivial⟩
   ·have hst:=run_storeVar_row (P:=Tryz.prog) W g 84 84 cs (u.cells pv hv) h6 BZ h5 hone;simp only[execOp,h1,h2,Instr.storeAt,Instr.sureAddr,Sem.run_bind,Sem.run_pure,Result.andThen,hst]
   ·unfold mdS at hh⊢;split at hh<;>first|exact hh|exact hkp2 _ _ hh|skip
    ·obtain⟨g2,e,k1,cs2,k2,k3⟩:=hh;refine⟨g2,e,k1,?_⟩;by_cases hgg:g2=g
     ·subst hgg;exact⟨u.cells pv hv,rfl,setRow_heap W _ _ _ _ _ h6⟩
     ·exact⟨cs2,k2,(setRow_other W _ _ _ hgg).trans k3⟩
    ·obtain⟨pv',hv',e,k1,k2⟩:=hh;exact⟨pv',hv',e,hkp2 _ _ k1,hkp2 _ _ k2⟩
  ·refine AA fun a W hg hop=>?_;have h1:Hp W (a.eval (.tmp 14)) l:=(hq hop 14);exact⟨a.eval (.tmp 14),rfl,h1⟩
 case hend=>
  intro v w' hg hS hZ;have HG:=Hi hg;have g0:w'.cell? ⟨w.heap.size,0,none⟩=some (.int .i64 5):=by rw[AB hg.2 0,hrow.out];rfl
  clear hS hZ hg;simp only[Aj,Act.put,List.setIfInBounds_toArray,List.set_cons_zero,List.set_cons_succ];go_wp2;go_ret;exact⟨rfl,HG.out.1⟩
end Go.Proofs.YtejhpdcjafbklaaGreatDoor
namespace Go.Proofs.YtejhpdcjafbklaaGreatDoor
open Go.RowKit
theorem Be:((Tryz.prog).info? 28).map (·.size)=some 21:=by kernel_rfl
theorem NT(φ:Nat→Prop)(w:World)(h:HV)(d m:Tx)(u:PU)(l:KVs)(hq:Hq φ w h d u l)(htx:Bv w h.text m)(hs:u.small)(hr:u.raw=[])(ht:h.t=5)
 (hkp:KSm 1099511627775 u.ps)(hkh:KSm 1099511627775 u.hs)(hkl:KSm 1099511627775 l):
 Calls Tryz.prog 26 #[h.val] w fun e w'=>∃g,e= .returned (.iface 94 (.pointer (some ⟨g,0,none⟩)))∧OQ w' g h.num m∧Le w w':=by
 have hsz:h.row.size=21:=rfl;have q1:=run_loadCellsFrom_new (P:=Tryz.prog) w 28 h.row 21 rfl;have q2:=Bc (P:=Tryz.prog) (heap_alloc_new w (Obj.cells h.row 28)) Tryz.underlying28 rfl Be
 have hrow:Hid (h.row= #[.int .i64 5,h.name,h.text,h.disp,h.uri.scheme,h.uri.raw,.bool h.uri.wild,.bool h.uri.slash,h.uri.user,h.uri.pass,h.uri.host,.int .i64 h.uri.port,h.uri.ps,h.uri.hs,h.ps,.int .u32 h.num,h.proto,h.ver,h.tr,h.host,.int .i64 h.port]):=Hi (by unfold HV.row;rw[ht]);have hval:Hid (h.val= .agg h.row):=Hi rfl;have HQ:=Hi hq;have HS:=Hi hs;have HT:=Hi htx
 clear hq hs htx;rw[hval.out];generalize hR:h.row=R at q1 q2 hrow hval hsz;have HR:=Hi hR;clear hR;go_enter Tryz.func26,Tryz.ntmps26;clear q1 q2;go_wp2_with (refine wpList_load_row rfl 28 (.tmp 1) rfl w.heap.size rfl 28 R (0,0) _ (heap_alloc_new w _) Tryz.underlying28 rfl (by rw[hsz];exact Be) ?_)
 rw[←hval.out];have hle0:Le w (w.alloc (Obj.cells R 28)):=(AC w).alloc _;refine(Qp φ _ h d u l ⟨HQ.out.disp.le hle0,HQ.out.uri.le hle0,HQ.out.ps.le hle0⟩ HS.out hr ht hkp hkh hkl).mono ?_;rintro e w2 ⟨rfl,hle2⟩;have hb2:w2.heap[w.heap.size]? =some (Obj.cells R 28):=Le.heap hle2 (heap_alloc_new w _)
 have g0:w2.cell? ⟨w.heap.size,0,none⟩=some (.int .i64 5):=by rw[AB hb2 0,hrow.out];rfl
 have g2:w2.cell? ⟨w.heap.size,2,none⟩=some h.text:=by rw[AB hb2 2,hrow.out];rfl
 have g15:w2.cell? ⟨w.heap.size,15,none⟩=some (.int .u32 h.num):=by rw[AB hb2 15,hrow.out];rfl
 have HLE2:Hid (Le w w2):=Hi (Le.trans hle0 hle2);have hc:=BT (P:=Tryz.prog) Tryz.underlying22 Tryz.underlying5 Tryz.underlying95 (HT.out.le HLE2.out);clear hb2 hle2 hle0;go_wp2;go_ret;exact⟨_,rfl,heap_alloc_new w2 _,HLE2.out.alloc _⟩
theorem KH(φ:Nat→Prop)(w:World)(h:HV)(d m:Tx)(u:PU)(l:KVs)(hq:Hq φ w h d u l)(htx:Bv w h.text m)(hs:u.small)(hr:u.raw=[])(ht:h.t=5)
 (hkp:KSm 1099511627775 u.ps)(hkh:KSm 1099511627775 u.hs)(hkl:KSm 1099511627775 l)(hL:BW w)(hn:h.num<4294967296)(hm0:m.length≤1099511627776):
 Calls Tryz.prog 9 #[h.val] w fun e w'=>∃v1 v2,e= .returned (.tuple #[v1,v2])∧Bq (w.heap.size≤·) w' v1 (ES h.num m)∧Bq (w.heap.size≤·) w' v2 (Dp h.num m)∧Le w w':=by
 have hsz:h.row.size=21:=rfl;have q1:=run_loadCellsFrom_new (P:=Tryz.prog) w 28 h.row 21 rfl;have q2:=Bc (P:=Tryz.prog) (heap_alloc_new w (Obj.cells h.row 28)) Tryz.underlying28 rfl Be
 have hrow:Hid (h.row= #[.int .i64 5,h.name,h.text,h.disp,h.uri.scheme,h.uri.raw,.bool h.uri.wild,.bool h.uri.slash,h.uri.user,h.uri.pass,h.uri.host,.int .i64 h.uri.port,h.uri.ps,h.uri.hs,h.ps,.int .u32 h.num,h.proto,h.ver,h.tr,h.host,.int .i64 h.port]):=Hi (by unfold HV.row;rw[ht]);have hval:Hid (h.val= .agg h.row):=Hi rfl;have HQ:=Hi hq;have HS:=Hi hs;have HT:=Hi htx
 have HL:=Hi hL;have HIT:=Hi (Lib.itoa_length_le h.num (by omega) (by omega));clear hq hs htx hL;rw[hval.out];generalize hR:h.row=R at q1 q2 hrow hval hsz;have HR:=Hi hR;clear hR;go_enter Tryz.func9,Tryz.ntmps9;clear q1 q2;go_wp2_with (refine wpList_load_row rfl 28 (.tmp 1) rfl w.heap.size rfl 28 R (0,0) _ (heap_alloc_new w _) Tryz.underlying28 rfl (by rw[hsz];exact Be) ?_)
 rw[←hval.out];have hle0:Le w (w.alloc (Obj.cells R 28)):=(AC w).alloc _;refine(NT φ _ h d m u l ⟨HQ.out.disp.le hle0,HQ.out.uri.le hle0,HQ.out.ps.le hle0⟩ (HT.out.le hle0) HS.out hr ht hkp hkh hkl).mono ?_;rintro e w2 ⟨g,rfl,hcs,hle2⟩;have HLE2:Hid (Le w w2):=Hi (Le.trans hle0 hle2);have HCS:=Hi hcs;clear hcs hle2 hle0;go_wp2_with fail
 refine(GU _ g h.num m HCS.out (HL.out.le HLE2.out) hn hm0).mono ?_;rintro e w3 ⟨rfl,hle3⟩;have HLE3:Hid (Le w w3):=Hi (Le.trans HLE2.out hle3);have HCS3:Hid (OQ w3 g h.num m):=Hi (hle3.heap HCS.out);clear hle3
 obtain⟨B,c,W,q,le1,bt⟩:=AT (base:=w.heap.size) w3 (st (ES h.num m)) HLE3.out.size (by have:=HIT.out;unfold ES Dp;simp only[AF,LA,LC,LN];omega);rw[AV]at bt;have HB:=Hi bt;have HLE4:Hid (Le w W):=Hi (Le.trans HLE3.out le1);have HCS4:Hid (OQ W g h.num m):=Hi (le1.heap HCS3.out);clear bt le1;go_wp2_with fail
 refine(Hr _ g h.num m HCS4.out (HL.out.le HLE4.out) hn hm0).mono ?_;rintro e w5 ⟨rfl,hle5⟩;have HLE5:Hid (Le w w5):=Hi (Le.trans HLE4.out hle5);have HB5:=Hi (HB.out.le hle5);clear hle5
 obtain⟨B2,c2,W2,q2,le2,bt2⟩:=AT (base:=w.heap.size) w5 (st (Dp h.num m)) HLE5.out.size (by have:=HIT.out;unfold Dp;simp only[AF,LA,LC,LN];omega);rw[AV]at bt2;have HB6:=Hi (HB5.out.le le2);have HB7:=Hi bt2;have HLE6:Hid (Le w W2):=Hi (Le.trans HLE5.out le2);clear bt2 le2;go_wp2
 go_ret2
 exact⟨_,_,rfl,⟨HB6.out.1,fun g h=>(HB6.out.2 g h).1⟩,⟨HB7.out.1,fun g h=>(HB7.out.2 g h).1⟩,HLE6.out⟩
end Go.Proofs.YtejhpdcjafbklaaGreatDoor
