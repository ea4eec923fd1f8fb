/- The law FnHeadWritten: HwG GrowL Guard HwK. -/
import Derived.Test.YtejhpdcjafbklaaGreatDoorHwC
set_option linter.all false
set_option maxHeartbeats 16000000
set_option maxRecDepth 8000
namespace Go.Proofs.YtejhpdcjafbklaaGreatDoor
open Go.RowKit
theorem CW{l n:Tx}{u:PU}{kvs:KVs}(h:Bi l= .val n u kvs):(∃s,By s= .val u∧s.length≤l.length)∧u.wild=false∧∀x∈kvs,x.2.any bl2=false:=by
 have hb:∀l,Dy l= .val n u kvs→(∃s,By s= .val u∧s.length≤l.length)∧u.wild=false∧∀x∈kvs,x.2.any bl2=false:=by
  intro l h;unfold Dy at h;split at h
  ·split at h
   ·rename_i u' hu
    split at h
    ·cases h
    ·rename_i hw
     injection h with h1 h2 h3
     subst h2 h3;exact⟨⟨l,hu,NL _⟩,by simpa using hw,by simp⟩
   ·cases h
  ·cases h
 unfold Bi at h;split at h
 ·split at h
  ·split at h
   ·cases h
   ·split at h
    ·rename_i u' hu
     split at h
     ·rename_i kvs' hk
      split at h
      ·cases h
      ·rename_i hw
       injection h with h1 h2 h3
       subst h2 h3;exact⟨⟨_,hu,by simp only[List.length_take,List.length_drop];omega⟩,by simpa using hw,JG hk⟩
     ·cases h
    ·cases h
  ·cases h
 ·exact hb l h
def C5(tt:Int)(nv:Value)(x:UV):Array Value:=HV.row ⟨tt,nv,.slice none 0 0,.slice none 0 0,x,.slice none 0 0,0,.slice none 0 0,.slice none 0 0,.slice none 0 0,.slice none 0 0,0⟩
theorem CA{x:UV}{f:Value→Bool}:x.row.all f=(f x.scheme&&f x.raw&&f (.bool x.wild)&&f (.bool x.slash)&&f x.user&&f x.pass&&f x.host&&f (.int .i64 x.port)&&f x.ps&&f x.hs):=by
 unfold UV.row;simp only[List.all_toArray,List.all_cons,List.all_nil,Bool.and_true,Bool.and_assoc]
theorem Gn{tt:Int}{A:Option Addr}{n c:Nat}{x:UV}(h:x.row.all (·.oneCell')=true):(C5 tt (.slice A n c) x).all (·.oneCell')=true:=by
 rw[CA]at h;simp only[Bool.and_eq_true]at h;obtain⟨⟨⟨⟨⟨⟨⟨⟨⟨a1,a2⟩,a3⟩,a4⟩,a5⟩,a6⟩,a7⟩,a8⟩,a9⟩,a10⟩:=h;unfold C5 HV.row;simp only[List.all_toArray,List.all_cons,List.all_nil,a1,a2,a3,a4,a5,a6,a7,a8,a9,a10,Bool.and_true,Bool.true_and];rfl
theorem Jl{tt:Int}{A:Option Addr}{n c:Nat}{x:UV}(h:x.row.all Eq=true):(C5 tt (.slice A n c) x).all Eq=true:=by
 rw[CA]at h;simp only[Bool.and_eq_true]at h;obtain⟨⟨⟨⟨⟨⟨⟨⟨⟨a1,a2⟩,a3⟩,a4⟩,a5⟩,a6⟩,a7⟩,a8⟩,a9⟩,a10⟩:=h;unfold C5 HV.row;simp only[List.all_toArray,List.all_cons,List.all_nil,a1,a2,a3,a4,a5,a6,a7,a8,a9,a10,Bool.and_true,Bool.true_and];rfl
def bbS(W2:World)(b bU:Nat)(tt kd:Int)(x:UV):Nat→Value→World→Prop
 |0,v,_=>v= .int .i64 tt
 |4,v,_=>v= .pointer (some ⟨b,0,none⟩)
 |5,v,_=>v= .int .i64 kd
 |7,v,_=>v= .pointer (some ⟨bU,0,none⟩)
 |9,v,_=>v= .int .i64 kd
 |48,v,_=>v= .int .i64 tt
 |49,v,_=>v= .int .i64 tt
 |50,v,_=>v= .string (st (nmT tt))
 |51,v,w_=>Bv w_ v (nmT tt)
 |52,v,_=>v= .agg x.row
 |53,v,w_=>∃An nn cn,v= .agg (C5 tt (.slice An nn cn) x)∧Bv w_ (.slice An nn cn) (nmT tt)
 |54,v,_=>v= .int .i64 kd
 |_,_,_=>True
theorem OJ(W2:World)(b bU:Nat)(tt kd:Int)(x:UV)(t:Nat)(v:Value)(w1 w2:World)(k:Le w1 w2)(h:bbS W2 b bU tt kd x t v w1):bbS W2 b bU tt kd x t v w2:=by
 unfold bbS at h⊢;split at h<;>first|exact h|exact(by obtain⟨A,n,c,e,b⟩:=h;exact⟨A,n,c,e,b.le k⟩)|exact Bv.le h k
def bbG(W2:World)(b bU:Nat)(tt kd:Int)(x:UV)(W:World):Prop:=Kp b W2 W∧W.heap[bU]? =some (.cells x.row 35 (0,0))∧∃cs:Array Value,cs.size=21∧W.heap[b]? =some (.cells cs 37 (0,0))∧cs.all Eq=true
theorem OK(W2:World)(b bU:Nat)(tt kd:Int)(x:UV)(w1 w2:World)(k:Le w1 w2)(h:bbG W2 b bU tt kd x w1):bbG W2 b bU tt kd x w2:=by
 obtain⟨h1,h2,cs,h3,h4,h5⟩:=h;exact⟨h1.le k,k.heap h2,cs,h3,k.heap h4,h5⟩
def bbZ(W2:World)(b bU:Nat)(tt kd:Int)(x:UV)(_:Nat)(W:World):Prop:=∃An nn cn,W.heap[b]? =some (.cells (C5 tt (.slice An nn cn) x) 37 (0,0))∧Bv W (.slice An nn cn) (nmT tt)
theorem OI(W2:World)(b bU:Nat)(tt kd:Int)(x:UV)(j:Nat)(w1 w2:World)(k:Le w1 w2)(h:bbZ W2 b bU tt kd x j w1):bbZ W2 b bU tt kd x j w2:=by
 obtain⟨a1,a2,a3,h1,h2⟩:=h;exact⟨a1,a2,a3,k.heap h1,h2.le k⟩
theorem JL(tt:Int)(v:Value)(l:Tx)(w:World)(ht1:1≤tt)(ht2:tt≤14)(hv:Bv w v l)(hpos:0<l.length)(hl0:l.length≤1099511626000):
 Calls Tryz.prog 61 #[.int .i64 tt,v] w (Md w fun p=>p.t=tt∧PHk p):=by
 have hl:l.length≤1099511627000:=by omega
 have HVX:=Hi hv;have HTT:=Hi (And.intro ht1 ht2);obtain⟨Av,cv,rfl,h1,h2,h4⟩:=hv;have h3:=h4.1;have HR:=Hi h4;clear h4;go_enter Tryz.func61,Tryz.ntmps61;go_upto_region 1 with fail
 have HB:Hid (PBH w (w.alloc (Obj.cells HV.nil.row 37))):=Hi ⟨(AC w).alloc _,heap_alloc_new w _⟩;change Code.wp _ _ _ _ (w.alloc (Obj.cells HV.nil.row 37));have hsz0:(w.alloc (Obj.cells HV.nil.row 37)).heap.size=w.heap.size+1:=by simp
 generalize w.alloc (Obj.cells HV.nil.row 37)=W0 at HB hsz0⊢;go_wp2_with fail
 refine(FW _ l W0 (HVX.out.le HB.out.1) hl).mono ?_;rintro e W1 ⟨nv,pv,x,kd,rfl,hle1,hone,hm⟩;have HM:=Hi hm;have HXO:=Hi hone;have HL1:=Hi hle1;clear hle1 hm hone;go_upto_region 2 with(first|refine AD rfl 35 (.tmp 7) (.tmp 14) rfl W1.heap.size x.row rfl rfl 35 Ai (heap_alloc_new W1 _) AI rfl HXO.out ?_)
 intro W2 hz2 hk2;have HL2:Hid (Le W1 W2):=Hi (Below.trans ((AC W1).alloc _) (hk2.below (NL _) ((AC W1).alloc _).size));have HUR:=Hi hz2;have HBW:Hid (PBH w W2):=Hi ⟨Le.trans HB.out.1 (Le.trans HL1.out HL2.out),HL2.out.heap (HL1.out.heap HB.out.2)⟩;have HNE:Hid (W1.heap.size≠w.heap.size):=Hi (by have:=HL1.out.size;omega)
 have HGW:Hid (w.heap.size<W1.heap.size):=Hi (by have:=HL1.out.size;omega);have g2:W2.cell? ⟨W1.heap.size,2,none⟩=some (.bool x.wild):=AB hz2 2;clear hz2 hk2;go_upto_region 2 with fail
 go_cut [47]from 17 (fun s47 wx=>∃q:Bool,s47= .bool q∧W2=wx∧(q=false→kd=0→∃n u kvs,Bi l= .val n u kvs))
 case first=>
  rcases hs:Bi l with _|⟨n,u,kvs⟩
  ·have hm:=HM.out;rw[hs]at hm;have hkd:kd= -2:=hm.1;subst hkd;clear hs hm g2;go_wp2;go_meet;case rel=>exact⟨false,rfl,rfl,fun _ h=>absurd h (by decide)⟩
  ·have hm:=HM.out;rw[hs]at hm;obtain⟨hkd,hbn,hux,hkq,_⟩:=hm;subst hkd;have hw:=(CW hs).2.1;have hwx:=hux.wild;rw[hw]at hwx;rw[hwx]at g2;obtain⟨An,cn,rfl⟩:=hbn.form;obtain⟨Ap,cp,rfl,_⟩:=hkq;have HS:=Hi hs;clear hs hbn hux hw hwx;rcases n with _|⟨nc,nr⟩;case cons=>
    have hn1:decide ((0:Int)<((nc::nr).length:Int))=true:=decide_eq_true (by simp only[LC];omega);go_wp2;go_meet;case rel=>exact⟨true,rfl,rfl,fun h=>by cases h⟩
   rcases kvs with _|⟨kc,kr⟩;case cons=>
    have hn1:decide ((0:Int)<((kc::kr).length:Int))=true:=decide_eq_true (by simp only[LC];omega);go_wp2;go_meet;case rel=>exact⟨true,rfl,rfl,fun h=>by cases h⟩
   obtain⟨bb,oo,rfl,d1⟩:=(HR.out.le HBW.out.1).at_ (k:=0) hpos;obtain⟨_,_,e0,d2⟩:=(HR.out.le HBW.out.1).at_ (k:=l.length-1) (by omega);injection e0 with e0;injection e0 with e01 e02 _;subst e01 e02
   rw[Nat.add_zero]at d1;generalize(l[0].toNat:Int)=y1 at d1;generalize(l[l.length-1].toNat:Int)=y2 at d2;have hidx:((l.length:Int)-1)=((l.length-1:Nat):Int):=by omega
   obtain⟨p1,hp1⟩:∃q,((y1:Int) != 60)=q:=⟨_,rfl⟩;obtain⟨p2,hp2⟩:∃q,((y2:Int) != 62)=q:=⟨_,rfl⟩;cases p1
   ·cases p2
    ·go_wp2;go_meet;case rel=>exact⟨false,rfl,rfl,fun _ _=>⟨_,_,_,HS.out⟩⟩
    ·go_wp2;go_meet;case rel=>exact⟨true,rfl,rfl,fun h=>by cases h⟩
   ·go_wp2;go_meet;case rel=>exact⟨true,rfl,rfl,fun h=>by cases h⟩
 case rest=>
 obtain⟨q,rfl,rfl,hqq⟩:=hcut;clear g2;go_upto_if 47 with fail
 go_cut [9]from 17 (fun s9 wx=>∃kd':Int,s9= .int .i64 kd'∧W2=wx∧(kd'=0→∃n u kvs,Bi l= .val n u kvs))
 case first=>
  cases q
  ·go_wp2;go_meet;case rel=>exact⟨kd,rfl,rfl,fun h=>hqq (by trivial) h⟩
  ·go_wp2;go_meet;case rel=>exact⟨-2,rfl,rfl,fun h=>absurd h (by decide)⟩
 case rest=>
 obtain⟨kd',rfl,rfl,hk⟩:=hcut;have HK:=Hi hk;clear hk hqq;have HB2:=Hi HBW.out.2;have HXN:Hid (x.row.all Eq=true):=Hi (by
  have hm:=HM.out;rcases hs:Bi l with _|⟨n,u,kvs⟩
  ·rw[hs]at hm;rw[hm.2.1];exact CA.trans rfl
  ·rw[hs]at hm;have hqq:=hm.2.2.1.toUq;rw[CA,hqq.scheme.1.nou,hqq.raw.1.nou,hqq.user.1.nou,hqq.pass.1.nou,hqq.host.1.nou,hqq.ps.nou,hqq.hs.nou];rfl)
 go_upto_region 4 with fail
 generalize hbU:W1.heap.size=bU at HUR HNE HGW⊢;generalize hb:w.heap.size=b at HNE HGW HB2⊢;have hm_bb:(Tryz.prog).follows .mixedOrders=true:=by kernel_rfl
 refine wp_region_grow_put (bbS W2 b bU tt kd' x) (bbZ W2 b bU tt kd' x) (bbG W2 b bU tt kd' x) 55 [48,49,50,51,52,53,54,5] hm_bb (by kernel_rfl) rfl rfl ?hG_bb ?hold_bb ?hs_bb ?hend_bb;case hG_bb=>exact⟨(Kp.refl _ _).le (AC _).drew,HUR.out,HV.nil.row,rfl,HB2.out,Am.nou⟩
 case hold_bb=>
  intro t ht;simp only[List.mem_cons,List.mem_nil_iff,or_false,not_or]at ht;unfold bbS;split<;>first|exact True.intro|(exfalso;simp at ht;done)|rfl
 case hs_bb=>
  refine⟨?_,?_,?_,?_,?_,?_,?_,?_,?_,trivial⟩
  ·refine AA fun a W hg hop=>?_;have h0:_=_:=hq hop 0;have h0':=tg h0;refine⟨_,?_,rfl⟩;simp only[execOp,h0];go_simp
  ·refine AA fun a W hg hop=>?_;have h0:_=_:=hq hop 0;have h0':=tg h0;refine⟨_,?_,rfl⟩;simp only[execOp,h0];go_simp
  ·refine AG ?_ ?_ ?_ ?_
   ·exact fun t v w1 w2 kl h=>OJ W2 b bU tt kd' x t v w1 w2 kl h
   ·exact fun j w1 w2 k h=>OI W2 b bU tt kd' x j w1 w2 k h
   ·exact fun w1 w2 k h=>OK W2 b bU tt kd' x w1 w2 k h
   ·intro a W hg hop;have h49:_=_:=hq hop 49;have h49':=tg h49;refine⟨28,#[.int .i64 tt],?_,((EG tt HTT.out.1 HTT.out.2 W)).mono ?_⟩
    ·simp only[execOp,h49];go_simp
    ·rintro e w' ⟨rfl,rfl⟩;exact⟨_,rfl,AC _,rfl⟩
  ·refine GrowStep.le ?_ ?_ ?_ ?_
   ·exact fun t v w1 w2 k h=>OJ W2 b bU tt kd' x t v w1 w2 k h
   ·exact fun j w1 w2 k h=>OI W2 b bU tt kd' x j w1 w2 k h
   ·exact fun w1 w2 k h=>OK W2 b bU tt kd' x w1 w2 k h
   ·intro a W hg hop;have h50:_=_:=hq hop 50;have h50':=tg h50;obtain⟨B1,e1,W1,q1,le1,bt1⟩:=AT (base:=0) W (st (nmT tt)) (Nat.zero_le _) (by rw[AF];have:=C3 tt;omega);rw[AV]at bt1;refine⟨_,W1,?_,le1,bt1.1⟩;simp only[execOp,h50];go_simp
  ·refine AA fun a W hg hop=>?_;have h7:_=_:=hq hop 7;have h7':=tg h7;refine⟨_,?_,rfl⟩;have hs:=Bc (P:=Tryz.prog) hg.2.1 Tryz.underlying35 rfl AI;simp only[execOp,h7,hs,Sem.run_bind,Sem.run_pure,Result.andThen,Sem.run_map];try rfl
  ·refine AA fun a W hg hop=>?_;have h48:_=_:=hq hop 48;have h48':=tg h48;have h51:Bv W (a.eval (.tmp 51)) (nmT tt):=(hq hop 51);have h52:_=_:=hq hop 52;have h52':=tg h52;refine⟨.agg (C5 tt (a.eval (.tmp 51)) x),?_,(by obtain⟨A9,c9,e9⟩:=h51.form;rw[e9]at h51⊢;exact⟨_,_,_,rfl,h51⟩)⟩;obtain⟨A9,c9,e9⟩:=h51.form;rw[e9];refine Dl W 37 [(0,.tmp 48),(1,.tmp 51),(4,.tmp 52)] rfl _ ?_
   show(Tryz.prog).built 37 [(0,a.eval (.tmp 48)),(1,a.eval (.tmp 51)),(4,a.eval (.tmp 52))]=_;rw[e9,h48,h52];try kernel_rfl
  ·refine AA fun a W hg hop=>?_;have h9:_=_:=hq hop 9;have h9':=tg h9;refine⟨_,?_,rfl⟩;simp only[execOp,h9];go_simp
  ·refine GrowStep.store ?_ rfl;intro a W hg hop;have h1:_=_:=hq hop 4;obtain⟨An,nn,cn,h2,hnv⟩:∃An nn cn,a.eval (.tmp 53)= .agg (C5 tt (.slice An nn cn) x)∧Bv W (.slice An nn cn) (nmT tt):=hq hop 53;obtain⟨h3,h4,cs,h5,h6,h7⟩:=hg;have hone:(C5 tt (.slice An nn cn) x).all (·.oneCell')=true:=Gn HXO.out;have hkp:=Bd W b (C5 tt (.slice An nn cn) x)
   have hs:=run_storeVar_row (P:=Tryz.prog) W b 37 37 cs (C5 tt (.slice An nn cn) x) h6 AS h5 hone;have hkb:∀v l,Bv W v l→Bv (W.setRow b (C5 tt (.slice An nn cn) x)) v l:=fun v l h=>h.setH h6 h7 hkp
   refine⟨W.setRow b (C5 tt (.slice An nn cn) x),?_,⟨h3.trans hkp,(setRow_other W _ _ _ HNE.out).trans h4,_,rfl,setRow_heap W _ _ _ _ _ h6,Jl HXN.out⟩,fun t v hh=>?_,fun j _ _=>⟨An,nn,cn,setRow_heap W _ _ _ _ _ h6,hkb _ _ hnv⟩,⟨An,nn,cn,setRow_heap W _ _ _ _ _ h6,hkb _ _ hnv⟩⟩
   ·simp only[execOp,h1,h2,Instr.storeAt,Instr.sureAddr,Sem.run_bind,Sem.run_pure,Result.andThen];rw[hs]
   ·unfold bbS at hh⊢;split at hh<;>first|exact hh|exact hkb _ _ hh|(obtain⟨a1,a2,a3,e,b1⟩:=hh;exact⟨a1,a2,a3,e,hkb _ _ b1⟩)
  ·refine AA fun a W hg hop=>?_;have h54:_=_:=hq hop 54;have h54':=tg h54;refine⟨_,?_,rfl⟩;simp only[execOp,h54];go_simp
 case hend_bb=>
  intro s_ wz hg hS hZ;have s5:s_ 5= .int .i64 kd':=hS 5 (by decide);obtain⟨An,nn,cn,hz,hnv⟩:=hZ 7 _ rfl rfl;have HZ:=Hi hz;have HNV:=Hi hnv;have HKPZ:=Hi hg.1;clear hS hZ hg hz hnv;simp only[Aj,Act.put,List.setIfInBounds_toArray,List.set_cons_zero,List.set_cons_succ];rw[s5];clear s5
  have HLZ:Hid (Le w wz):=Hi (Below.trans HBW.out.1 (HKPZ.out.below (by omega) HBW.out.1.size));have HFIT:Hid (Gs ⟨tt,.slice An nn cn,.slice none 0 0,.slice none 0 0,x,.slice none 0 0,0,.slice none 0 0,.slice none 0 0,.slice none 0 0,.slice none 0 0,0⟩):=Hi ⟨Gn HXO.out,Jl HXN.out,_,_,_,rfl⟩;go_wp2
  refine bodyPost_ret (BL (x:=⟨tt,.slice An nn cn,.slice none 0 0,.slice none 0 0,x,.slice none 0 0,0,.slice none 0 0,.slice none 0 0,.slice none 0 0,.slice none 0 0,0⟩) rfl HZ.out rfl rfl) rfl ⟨_,kd',rfl,HLZ.out,HFIT.out,fun h=>?_⟩;obtain⟨n,u,kvs,hs⟩:=HK.out h;obtain⟨⟨s,hsu,hsl⟩,hw,_⟩:=CW hs;have hm:=HM.out;rw[hs]at hm
  have huz:Uz (w.heap.size≤·) wz x u:=by
   have h1:Uz (W0.heap.size≤·) W1 x u:=hm.2.2.1.uz;have h2:=(h1.le HL2.out).setH HB2.out Am.nou HKPZ.out (fun g hg=>by omega);exact h2.imp fun g hg=>by omega
  exact⟨⟨tt,nmT tt,[],[],u,[],0,[],[],[],[],0⟩,⟨rfl,HNV.out,Bv.nil _,Bv.nil _,huz,Kq.nil _ _,KO.nil _ _,rfl,Bv.nil _,Bv.nil _,Bv.nil _,Bv.nil _,rfl⟩,rfl,hw,fun _=>FY hsu hw,FZ hsu,fun x h=>(by cases h),fun x h=>(by cases h),FX hsu (by omega)⟩
end Go.Proofs.YtejhpdcjafbklaaGreatDoor
namespace Go.Proofs.YtejhpdcjafbklaaGreatDoor.G5
open Go.RowKit
section
variable {P:Program} {ops:Array Oper} {Q:Exit→Act→World→Prop}
structure BE(ops:Array Oper)(N:Nat)(S:Nat→Value→World→Prop)(G:(Nat→Bool)→Act→World→Prop)(n:Nat)(a0:Act)(listed:Array Bool)(a:Act)(w:World):Prop where
 g:G (fun j=>listed.getD j false) a w
 cl:∀(j:Nat) (oj:Oper),ops[j]? =some oj→listed.getD j false=true→∀e∈oj.after,Region.binds .any e=true→listed.getD e.on false=true
 d:a.defers=[]
 sz:a.tmps.size=n
 old:∀t,t<n→(∀(i:Nat) (o:Oper),i<N→ops[i]? =some o→o.dst≠some t)→S t (a.eval (.tmp t)) w
 un:∀t,(∀(i:Nat) (o:Oper),i<N→ops[i]? =some o→listed.getD i false=true→o.dst≠some t)→a.eval (.tmp t)=a0.eval (.tmp t)
 new:∀(i:Nat) (o:Oper),i<N→ops[i]? =some o→listed.getD i false=true→SAt S (fun _ _=>True) i o.dst (EI o a) w
def TT:Nat→World→Prop:=fun _ _=>True
def GrowStep(P:Program)(ops:Array Oper)(n:Nat)(a0:Act)(S:Nat→Value→World→Prop)(G:(Nat→Bool)→Act→World→Prop)(Q:Exit→Act→World→Prop)(i:Nat)(o:Oper):Prop:=
 ∀(dn:Nat→Bool) a w,a.tmps.size=n→dn i=false→(∀e∈o.after,Region.binds .any e=true→dn e.on=true)→(∀(j:Nat) (oj:Oper),ops[j]? =some oj→dn j=true→∀e∈oj.after,Region.binds .any e=true→dn e.on=true)→
  (∀(j:Nat) (oj:Oper) (t:Nat),ops[j]? =some oj→dn j=false→oj.dst=some t→a.eval (.tmp t)=a0.eval (.tmp t))→G dn a w→(∀t,Operand.tmp t∈o.op.operands→S t (a.eval (.tmp t)) w)→
  o.wp P a w (fun a' w'=>∃v,a'=a.put o.dst v∧G (fun j=>j==i||dn j) (a.put o.dst v) w'∧(∀t,o.dst≠some t→S t (a.eval (.tmp t)) w→S t (a.eval (.tmp t)) w')∧SAt S TT i o.dst v w') Q
def BX(P:Program)(ops:Array Oper)(n:Nat)(a0:Act)(S:Nat→Value→World→Prop)(G:(Nat→Bool)→Act→World→Prop)(Q:Exit→Act→World→Prop):Nat→List Oper→Prop
 |_,[]=>True
 |k,o::r=>GrowStep P ops n a0 S G Q k o∧BX P ops n a0 S G Q (k+1) r
theorem BX.at{n:Nat}{a0:Act}{S:Nat→Value→World→Prop}{G:(Nat→Bool)→Act→World→Prop}:∀{l:List Oper} {k:Nat},BX P ops n a0 S G Q k l→∀(i:Nat) (o:Oper),l[i]? =some o→GrowStep P ops n a0 S G Q (k+i) o
 |[],_,_,i,o,h=>by simp at h
 |x::r,k,⟨h1,h2⟩,0,o,h=>by simp at h;subst h;exact h1
 |x::r,k,⟨h1,h2⟩,i+1,o,h=>by
  have:=BX.at h2 i o (by simpa using h);rw[show k+(i+1)=k+1+i from by omega];exact this
theorem Bs{S:Nat→Value→World→Prop}{G:(Nat→Bool)→Act→World→Prop}{n i:Nat}{N:Nat}{a0:Act}(hNs:ops.size≤N)(hiN:i<N)(hd:G3.depsB .any ops N=true)(ha:G3.apartB ops N n=true){o:Oper}(ho:ops[i]? =some o)(hs:GrowStep P ops n a0 S G Q i o)
 {listed:Array Bool}{a:Act}{w:World}(h:BE ops N S G n a0 listed a w)(hr:i∈Region.ready .any ops listed):wpOp P ops Q i (BE ops N S G n a0 (listed.setIfInBounds i true)) a w:=by
 obtain⟨hun,o',ho',hall⟩:=mem_ready.1 hr;have hsz:i<listed.size:=by
  rcases Nat.lt_or_ge i listed.size with h'|h'
  ·exact h'
  ·rw[Array.getD_eq_getD_getElem?,Array.getElem?_eq_none h']at hun;simp at hun
 obtain rfl:o'=o:=Option.some.inj (ho'.symm.trans ho);have hw:Region.wanted o' (yielded ops a.tmps)=true:=by unfold Region.wanted;rw[(G3.apartB_one ha hiN ho).2.1]
 unfold wpOp;simp only[ho,hw,if_true];left
 refine Oper.wp_mono ?_ (hs _ a w h.sz (getD_both hun) hall h.cl (fun j oj t hj hl hdt=>h.un t fun k ok hk hok hlk hdk=>by
  by_cases hkj:k=j
  ·subst hkj;rw[hlk]at hl;cases hl
  ·rcases G3.apartB_ne ha (Nat.lt_of_lt_of_le (Array.getElem?_eq_some_iff.1 hj).1 hNs) hk hj hok (fun e=>hkj e.symm)with e|e
   ·rw[hdt]at e;cases e
   ·exact e (hdt.trans hdk.symm)) h.g fun t ht=>?_)
 ·rintro a' w' ⟨v,rfl,hg,hS,hv⟩
  have hgd:(fun j=>(listed.setIfInBounds i true).getD j false)=fun j=>j==i||listed.getD j false:=by
   funext j
   by_cases hij:j=i
   ·subst hij;rw[Array.getD_eq_getD_getElem?,Array.getElem?_setIfInBounds_self_of_lt hsz];simp
   ·rw[getD_set_ne false (fun e=>hij e.symm)];simp[hij]
  refine⟨by rw[hgd];exact hg,fun j oj hj hl e he hb=>?_,(Co _ _ _).trans h.d,(DJ _ _ _).trans h.sz,fun t ht hno=>?_,fun t hno=>?_,fun j oj hjN hj hl=>?_⟩
  ·by_cases hij:i=j
   ·subst hij;obtain rfl:oj=o':=Option.some.inj (hj.symm.trans ho);have:=hall e he hb;by_cases hie:i=e.on
    ·rw[←hie,Array.getD_eq_getD_getElem?,Array.getElem?_setIfInBounds_self_of_lt hsz];rfl
    ·rw[getD_set_ne false hie];exact this
   ·rw[getD_set_ne false hij]at hl;have:=h.cl j oj hj hl e he hb;by_cases hie:i=e.on
    ·rw[←hie,Array.getD_eq_getD_getElem?,Array.getElem?_setIfInBounds_self_of_lt hsz];rfl
    ·rw[getD_set_ne false hie];exact this
  ·have hne:o'.dst≠some t:=hno i o' hiN ho;rw[AE v hne];exact hS t hne (h.old t ht hno)
  ·have hilt:i<listed.size:=by
    rcases Nat.lt_or_ge i listed.size with h'|h'
    ·exact h'
    ·rw[Array.getD_eq_getD_getElem?,Array.getElem?_eq_none h']at hun;simp at hun
   have hne:o'.dst≠some t:=hno i o' hiN ho (by rw[Array.getD_eq_getD_getElem?,Array.getElem?_setIfInBounds_self_of_lt hilt];rfl);rw[AE v hne];refine h.un t fun j oj hjN hj hl=>hno j oj hjN hj ?_;by_cases hij:i=j
   ·subst hij;rw[Array.getD_eq_getD_getElem?,Array.getElem?_setIfInBounds_self_of_lt hilt];rfl
   ·rw[getD_set_ne false hij];exact hl
  ·by_cases hij:i=j
   ·subst hij;obtain rfl:oj=o':=Option.some.inj (hj.symm.trans ho);unfold EI;cases hdd:oj.dst with
    |none=>rw[hdd]at hv;exact hv
    |some t=>
     dsimp only;rw[AR v (by rw[h.sz];exact(G3.apartB_one ha hiN ho).1 _ hdd)];rw[hdd]at hv;exact hv
   ·have hl':listed.getD j false=true:=by rw[getD_set_ne false hij]at hl;exact hl
    have hne:=G3.apartB_ne ha hiN hjN ho hj hij;have hold:=h.new j oj hjN hj hl';cases hdj:oj.dst with
    |none=>
     rw[hdj]at hold;trivial
    |some t=>
     rw[hdj]at hold hne;unfold EI at hold⊢;rw[hdj]at hold⊢;have hnt:o'.dst≠some t:=by rcases hne with h|h;(rw[h];simp);exact h
     dsimp only;rw[AE v hnt];exact hS t hnt hold
 ·by_cases hw2:∃(j:Nat) (oj:Oper),j<N∧ops[j]? =some oj∧oj.dst=some t
  ·obtain⟨j,oj,hjN,hj,hdj⟩:=hw2;obtain⟨e,he,heon,hb⟩:=G3.depsB_spec hd hiN ho ht hjN hj hdj;have hlj:=hall e he hb;rw[heon]at hlj;have hnew:=h.new j oj hjN hj hlj;unfold EI at hnew;rw[hdj]at hnew;exact hnew
  ·exact h.old t ((G3.apartB_one ha hiN ho).2.2 _ ht) fun j oj hjN hj hdj=>hw2 ⟨j,oj,hjN,hj,hdj⟩
theorem Ca{S:Nat→Value→World→Prop}{G:(Nat→Bool)→Act→World→Prop}{n:Nat}{a0:Act}(hd:G3.depsB .any ops ops.size=true)(ha:G3.apartB ops ops.size n=true)(hs:∀(i:Nat) (o:Oper),ops[i]? =some o→GrowStep P ops n a0 S G Q i o)
 (hdone:∀listed a w,listed.size=ops.size→BE ops ops.size S G n a0 listed a w→Region.ready .any ops listed=[]→Q .normal a w):
 ∀(f:Nat) (listed:Array Bool) (a:Act) (w:World),listed.size=ops.size→listed.toList.count false≤f→BE ops ops.size S G n a0 listed a w→wpAny P .any ops Q f listed a w:=by
 intro f;induction f with
 |zero=>
  intro listed a w hz hc h;have hr:Region.ready .any ops listed=[]:=by
   apply List.eq_nil_iff_forall_not_mem.2;intro i hi;obtain⟨hun,o,ho,_⟩:=mem_ready.1 hi;have hlt:i<listed.size:=by rw[hz];exact(Array.getElem?_eq_some_iff.1 ho).1
   have hm:false∈listed.toList:=by
    rw[Array.getD_eq_getD_getElem?,Array.getElem?_eq_getElem hlt]at hun;simp only[Option.getD_some]at hun;rw[←hun];exact Array.getElem_mem_toList hlt
   have:=List.count_pos_iff.2 hm;omega
  exact⟨hr,hdone _ _ _ hz h hr⟩
 |succ f ih=>
  intro listed a w hz hc h;refine⟨fun hr=>hdone _ _ _ hz h hr,fun i hi=>?_⟩;obtain⟨hun,o,ho,_⟩:=mem_ready.1 hi;have hlt:i<listed.size:=by rw[hz];exact(Array.getElem?_eq_some_iff.1 ho).1
  have hm:listed[i]=false:=by
   rw[Array.getD_eq_getD_getElem?,Array.getElem?_eq_getElem hlt]at hun;simpa using hun
  refine wpOp_mono (fun a' w' h'=>ih _ a' w' (by simpa using hz) ?_ h') (Bs (NL _) (Array.getElem?_eq_some_iff.1 ho).1 hd ha ho (hs i o ho) h hi);rw[Array.setIfInBounds_def,dif_pos hlt,Array.toList_set,List.count_set (by simpa using hlt)];have hpos:0<listed.toList.count false:=List.count_pos_iff.2 (by rw[←hm];exact Array.getElem_mem_toList hlt);simp only[Array.getElem_toList,hm]
  simpa using hc
theorem wp_region_grow_put{id:Nat}{l:List Oper}{a:Act}{w:World}(S:Nat→Value→World→Prop)(G:(Nat→Bool)→Act→World→Prop)(n:Nat)(ds:List Nat)
 (hm:P.follows .mixedOrders=true)(hB:(G3.depsB .any l.toArray l.length&&G3.apartB l.toArray l.length n&&DR .any l.toArray&&decide (l.filterMap (·.dst)=ds))=true)
 (hn:a.tmps.size=n)(hdef:a.defers=[])(hG:G (fun _=>false) a w.drew)(hold:∀t,t∉ds→S t (a.eval (.tmp t)) w.drew)
 (hs:BX P l.toArray n a S G Q 0 l)
 (hend:∀v w' (dn:Nat→Bool),(∀i,i<l.length→dn i=true)→G dn (Aj a v ds) w'→(∀t,t∈ds→S t (v t) w')→Q .normal (Aj a v ds) w'):
 (Code.region id l.toArray true).wp P Q a w:=by
 simp only[Bool.and_eq_true,decide_eq_true_eq]at hB;obtain⟨⟨⟨hd,ha⟩,hah⟩,hds⟩:=hB;have hd:G3.depsB .any l.toArray l.toArray.size=true:=by simpa using hd
 have ha:G3.apartB l.toArray l.toArray.size n=true:=by simpa using ha
 refine wp_region_any hm ?_;refine Ca hd ha (fun i o ho=>by have:=hs.at i o (by simpa using ho);simpa using this) ?_ l.toArray.size _ a _ (by simp) ?_ ?_ (S:=S) (G:=G) (n:=n) (a0:=a)
 ·intro listed a' w' hz h hr;have hall:=CE hah hz hr
  have hmem:∀(i:Nat) (o:Oper) (t:Nat),l.toArray[i]? =some o→o.dst=some t→t∈ds:=fun i o t ho hdt=>by
   rw[←hds];obtain⟨hlt,e⟩:=List.getElem?_eq_some_iff.1 (show l[i]? =some o by simpa using ho);exact List.mem_filterMap.2 ⟨o,e▸List.getElem_mem hlt,hdt⟩
  have e:a'=Aj a (fun t=>a'.eval (.tmp t)) ds:=by
   refine D7 (by rw[h.d,Bg,hdef]) (by rw[h.sz,BJ,hn]) fun t ht=>?_;rw[CC _ t ds a (by rw[hn,←h.sz];exact ht)];by_cases hm:t∈ds
   ·rw[if_pos hm]
   ·rw[if_neg hm];exact h.un t fun i o _ ho _ hdt=>hm (hmem i o t ho hdt)
  rw[e];refine hend _ w' _ (fun i hi=>hall i (by simpa using hi)) (e▸h.g) (fun t ht=>?_);rw[←hds]at ht;obtain⟨o,ho,hdt⟩:=List.mem_filterMap.1 ht;obtain⟨i,hi,e2⟩:=List.getElem_of_mem ho;have hli:l.toArray[i]? =some o:=by simp[List.getElem?_eq_getElem hi,e2]
  have hnew:=h.new i o (by simpa using hi) hli (hall i (Array.getElem?_eq_some_iff.1 hli).1);unfold EI at hnew;rw[hdt]at hnew;exact hnew
 ·simp
 ·have hg0:(fun j=>(Array.replicate l.toArray.size false).getD j false)=fun _=>false:=by
   funext j;exact getD_replicate_false _ _
  refine⟨by rw[hg0];exact hG,fun j oj _ hl=>(by rw[getD_replicate_false]at hl;cases hl),hdef,hn,fun t ht hno=>?_,fun t _=>rfl,fun i o _ ho hl=>?_⟩
  ·refine hold t fun hm=>?_;rw[←hds]at hm;obtain⟨o,ho,hdt⟩:=List.mem_filterMap.1 hm;obtain⟨i,hi,e2⟩:=List.getElem_of_mem ho;exact hno i o (by simpa using hi) (by simp[List.getElem?_eq_getElem hi,e2]) hdt
  ·rw[getD_replicate_false]at hl;cases hl
end
end Go.Proofs.YtejhpdcjafbklaaGreatDoor.G5
namespace Go.Proofs.YtejhpdcjafbklaaGreatDoor.G2
open Go.RowKit
section
variable {P:Program} {ops:Array Oper} {md:Region.Mode} {Q:Exit→Act→World→Prop}
def apartB(ops:Array Oper)(n:Nat):Bool:=
 ((List.range ops.size).all fun i=>(List.range ops.size).all fun j=>i==j||
  match ops[i]?,ops[j]? with
  |some x,some y=>x.dst==none||x.dst != y.dst
  |_,_=>true)&&
 ops.all (fun o=>match o.dst with|some t=>decide (t<n)|none=>true)&&
 ops.all fun o=>(o.op.operands.toList.filterMap Kk).all fun t=>decide (t<n)
theorem apartB_ne{n:Nat}(h:apartB ops n=true){i j:Nat}{x y:Oper}(hx:ops[i]? =some x)(hy:ops[j]? =some y)(hne:i≠j):x.dst=none∨x.dst≠y.dst:=by
 unfold apartB at h;simp only[Bool.and_eq_true]at h;have h1:=List.all_eq_true.1 h.1.1 i (List.mem_range.2 (Array.getElem?_eq_some_iff.1 hx).1);have h2:=List.all_eq_true.1 h1 j (List.mem_range.2 (Array.getElem?_eq_some_iff.1 hy).1);simp only[hx,hy,Bool.or_eq_true,beq_iff_eq,bne_iff_ne]at h2;rcases h2 with h2|h2
 ·exact(hne h2).elim
 ·exact h2
theorem EX{n:Nat}(h:apartB ops n=true){i:Nat}{x:Oper}(hx:ops[i]? =some x){t:Nat}(ht:x.dst=some t):t<n:=by
 unfold apartB at h;simp only[Bool.and_eq_true]at h;have h1:=(Array.all_eq_true_iff_forall_mem.1 h.1.2) x (by obtain⟨hlt,e⟩:=Array.getElem?_eq_some_iff.1 hx;rw[←e];exact Array.getElem_mem hlt);simp only[ht,decide_eq_true_eq]at h1;exact h1
theorem F2{n:Nat}(h:apartB ops n=true){i:Nat}{x:Oper}(hx:ops[i]? =some x){t:Nat}(ht:Operand.tmp t∈x.op.operands):t<n:=by
 unfold apartB at h;simp only[Bool.and_eq_true]at h;have h1:=(Array.all_eq_true_iff_forall_mem.1 h.2) x (by obtain⟨hlt,e⟩:=Array.getElem?_eq_some_iff.1 hx;rw[←e];exact Array.getElem_mem hlt);have h2:=List.all_eq_true.1 h1 t (List.mem_filterMap.2 ⟨.tmp t,by simpa using ht,rfl⟩);exact of_decide_eq_true h2
def I2(md:Region.Mode)(ops:Array Oper)(S:Nat→Value→World→Prop)(G:World→Prop)(o:Oper)(c:Bool):Prop:=
 ∃j b oj tj,o.guard=some (j,b)∧ops[j]? =some oj∧oj.dst=some tj∧(o.after.any fun e=>e.on==j&&Region.binds md e)=true∧
  ∀v w,G w→S tj v w→(match v with| .bool x=>x==b|_=>false)=c
def DF(P:Program)(md:Region.Mode)(ops:Array Oper)(S:Nat→Value→World→Prop)(Z:Nat→World→Prop)(G:World→Prop)(Q:Exit→Act→World→Prop)(i:Nat)(o:Oper):Prop:=
 (GrowStep P S Z G Q i o∧(o.guard=none∨I2 md ops S G o true))∨(I2 md ops S G o false∧∀w,G w→SAt S Z i o.dst undef w)
theorem DF.free{S:Nat→Value→World→Prop}{Z:Nat→World→Prop}{G:World→Prop}{i:Nat}{o:Oper}(h:GrowStep P S Z G Q i o)(hg:o.guard=none):DF P md ops S Z G Q i o:= .inl ⟨h,.inl hg⟩
theorem Gt{S:Nat→Value→World→Prop}{Z:Nat→World→Prop}{G:World→Prop}{n:Nat}(ha:apartB ops n=true){o:Oper}{c:Bool}(hg:I2 md ops S G o c){listed:Array Bool}{a0 a:Act}{w:World}(h:BE ops S Z G n a0 listed a w)
 (hall:∀e∈o.after,Region.binds md e=true→listed.getD e.on false=true):Region.wanted o (yielded ops a.tmps)=c:=by
 obtain⟨j,b,oj,tj,h1,h2,h3,h4,h5⟩:=hg;simp only[Array.any_eq_true',Bool.and_eq_true,beq_iff_eq]at h4;obtain⟨e,he,e1,e2⟩:=h4;have hl:=hall e he e2;rw[e1]at hl;have hn:=h.new j oj h2 hl;unfold EI at hn;rw[h3]at hn;have hn:S tj (a.eval (.tmp tj)) w:=hn;have hc:=h5 _ _ h.g hn;have hlt:tj<a.tmps.size:=by rw[h.sz];exact EX ha h2 h3
 have hev:a.eval (.tmp tj)=a.tmps[tj]:=by simp[Act.eval,Array.getElem?_eq_getElem hlt]
 rw[hev]at hc;unfold Region.wanted yielded;simp only[h1,h2,h3,Option.bind_some,Array.getElem?_eq_getElem hlt];generalize a.tmps[tj]=v at hc;cases v<;>simp_all
theorem Bs{S:Nat→Value→World→Prop}{Z:Nat→World→Prop}{G:World→Prop}{n i:Nat}(hd:depsB md ops=true)(ha:apartB ops n=true){o:Oper}(ho:ops[i]? =some o)(hs:DF P md ops S Z G Q i o)
 {listed:Array Bool}{a0 a:Act}{w:World}(h:BE ops S Z G n a0 listed a w)(hr:i∈Region.ready md ops listed):wpOp P ops Q i (BE ops S Z G n a0 (listed.setIfInBounds i true)) a w:=by
 obtain⟨hun,o',ho',hall⟩:=mem_ready.1 hr;obtain rfl:o'=o:=Option.some.inj (ho'.symm.trans ho);have key:∀a' w',(∃v,a'=a.put o'.dst v∧G w'∧(∀t u,o'.dst≠some t→S t u w→S t u w')∧(∀j,j≠i→Z j w→Z j w')∧SAt S Z i o'.dst v w')→BE ops S Z G n a0 (listed.setIfInBounds i true) a' w':=by
  rintro a' w' ⟨v,rfl,hg,hS,hZ,hv⟩;refine⟨hg,(Co _ _ _).trans h.d,(DJ _ _ _).trans h.sz,fun t ht hno=>?_,fun t hno=>?_,fun j oj hj hl=>?_⟩
  ·have hne:o'.dst≠some t:=hno i o' ho;rw[AE v hne];exact hS t _ hne (h.old t ht hno)
  ·have hilt:i<listed.size:=by
    rcases Nat.lt_or_ge i listed.size with h'|h'
    ·exact h'
    ·rw[Array.getD_eq_getD_getElem?,Array.getElem?_eq_none h']at hun;simp at hun
   have hne:o'.dst≠some t:=hno i o' ho (by rw[Array.getD_eq_getD_getElem?,Array.getElem?_setIfInBounds_self_of_lt hilt];rfl);rw[AE v hne];refine h.un t fun j oj hj hl=>hno j oj hj ?_;by_cases hij:i=j
   ·subst hij;rw[Array.getD_eq_getD_getElem?,Array.getElem?_setIfInBounds_self_of_lt hilt];rfl
   ·rw[getD_set_ne false hij];exact hl
  ·by_cases hij:i=j
   ·subst hij;obtain rfl:oj=o':=Option.some.inj (hj.symm.trans ho);unfold EI;cases hdd:oj.dst with
    |none=>rw[hdd]at hv;exact hv
    |some t=>
     dsimp only;rw[AR v (by rw[h.sz];exact EX ha ho hdd)];rw[hdd]at hv;exact hv
   ·have hl':listed.getD j false=true:=by rw[getD_set_ne false hij]at hl;exact hl
    have hne:=apartB_ne ha ho hj hij;have hold:=h.new j oj hj hl';cases hdj:oj.dst with
    |none=>
     rw[hdj]at hold;exact hZ j (fun e=>hij e.symm) hold
    |some t=>
     rw[hdj]at hold hne;unfold EI at hold⊢;rw[hdj]at hold⊢;have hnt:o'.dst≠some t:=by rcases hne with h|h;(rw[h];simp);exact h
     dsimp only;rw[AE v hnt];exact hS t _ hnt hold
 rcases hs with⟨hs,hgd⟩|⟨hgd,hu⟩
 ·have hw:Region.wanted o' (yielded ops a.tmps)=true:=by
   rcases hgd with hgd|hgd
   ·unfold Region.wanted;rw[hgd]
   ·exact Gt ha hgd h hall
  unfold wpOp;simp only[ho,hw,if_true];left;refine Oper.wp_mono key (hs a w h.g fun t ht=>?_);by_cases hw2:∃(j:Nat) (oj:Oper),ops[j]? =some oj∧oj.dst=some t
  ·obtain⟨j,oj,hj,hdj⟩:=hw2;obtain⟨e,he,heon,hb⟩:=depsB_spec hd ho ht hj hdj;have hlj:=hall e he hb;rw[heon]at hlj;have hnew:=h.new j oj hj hlj;unfold EI at hnew;rw[hdj]at hnew;exact hnew
  ·exact h.old t (F2 ha ho ht) fun j oj hj hdj=>hw2 ⟨j,oj,hj,hdj⟩
 ·have hw:Region.wanted o' (yielded ops a.tmps)=false:=Gt ha hgd h hall;unfold wpOp;simp only[ho,hw];exact key _ _ ⟨undef,rfl,h.g,fun _ _ _ hs=>hs,fun _ _ hz=>hz,hu w h.g⟩
theorem Ca{S:Nat→Value→World→Prop}{Z:Nat→World→Prop}{G:World→Prop}{n:Nat}{a0:Act}(hd:depsB md ops=true)(ha:apartB ops n=true)(hs:∀(i:Nat) (o:Oper),ops[i]? =some o→DF P md ops S Z G Q i o)
 (hdone:∀listed a w,listed.size=ops.size→BE ops S Z G n a0 listed a w→Region.ready md ops listed=[]→Q .normal a w):
 ∀(f:Nat) (listed:Array Bool) (a:Act) (w:World),listed.size=ops.size→listed.toList.count false≤f→BE ops S Z G n a0 listed a w→wpAny P md ops Q f listed a w:=by
 intro f;induction f with
 |zero=>
  intro listed a w hz hc h;have hr:Region.ready md ops listed=[]:=by
   apply List.eq_nil_iff_forall_not_mem.2;intro i hi;obtain⟨hun,o,ho,_⟩:=mem_ready.1 hi;have hlt:i<listed.size:=by rw[hz];exact(Array.getElem?_eq_some_iff.1 ho).1
   have hm:false∈listed.toList:=by
    rw[Array.getD_eq_getD_getElem?,Array.getElem?_eq_getElem hlt]at hun;simp only[Option.getD_some]at hun;rw[←hun];exact Array.getElem_mem_toList hlt
   have:=List.count_pos_iff.2 hm;omega
  exact⟨hr,hdone _ _ _ hz h hr⟩
 |succ f ih=>
  intro listed a w hz hc h;refine⟨fun hr=>hdone _ _ _ hz h hr,fun i hi=>?_⟩;obtain⟨hun,o,ho,_⟩:=mem_ready.1 hi;have hlt:i<listed.size:=by rw[hz];exact(Array.getElem?_eq_some_iff.1 ho).1
  have hm:listed[i]=false:=by
   rw[Array.getD_eq_getD_getElem?,Array.getElem?_eq_getElem hlt]at hun;simpa using hun
  refine wpOp_mono (fun a' w' h'=>ih _ a' w' (by simpa using hz) ?_ h') (Bs hd ha ho (hs i o ho) h hi);rw[Array.setIfInBounds_def,dif_pos hlt,Array.toList_set,List.count_set (by simpa using hlt)];have hpos:0<listed.toList.count false:=List.count_pos_iff.2 (by rw[←hm];exact Array.getElem_mem_toList hlt);simp only[Array.getElem_toList,hm];simpa using hc
def Eb(P:Program)(md:Region.Mode)(ops:Array Oper)(S:Nat→Value→World→Prop)(Z:Nat→World→Prop)(G:World→Prop)(Q:Exit→Act→World→Prop):Nat→List Oper→Prop
 |_,[]=>True
 |k,o::r=>DF P md ops S Z G Q k o∧Eb P md ops S Z G Q (k+1) r
theorem Eb.at{S:Nat→Value→World→Prop}{Z:Nat→World→Prop}{G:World→Prop}:∀{l:List Oper} {k:Nat},Eb P md ops S Z G Q k l→∀(i:Nat) (o:Oper),l[i]? =some o→DF P md ops S Z G Q (k+i) o
 |[],_,_,i,o,h=>by simp at h
 |x::r,k,⟨h1,h2⟩,0,o,h=>by simp at h;subst h;exact h1
 |x::r,k,⟨h1,h2⟩,i+1,o,h=>by
  have:=Eb.at h2 i o (by simpa using h);rw[show k+(i+1)=k+1+i from by omega];exact this
theorem wp_region_grow_put{id:Nat}{l:List Oper}{a:Act}{w:World}(S:Nat→Value→World→Prop)(Z:Nat→World→Prop)(G:World→Prop)(n:Nat)(ds:List Nat)
 (hm:P.follows .mixedOrders=true)(hB:(depsB .any l.toArray&&apartB l.toArray n&&DR .any l.toArray&&decide (l.filterMap (·.dst)=ds))=true)
 (hn:a.tmps.size=n)(hdef:a.defers=[])(hG:G w.drew)(hold:∀t,t∉ds→S t (a.eval (.tmp t)) w.drew)
 (hs:Eb P .any l.toArray S Z G Q 0 l)
 (hend:∀v w',G w'→(∀t,t∈ds→S t (v t) w')→(∀(i:Nat) (o:Oper),l[i]? =some o→o.dst=none→Z i w')→Q .normal (Aj a v ds) w'):
 (Code.region id l.toArray true).wp P Q a w:=by
 simp only[Bool.and_eq_true,decide_eq_true_eq]at hB;obtain⟨⟨⟨hd,ha⟩,hah⟩,hds⟩:=hB;refine wp_region_any hm ?_;refine Ca hd ha (fun i o ho=>by have:=hs.at i o (by simpa using ho);simpa using this) ?_ l.toArray.size _ a _ (by simp) ?_ ?_ (S:=S) (Z:=Z) (G:=G) (n:=n) (a0:=a)
 ·intro listed a' w' hz h hr;have hall:=CE hah hz hr
  have hmem:∀(i:Nat) (o:Oper) (t:Nat),l.toArray[i]? =some o→o.dst=some t→t∈ds:=fun i o t ho hdt=>by
   rw[←hds];obtain⟨hlt,e⟩:=List.getElem?_eq_some_iff.1 (show l[i]? =some o by simpa using ho);exact List.mem_filterMap.2 ⟨o,e▸List.getElem_mem hlt,hdt⟩
  have e:a'=Aj a (fun t=>a'.eval (.tmp t)) ds:=by
   refine D7 (by rw[h.d,Bg,hdef]) (by rw[h.sz,BJ,hn]) fun t ht=>?_;rw[CC _ t ds a (by rw[hn,←h.sz];exact ht)];by_cases hm:t∈ds
   ·rw[if_pos hm]
   ·rw[if_neg hm];exact h.un t fun i o ho _ hdt=>hm (hmem i o t ho hdt)
  rw[e];refine hend _ w' h.g (fun t ht=>?_) (fun i o ho hdn=>?_)
  ·rw[←hds]at ht;obtain⟨o,ho,hdt⟩:=List.mem_filterMap.1 ht;obtain⟨i,hi,e2⟩:=List.getElem_of_mem ho;have hli:l.toArray[i]? =some o:=by simp[List.getElem?_eq_getElem hi,e2]
   have hnew:=h.new i o hli (hall i (Array.getElem?_eq_some_iff.1 hli).1);unfold EI at hnew;rw[hdt]at hnew;exact hnew
  ·have ho':l.toArray[i]? =some o:=by simpa using ho
   have hnew:=h.new i o ho' (hall i (Array.getElem?_eq_some_iff.1 ho').1);rw[hdn]at hnew;exact hnew
 ·simp
 ·refine⟨hG,hdef,hn,fun t ht hno=>?_,fun t _=>rfl,fun i o ho hl=>?_⟩
  ·refine hold t fun hm=>?_;rw[←hds]at hm;obtain⟨o,ho,hdt⟩:=List.mem_filterMap.1 hm;obtain⟨i,hi,e2⟩:=List.getElem_of_mem ho;exact hno i o (by simp[List.getElem?_eq_getElem hi,e2]) hdt
  ·rw[getD_replicate_false]at hl;cases hl
end
end Go.Proofs.YtejhpdcjafbklaaGreatDoor.G2
namespace Go.Proofs.YtejhpdcjafbklaaGreatDoor
open Go.RowKit
def gvL(u:PU):Tx:=u.scheme++[58]++u.raw
theorem OF(u:PU):gvL u=u.scheme++58::u.raw:=by unfold gvL;simp
def gvY(W0:World)(u:PU)(W:World)(y:UV):Prop:=y.row.all (·.oneCell')=true∧∀v,By (gvL u)= .val v→Ux W0.heap.size W y v
def gvK(u:PU)(kd:Int):Prop:=kd=0↔∃v,By (gvL u)= .val v
theorem gvY.le{W0 W W':World}{u:PU}{y:UV}(h:gvY W0 u W y)(k:Le W W'):gvY W0 u W' y:=⟨h.1,fun v hv=>⟨(h.2 v hv).toUq.le k,(h.2 v hv).op,(h.2 v hv).oh⟩⟩
theorem gvY.keepZ{W0 W W':World}{u:PU}{y:UV}{b:Nat}(h:gvY W0 u W y)(hb:W.heap[b]? =some (.cells Ai 35 (0,0)))(k:Kp b W W'):gvY W0 u W' y:=
 ⟨h.1,fun v hv=>⟨(h.2 v hv).toUq.keepZ hb (fun g hne hg=>k.block g hg (fun e=>hne (by injection e))) (EE hv).1 (EE hv).2,(h.2 v hv).op,(h.2 v hv).oh⟩⟩
theorem AY.kpU{base b:Nat}{w w':World}{v:Value}{l:Tx}{cs:Array Value}(h:AY base w v l)(hb:w.heap[b]? =some (.cells cs 35 (0,0)))(k:Kp b w w'):AY base w' v l:=by
 refine World.ownsRow.kept h k ?_;by_cases hv:v.ownBlock=some b
 ·obtain⟨_,c,fz,e⟩:=AK h b hv;rw[hb]at e;injection e with e
  injection e with _ e _
  exact absurd e (by decide)
 ·cases hw:v.ownBlock with
  |none=>exact .inl rfl
  |some g=>exact .inr (fun e=>hv (by rw[hw,e]))
def gvS(W0:World)(b1:Nat)(vs vr:Value)(u:PU):Nat→Value→World→Prop
 |1,v,_=>v=(.pointer (some ⟨b1,0,none⟩))
 |12,v,_=>v=(.pointer (some ⟨b1,0,none⟩))
 |13,v,_=>v=vs
 |14,v,w=>AY W0.heap.size w v u.scheme
 |15,v,w=>AY W0.heap.size w v [58]
 |16,v,w=>AY W0.heap.size w v (u.scheme++[58])
 |17,v,_=>v=(.pointer (some ⟨b1,1,none⟩))
 |18,v,_=>v=vr
 |19,v,w=>AY W0.heap.size w v (gvL u)
 |20,v,w=>∃(y:UV) (kd:Int),v= .tuple #[y.val,.int .i64 kd]∧gvY W0 u w y∧gvK u kd
 |11,v,w=>∃(y:UV) (kd:Int),v= .tuple #[y.val,.int .i64 kd]∧gvY W0 u w y∧gvK u kd
 |21,v,w=>∃(y:UV),v=y.val∧gvY W0 u w y
 |22,v,_=>∃(kd:Int),v= .int .i64 kd∧gvK u kd
 |5,v,_=>∃(kd:Int),v= .int .i64 kd∧gvK u kd
 |_,_,_=>True
theorem Jf(W0:World)(b1:Nat)(vs vr:Value)(u:PU)(t:Nat)(v:Value)(w1 w2:World)(k:Le w1 w2)(h:gvS W0 b1 vs vr u t v w1):gvS W0 b1 vs vr u t v w2:=by
 unfold gvS at h⊢;split at h<;>first|exact h|exact AY.le h k|(obtain⟨y,kd,e,h1,h2⟩:=h;exact⟨y,kd,e,h1.le k,h2⟩)|(obtain⟨y,e,h1⟩:=h;exact⟨y,e,h1.le k⟩)
structure gvG(W0:World)(dn:Nat→Bool)(a:Act)(W:World):Prop where
 le:Le W0 W
 l14:Lt W (a.eval (.tmp 14))
 l15:Lt W (a.eval (.tmp 15))
 l16:Lt W (a.eval (.tmp 16))
 a45:Ap (a.eval (.tmp 14)) (a.eval (.tmp 15))
 a65:Ap (a.eval (.tmp 16)) (a.eval (.tmp 15))
 d:dn 12=true→∃g,a.eval (.tmp 4)=(.pointer (some ⟨g,0,none⟩))∧W0.heap.size≤g∧(dn 13=false→W.heap[g]? =some (.cells Ai 35 (0,0)))∧(dn 13=true→∃y:UV,a.eval (.tmp 21)=y.val∧W.heap[g]? =some (.cells y.row 35 (0,0)))
theorem gvG.put{W0 W:World}{dn:Nat→Bool}{a:Act}{i d:Nat}{v:Value}(h:gvG W0 dn a W)(h1:i≠12)(h2:i≠13)(h3:d≠14)(h4:d≠15)(h5:d≠16)(h6:d≠4)(h7:d≠21∨dn 13=false):gvG W0 (fun j=>j==i||dn j) (a.put (some d) v) W:=by
 have e1:(12==i||dn 12)=dn 12:=by simp[Ne.symm h1]
 have e2:(13==i||dn 13)=dn 13:=by simp[Ne.symm h2]
 refine⟨h.le,?_,?_,?_,?_,?_,?_⟩
 ·rw[AE v (by simpa using h3)];exact h.l14
 ·rw[AE v (by simpa using h4)];exact h.l15
 ·rw[AE v (by simpa using h5)];exact h.l16
 ·rw[AE v (by simpa using h3),AE v (by simpa using h4)];exact h.a45
 ·rw[AE v (by simpa using h5),AE v (by simpa using h4)];exact h.a65
 ·show(12==i||dn 12)=true→∃g,_∧_∧((13==i||dn 13)=false→_)∧((13==i||dn 13)=true→_);rw[e1,e2,AE v (by simpa using h6)];intro hd;obtain⟨g,e,hb,hz,hy⟩:=h.d hd;refine⟨g,e,hb,hz,fun h13=>?_⟩;rcases h7 with h7|h7
  ·rw[AE v (by simpa using h7)];exact hy h13
  ·rw[h7]at h13;cases h13
theorem gvG.to{W0 W W':World}{dn:Nat→Bool}{a:Act}(h:gvG W0 dn a W)(k:Le W W'):gvG W0 dn a W':=
 ⟨h.le.trans k,h.l14.le k,h.l15.le k,h.l16.le k,h.a45,h.a65,fun hd=>by obtain⟨g,e,hb,hz,hy⟩:=h.d hd;exact⟨g,e,hb,fun x=>k.heap (hz x),fun x=>by obtain⟨y,e1,e2⟩:=hy x;exact⟨y,e1,k.heap e2⟩⟩⟩
section
variable {P:Program} {Q:Exit→Act→World→Prop} {ops:Array Oper} {n:Nat} {S:Nat→Value→World→Prop} {G:(Nat→Bool)→Act→World→Prop} {i:Nat} {o:Oper} {a0:Act}
theorem G5.det(h:∀(dn:Nat→Bool) (a:Act) (w:World),G dn a w→(∀t,Operand.tmp t∈o.op.operands→S t (a.eval (.tmp t)) w)→∃v,(execOp a.eval o).run P w= .ok (.value v) w∧SAt S G5.TT i o.dst v w)
 (hp:∀dn a w v,dn i=false→(∀(j:Nat) (oj:Oper),ops[j]? =some oj→dn j=true→∀e∈oj.after,Region.binds .any e=true→dn e.on=true)→G dn a w→G (fun j=>j==i||dn j) (a.put o.dst v) w):G5.GrowStep P ops n a0 S G Q i o:=by
 intro dn a w hz hi hd0 hc hu hg hop;obtain⟨v,hr,hv⟩:=h dn a w hg hop;unfold Oper.wp;rw[hr];exact⟨v,rfl,hp _ _ _ _ hi hc hg,fun _ _ hs=>hs,hv⟩
theorem G5.run(h:∀(dn:Nat→Bool) (a:Act) (w:World),a.tmps.size=n→dn i=false→(∀e∈o.after,Region.binds .any e=true→dn e.on=true)→(∀(j:Nat) (oj:Oper),ops[j]? =some oj→dn j=true→∀e∈oj.after,Region.binds .any e=true→dn e.on=true)→(∀(j:Nat) (oj:Oper) (t:Nat),ops[j]? =some oj→dn j=false→oj.dst=some t→a.eval (.tmp t)=a0.eval (.tmp t))→G dn a w→(∀t,Operand.tmp t∈o.op.operands→S t (a.eval (.tmp t)) w)→∃v w',(execOp a.eval o).run P w= .ok (.value v) w'∧G (fun j=>j==i||dn j) (a.put o.dst v) w'∧(∀t,o.dst≠some t→S t (a.eval (.tmp t)) w→S t (a.eval (.tmp t)) w')∧SAt S G5.TT i o.dst v w'):G5.GrowStep P ops n a0 S G Q i o:=by
 intro dn a w hz hi hd0 hc hu hg hop;obtain⟨v,w',hr,h1,h2,h3⟩:=h dn a w hz hi hd0 hc hu hg hop;unfold Oper.wp;rw[hr];exact⟨v,rfl,h1,h2,h3⟩
theorem G5.store(hd:o.dst=none)(h:∀(dn:Nat→Bool) (a:Act) (w:World),a.tmps.size=n→dn i=false→(∀e∈o.after,Region.binds .any e=true→dn e.on=true)→(∀(j:Nat) (oj:Oper),ops[j]? =some oj→dn j=true→∀e∈oj.after,Region.binds .any e=true→dn e.on=true)→(∀(j:Nat) (oj:Oper) (t:Nat),ops[j]? =some oj→dn j=false→oj.dst=some t→a.eval (.tmp t)=a0.eval (.tmp t))→G dn a w→(∀t,Operand.tmp t∈o.op.operands→S t (a.eval (.tmp t)) w)→∃w',(execOp a.eval o).run P w= .ok .skip w'∧G (fun j=>j==i||dn j) a w'∧(∀t,S t (a.eval (.tmp t)) w→S t (a.eval (.tmp t)) w')):G5.GrowStep P ops n a0 S G Q i o:=by
 intro dn a w hz hi hd0 hc hu hg hop;obtain⟨w',hr,h1,h2⟩:=h dn a w hz hi hd0 hc hu hg hop;unfold Oper.wp;rw[hr];refine⟨undef,rfl,?_,fun t _=>h2 t,?_⟩
 ·rw[hd];exact h1
 ·rw[hd];trivial
theorem G5.call(h:∀(dn:Nat→Bool) (a:Act) (w:World),a.tmps.size=n→dn i=false→(∀e∈o.after,Region.binds .any e=true→dn e.on=true)→(∀(j:Nat) (oj:Oper),ops[j]? =some oj→dn j=true→∀e∈oj.after,Region.binds .any e=true→dn e.on=true)→(∀(j:Nat) (oj:Oper) (t:Nat),ops[j]? =some oj→dn j=false→oj.dst=some t→a.eval (.tmp t)=a0.eval (.tmp t))→G dn a w→(∀t,Operand.tmp t∈o.op.operands→S t (a.eval (.tmp t)) w)→∃f args,(execOp a.eval o).run P w= .ok (.enter f args) w∧Calls P f args w fun e w'=>∃v,e= .returned v∧G (fun j=>j==i||dn j) (a.put o.dst v) w'∧(∀t,o.dst≠some t→S t (a.eval (.tmp t)) w→S t (a.eval (.tmp t)) w')∧SAt S G5.TT i o.dst v w'):G5.GrowStep P ops n a0 S G Q i o:=by
 intro dn a w hz hi hd0 hc hu hg hop;obtain⟨f,args,hr,hcl⟩:=h dn a w hz hi hd0 hc hu hg hop;unfold Oper.wp;rw[hr,Oper.upon_enter];refine hcl.mono ?_;rintro e w' ⟨v,rfl,h1,h2,h3⟩;exact⟨v,rfl,h1,h2,h3⟩
theorem G5.append(s x:Operand)(t:TypeId)(hop:o.op=Op.call {callee:=Callee.builtin Builtin.append,args:= #[s,x],argTypes:= #[t,t]})(h:∀(dn:Nat→Bool) (a:Act) (w:World),a.tmps.size=n→dn i=false→(∀e∈o.after,Region.binds .any e=true→dn e.on=true)→(∀(j:Nat) (oj:Oper),ops[j]? =some oj→dn j=true→∀e∈oj.after,Region.binds .any e=true→dn e.on=true)→(∀(j:Nat) (oj:Oper) (t:Nat),ops[j]? =some oj→dn j=false→oj.dst=some t→a.eval (.tmp t)=a0.eval (.tmp t))→G dn a w→(∀t,Operand.tmp t∈o.op.operands→S t (a.eval (.tmp t)) w)→∃v w',(Builtin.append_ #[t,t] o.type #[a.eval s,a.eval x]).run P w= .ok v w'∧G (fun j=>j==i||dn j) (a.put o.dst v) w'∧(∀t,o.dst≠some t→S t (a.eval (.tmp t)) w→S t (a.eval (.tmp t)) w')∧SAt S G5.TT i o.dst v w'):G5.GrowStep P ops n a0 S G Q i o:=by
 intro dn a w hz hi hd0 hc hu hg hop';obtain⟨v,w',hr,h1,h2,h3⟩:=h dn a w hz hi hd0 hc hu hg hop';unfold Oper.wp;simp[execOp,hop,resolve,invoke,builtin,hr,Result.andThen];exact⟨v,rfl,h1,h2,h3⟩
end
theorem AY.keepU{base:Nat}{W W':World}{v:Value}{l:Tx}(h:AY base W v l)(k:W.grownBy W' v.ownBlock)(g:Nat)(cs:Array Value)(hg:W.heap[g]? =some (.cells cs 35 (0,0))):W'.heap[g]? =some (.cells cs 35 (0,0)):=by
 rw[k.block g (AQ hg) (fun e=>?_)]
 ·exact hg
 ·obtain⟨_,c,fz,e2⟩:=AK h g e.symm;rw[hg]at e2;injection e2 with e2
  injection e2 with _ e2 _
  exact absurd e2 (by decide)
theorem gvG.set14{W0 W W':World}{dn:Nat→Bool}{a:Act}{v:Value}(h:gvG W0 dn a W)(hz:a.tmps.size=32)(k:Le W W')(hf:Fr W v)(hl:Lt W' v):gvG W0 (fun j=>j==2||dn j) (a.put (some 14) v) W':=by
 have h':=h.to k;refine⟨h'.le,?_,?_,?_,?_,?_,?_⟩
 ·rw[AR _ (by rw[hz];decide)];exact hl
 ·rw[AE v (by simp)];exact h'.l15
 ·rw[AE v (by simp)];exact h'.l16
 ·rw[AR _ (by rw[hz];decide),AE v (by simp)];exact(Ap.fr h.l15 hf).symm
 ·rw[AE v (by simp),AE v (by simp)];exact h.a65
 ·rw[AE v (by simp),AE v (by simp)];exact h'.d
theorem gvG.set15{W0 W W':World}{dn:Nat→Bool}{a:Act}{v:Value}(h:gvG W0 dn a W)(hz:a.tmps.size=32)(k:Le W W')(hf:Fr W v)(hl:Lt W' v):gvG W0 (fun j=>j==3||dn j) (a.put (some 15) v) W':=by
 have h':=h.to k;refine⟨h'.le,?_,?_,?_,?_,?_,?_⟩
 ·rw[AE v (by simp)];exact h'.l14
 ·rw[AR _ (by rw[hz];decide)];exact hl
 ·rw[AE v (by simp)];exact h'.l16
 ·rw[AE v (by simp),AR _ (by rw[hz];decide)];exact Ap.fr h.l14 hf
 ·rw[AE v (by simp),AR _ (by rw[hz];decide)];exact Ap.fr h.l16 hf
 ·rw[AE v (by simp),AE v (by simp)];exact h'.d
theorem gvG.gr{W0 W W':World}{dn:Nat→Bool}{a:Act}{r:Option Nat}(h:gvG W0 dn a W)(kl:Le W0 W')(k:W.grownBy W' r)(hk:∀(g:Nat) (cs:Array Value),W.heap[g]? =some (.cells cs 35 (0,0))→W'.heap[g]? =some (.cells cs 35 (0,0))):gvG W0 dn a W':=
 ⟨kl,h.l14.gr k,h.l15.gr k,h.l16.gr k,h.a45,h.a65,fun hd=>by obtain⟨g,e,hb,hz,hy⟩:=h.d hd;exact⟨g,e,hb,fun x=>hk g _ (hz x),fun x=>by obtain⟨y,e1,e2⟩:=hy x;exact⟨y,e1,hk g _ e2⟩⟩⟩
theorem gvG.set16{W0 W W':World}{dn:Nat→Bool}{a:Act}{v:Value}(h:gvG W0 dn a W)(hz:a.tmps.size=32)(kl:Le W0 W')(k:W.grownBy W' (a.eval (.tmp 14)).ownBlock)(hk:∀(g:Nat) (cs:Array Value),W.heap[g]? =some (.cells cs 35 (0,0))→W'.heap[g]? =some (.cells cs 35 (0,0)))
 (hs:v.ownBlock=(a.eval (.tmp 14)).ownBlock∨Fr W v)(hl:Lt W' v):gvG W0 (fun j=>j==4||dn j) (a.put (some 16) v) W':=by
 have h':=h.gr kl k hk;refine⟨kl,?_,?_,?_,?_,?_,?_⟩
 ·rw[AE v (by simp)];exact h'.l14
 ·rw[AE v (by simp)];exact h'.l15
 ·rw[AR _ (by rw[hz];decide)];exact hl
 ·rw[AE v (by simp),AE v (by simp)];exact h.a45
 ·rw[AR _ (by rw[hz];decide),AE v (by simp)];exact Ap.step h.a45 hs h.l15
 ·rw[AE v (by simp),AE v (by simp)];exact h'.d
end Go.Proofs.YtejhpdcjafbklaaGreatDoor
