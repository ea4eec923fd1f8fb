/- The law FnHeadWritten: Place Text. -/
import Derived.Test.YtejhpdcjafbklaaGreatDoorGrow
import Derived.Test.YtejhpdcjafbklaaGreatDoorLaw
set_option linter.all false
set_option maxHeartbeats 4000000
set_option maxRecDepth 4000
namespace Go.Proofs.YtejhpdcjafbklaaGreatDoor
open Go.RowKit
def Bq(φ:Nat→Prop)(w:World)(v:Value)(l:Tx):Prop:=Bv w v l∧∀g,v.ownBlock=some g→φ g
theorem Bq.bv{φ:Nat→Prop}{w:World}{v:Value}{l:Tx}(h:Bq φ w v l):Bv w v l:=h.1
theorem Bq.imp{φ ψ:Nat→Prop}{w:World}{v:Value}{l:Tx}(h:Bq φ w v l)(k:∀g,φ g→ψ g):Bq ψ w v l:=⟨h.1,fun g hg=>k g (h.2 g hg)⟩
theorem Bq.le{φ:Nat→Prop}{w w':World}{v:Value}{l:Tx}(h:Bq φ w v l)(k:Le w w'):Bq φ w' v l:=⟨h.1.le k,h.2⟩
theorem Bq.keep{φ:Nat→Prop}{w w':World}{v:Value}{l:Tx}(h:Bq φ w v l)(k:∀g,φ g→g<w.heap.size→w'.heap[g]? =w.heap[g]?):Bq φ w' v l:=by
 obtain⟨⟨A,c,rfl,h1,h2,h3,h4⟩,h5⟩:=h;refine⟨⟨A,c,rfl,h1,h2,h3,fun hn=>?_⟩,h5⟩;obtain⟨b,o,rfl,hc⟩:=h4 hn;refine⟨b,o,rfl,fun j hj=>?_⟩;have h0:=hc j hj;exact(World.cell?_of_block (a:=⟨b,o+j,none⟩) (k b (h5 b rfl) (Az h0))).trans h0
theorem Bq.nil(φ:Nat→Prop)(w:World):Bq φ w (.slice none 0 0) []:=⟨Bv.nil w,by simp[Value.ownBlock]⟩
def Kq(φ:Nat→Prop)(w:World)(v:Value)(l:KVs):Prop:=
 ∃A c,v= .slice A l.length c∧l.length≤c∧c≤9223372036854775807∧l.length≤1099511627776∧
  (0<l.length→∃g o,A=some ⟨g,o,none⟩∧φ g∧
   ∀j (h:j<l.length),∃x y,w.cell? ⟨g,o+j*2,none⟩=some x∧w.cell? ⟨g,o+j*2+1,none⟩=some y∧Bq φ w x l[j].1∧Bq φ w y l[j].2)
theorem Kq.keep{φ:Nat→Prop}{w w':World}{v:Value}{l:KVs}(h:Kq φ w v l)(k:∀g,φ g→g<w.heap.size→w'.heap[g]? =w.heap[g]?):Kq φ w' v l:=by
 obtain⟨A,c,e,h1,h2,h3,h4⟩:=h;refine⟨A,c,e,h1,h2,h3,fun hn=>?_⟩;obtain⟨g,o,e,hg,hc⟩:=h4 hn;refine⟨g,o,e,hg,fun j hj=>?_⟩;obtain⟨x,y,hx,hy,hx2,hy2⟩:=hc j hj;have hk:=k g hg (Az hx);exact⟨x,y,(World.cell?_of_block (a:=⟨g,o+j*2,none⟩) hk).trans hx,(World.cell?_of_block (a:=⟨g,o+j*2+1,none⟩) hk).trans hy,hx2.keep k,hy2.keep k⟩
theorem Kq.le{φ:Nat→Prop}{w w':World}{v:Value}{l:KVs}(h:Kq φ w v l)(k:Le w w'):Kq φ w' v l:=h.keep fun g _ hg=>k.block g hg
theorem Kq.imp{φ ψ:Nat→Prop}{w:World}{v:Value}{l:KVs}(h:Kq φ w v l)(k:∀g,φ g→ψ g):Kq ψ w v l:=by
 obtain⟨A,c,e,h1,h2,h3,h4⟩:=h;refine⟨A,c,e,h1,h2,h3,fun hn=>?_⟩;obtain⟨g,o,e,hg,hc⟩:=h4 hn;refine⟨g,o,e,k g hg,fun j hj=>?_⟩;obtain⟨x,y,hx,hy,hx2,hy2⟩:=hc j hj;exact⟨x,y,hx,hy,hx2.imp k,hy2.imp k⟩
theorem Kq.nil(φ:Nat→Prop)(w:World):Kq φ w (.slice none 0 0) []:=⟨none,0,rfl,by simp,by simp,by simp,fun h=>by simp at h⟩
structure UV where
 scheme:Value
 raw:Value
 wild:Bool
 slash:Bool
 user:Value
 pass:Value
 host:Value
 port:Int
 ps:Value
 hs:Value
def UV.val(x:UV):Value:= .agg #[x.scheme,x.raw,.bool x.wild,.bool x.slash,x.user,x.pass,x.host,.int .i64 x.port,x.ps,x.hs]
structure Uq(φ:Nat→Prop)(w:World)(x:UV)(u:PU):Prop where
 scheme:Bq φ w x.scheme u.scheme
 raw:Bq φ w x.raw u.raw
 wild:x.wild=u.wild
 slash:x.slash=u.slash
 user:Bq φ w x.user u.user
 pass:Bq φ w x.pass u.pass
 host:Bq φ w x.host u.host
 port:x.port=u.port
 ps:Kq φ w x.ps u.ps
 hs:Kq φ w x.hs u.hs
theorem Uq.keep{φ:Nat→Prop}{w w':World}{x:UV}{u:PU}(h:Uq φ w x u)(k:∀g,φ g→g<w.heap.size→w'.heap[g]? =w.heap[g]?):Uq φ w' x u:=
 ⟨h.scheme.keep k,h.raw.keep k,h.wild,h.slash,h.user.keep k,h.pass.keep k,h.host.keep k,h.port,h.ps.keep k,h.hs.keep k⟩
theorem Uq.le{φ:Nat→Prop}{w w':World}{x:UV}{u:PU}(h:Uq φ w x u)(k:Le w w'):Uq φ w' x u:=h.keep fun g _ hg=>k.block g hg
theorem Uq.imp{φ ψ:Nat→Prop}{w:World}{x:UV}{u:PU}(h:Uq φ w x u)(k:∀g,φ g→ψ g):Uq ψ w x u:=
 ⟨h.scheme.imp k,h.raw.imp k,h.wild,h.slash,h.user.imp k,h.pass.imp k,h.host.imp k,h.port,h.ps.imp k,h.hs.imp k⟩
theorem NJ:((Tryz.prog).info? 69).map (fun i=>(i.zero,i.size,i.bytes))=some (some (.agg #[.slice none 0 0,.slice none 0 0]),2,48):=by kernel_rfl
def Bt(base:Nat)(w:World)(v:Value)(l:Tx):Prop:=Bv w v l∧∀g,v.ownBlock=some g→base≤g∧∃cur fz,w.heap[g]? =some (.cells cur 5 fz)
theorem Bt.keep{base:Nat}{w w':World}{v:Value}{l:Tx}(h:Bt base w v l)(k:∀(g:Nat) (cur:Array Value) (fz:Nat×Nat),w.heap[g]? =some (.cells cur 5 fz)→w'.heap[g]? =w.heap[g]?):Bt base w' v l:=by
 have h2:=(show Bq (fun g=>∃cur fz,w.heap[g]? =some (.cells cur 5 fz)) w v l from⟨h.1,fun g hg=>(h.2 g hg).2⟩).keep (w':=w') (fun g ⟨cur,fz,hg⟩ _=>k g cur fz hg);exact⟨h2.1,fun g hg=>⟨(h.2 g hg).1,by obtain⟨cur,fz,e⟩:=(h.2 g hg).2;exact⟨cur,fz,(k g cur fz e).trans e⟩⟩⟩
theorem Bt.le{base:Nat}{w w':World}{v:Value}{l:Tx}(h:Bt base w v l)(k:Le w w'):Bt base w' v l:=h.keep fun g _ _ hg=>k.block g (AQ hg)
theorem bt_sb{base:Nat}(w:World)(s:ByteArray)(hb:base≤w.heap.size)(hs:s.size≤140737488355328):Bt base (Lib.bytesWorld w 5 s) (.slice (some ⟨w.heap.size,0,none⟩) s.size (Mg w 5 s)) (bs s):=
 ⟨P2 w _ s hs (Gm w _ s hs),fun g hg=>by
  simp only[Value.ownBlock,Option.some.injEq]at hg;subst hg;exact⟨hb,_,_,Lib.bytesWorld_at_new w _ s⟩⟩
theorem AT{base:Nat}(w:World)(s:ByteArray)(hb:base≤w.heap.size)(hs:s.size≤140737488355328):
 ∃B c W,(convert 9 22 (.string s)).run Tryz.prog w= .ok (.slice (some ⟨B,0,none⟩) s.size c) W∧Le w W∧Bt base W (.slice (some ⟨B,0,none⟩) s.size c) (bs s):=
 ⟨_,_,_,Iw (P:=Tryz.prog) (e:=5) Tryz.underlying9 Tryz.underlying22 Tryz.underlying5 s w,LR w _ s,bt_sb w s hb hs⟩
theorem Ds{w w':World}{base:Nat}{e:TypeId}{size n:Nat}{v:Value}{xs:List Value}(h:w.ownsRow base e size v n xs)(k:Le w w'):w'.ownsRow base e size v n xs:=
 h.kept (row:=none) ⟨k.os,k.tape,k.output,k.size,fun i hi _=>k.block i hi⟩ (Classical.em _)
theorem AK{w:World}{base:Nat}{E:TypeId}{size:Nat}{v:Value}{n:Nat}{xs:List Value}(h:w.ownsRow base E size v n xs):∀g,v.ownBlock=some g→base≤g∧∃c fz,w.heap[g]? =some (.cells c E fz):=by
 intro g hg;rcases h.2 with⟨rfl,_⟩|⟨g',cap,cur,rfl,hb,hh,_⟩
 ·simp[Value.ownBlock]at hg
 ·simp only[Value.ownBlock,Option.some.injEq]at hg;subst hg;exact⟨hb,cur,_,hh⟩
theorem Below.grown'{B:Nat}{u v w:World}{row:Option Nat}(h:Below B u v)(hg:v.grownBy w row)(hB:B≤u.heap.size)(hrow:∀g,row=some g→B≤g):Below B u w:=
 ⟨hg.os.trans h.os,hg.tape.trans h.tape,hg.output.trans h.output,Nat.le_trans h.size hg.size,fun k hk=>(hg.block k (by have:=h.size;omega) (fun e=>by have:=hrow k e.symm;omega)).trans (h.block k hk)⟩
def Ex(base:Nat)(w:World)(xs:List Value)(l:KVs):Prop:=
 ∀j (h:j<l.length),∃x y,xs[j*2]? =some x∧xs[j*2+1]? =some y∧Bt base w x l[j].1∧Bt base w y l[j].2
theorem Ex.keep{base:Nat}{w w':World}{xs:List Value}{l:KVs}(h:Ex base w xs l)(k:∀(g:Nat) (cur:Array Value) (fz:Nat×Nat),w.heap[g]? =some (.cells cur 5 fz)→w'.heap[g]? =w.heap[g]?):Ex base w' xs l:=fun j hj=>by
 obtain⟨x,y,h1,h2,h3,h4⟩:=h j hj;exact⟨x,y,h1,h2,h3.keep k,h4.keep k⟩
theorem Ex.snoc{base:Nat}{w:World}{xs:List Value}{l:KVs}(h:Ex base w xs l)(hx:xs.length=l.length*2){x y:Value}{z:Tx×Tx}(h1:Bt base w x z.1)(h2:Bt base w y z.2):Ex base w (xs++[x,y]) (l++[z]):=fun j hj=>by
 by_cases hlt:j<l.length
 ·obtain⟨x',y',a1,a2,a3,a4⟩:=h j hlt;refine⟨x',y',?_,?_,?_,?_⟩
  ·rw[List.getElem?_append_left (by omega)];exact a1
  ·rw[List.getElem?_append_left (by omega)];exact a2
  ·rw[List.getElem_append_left hlt];exact a3
  ·rw[List.getElem_append_left hlt];exact a4
 ·simp only[LA,LC,LN]at hj;obtain rfl:j=l.length:=by omega
  refine⟨x,y,?_,?_,?_,?_⟩
  ·rw[List.getElem?_append_right (by omega),show l.length*2-xs.length=0 from by omega];rfl
  ·rw[List.getElem?_append_right (by omega),show l.length*2+1-xs.length=1 from by omega];rfl
  ·simpa using h1
  ·simpa using h2
theorem Kq.of_own{base:Nat}{w:World}{v:Value}{xs:List Value}{l:KVs}(h:w.ownsRow base 69 2 v l.length xs)(k:Ex base w xs l)(hl:l.length≤1099511627776):Kq (base≤·) w v l:=by
 have h0:=h;obtain⟨_,h2⟩:=h;rcases h2 with⟨rfl,hn⟩|⟨g,cap,cur,rfl,hg,hh,hle,hm,hs,ht⟩
 ·obtain rfl:l=[]:=List.eq_nil_of_length_eq_zero hn;exact Kq.nil _ w
 ·unfold maxLen at hm;refine⟨_,_,rfl,hle,hm,hl,fun _=>⟨g,0,rfl,hg,fun j hj=>?_⟩⟩;obtain⟨x,y,a1,a2,a3,a4⟩:=k j hj;have e1:∀i,(⟨g,0,none⟩:Addr).add i=⟨g,0+i,none⟩:=fun i=>by unfold Addr.add;split<;>simp_all
  have b1:=h0.cells (g:=g) rfl _ _ a1;have b2:=h0.cells (g:=g) rfl _ _ a2;rw[e1]at b1 b2;exact⟨x,y,b1,b2,⟨a3.1,fun g hg=>(a3.2 g hg).1⟩,⟨a4.1,fun g hg=>(a4.2 g hg).1⟩⟩
theorem LF(w:World)(v:Value)(l:KVs)(hv:Hp w v l):
 Calls Tryz.prog 67 #[v] w fun e w'=>∃v',e= .returned v'∧Kq (w.heap.size≤·) w' v' l∧Le w w':=by
 obtain⟨A,c,rfl,hc1,hc2,hl,hm,hr⟩:=hv;have HM:=Hi hm;clear hm;go_enter Tryz.func67,Tryz.ntmps67;go_wp2
 go_loopg [3,8] (l.length) (fun n sv i wr=>∃(k:Nat) (xs:List Value),n+k=l.length∧i= .int .i64 k∧Below w.heap.size w wr∧wr.ownsRow w.heap.size 69 2 sv k xs∧Ex w.heap.size wr xs (l.take k))
 case atStart=>exact⟨0,[],by omega,rfl,AC w,World.ownsRow_nil _ _ _ _,fun j hj=>by simp at hj⟩
 case round=>
  obtain⟨k,xs,hn,rfl,hle,hown,hkc⟩:=hrel;have HOWN:=Hi hown;have HKC:=Hi hkc;have HLE:=Hi hle;have HN:gk+k≤l.length∧l.length≤gk+k:=by omega
  clear hn hown hkc;by_cases hlt:k<l.length
  ·obtain⟨g,o,rfl,hg,hcells⟩:=hr (by omega);have d1:=Le.cell hle (hcells k hlt).1;have d2:=Le.cell hle (hcells k hlt).2;clear hcells hg hr;have hk1:=(HM.out l[k] (List.getElem_mem hlt)).1;have hk2:=(HM.out l[k] (List.getElem_mem hlt)).2
   obtain⟨B1,e1,W1,q1,le1,bt1⟩:=AT (base:=w.heap.size) (wr.alloc (Obj.cells #[.string (st l[k].1),.string (st l[k].2)] 172)) (st l[k].1) (by have:=hle.size;simp;omega) (by rw[AF];omega);obtain⟨B2,e2,W2,q2,le2,bt2⟩:=AT (base:=w.heap.size) W1 (st l[k].2) (by have:=hle.size;have h3:=le1.size;simp at h3;omega) (by rw[AF];omega)
   have f1:W1.cell? ⟨wr.heap.size,1,none⟩=some (.string (st l[k].2)):=le1.cell (AB (heap_alloc_new wr _) 1);have HLE2:Hid (Le wr W2):=Hi ((((AC wr).alloc _).trans le1).trans le2);have HB1:=Hi (bt1.le le2);have HB2:=Hi bt2;have HSZ:=Hi (Nat.le_trans hle.size HLE2.out.size);have HOWN2:=Hi (Ds HOWN.out HLE2.out);clear le1 le2 bt1 bt2 hle hk1 hk2
   obtain⟨i0,hi0,hz0,hz1,hz2⟩:=info_parts NJ
   go_wp2_with (at_builtin;refine wpList_append_lies _ rfl _ _ 23 rfl w.heap.size 69 i0 (.agg #[.slice none 0 0,.slice none 0 0]) 2 48 Tryz.underlying23 hi0 hz0 hz1 hz2 rfl (by decide) _ _ _ rfl (HOWN2.out.alloc _) ⟨W2.heap.size,0,none⟩ 1 1 [.slice (some ⟨B1,0,none⟩) (st l[k].1).size e1,.slice (some ⟨B2,0,none⟩) (st l[k].2).size e2] rfl rfl ?c1 ?c2 ?c3 ?c4 ?c5 ?c6 (W2.heap.size+1) ?c7 ?_)
   case c1=>exact World.news_of_block (heap_alloc_new W2 _)
   case c2=>intro u hu;simp only[List.mem_cons,List.mem_nil_iff,or_false]at hu;rcases hu with rfl|rfl<;>rfl
   case c3=>omega
   case c4=>unfold maxLen;omega
   case c5=>omega
   case c6=>have:=HSZ.out;simp;omega
   case c7=>simp
   intro g2 cap2 w2 hown2 hgrow2 hat2 hlt2;have hrow:=AK HOWN2.out;have HLE3:Hid (Le w w2):=Hi (Below.grown' (Below.trans HLE.out ((HLE2.out.alloc _).mono HLE.out.size)) hgrow2 (NL _) (fun g hg=>(hrow g hg).1));have hkeep:∀(g:Nat) (cur:Array Value) (fz:Nat×Nat),W2.heap[g]? =some (.cells cur 5 fz)→w2.heap[g]? =W2.heap[g]? :=by
    intro g cur fz hg;have hlt:=AQ hg;refine(hgrow2.block g (by simp;omega) ?_).trans (Below.heap_alloc _ _ _ hlt);intro e;obtain⟨_,c',fz',h⟩:=hrow g e.symm;rw[hg]at h;injection h with h
    injection h with _ h
    exact absurd h (by decide)
   have HKC2:=Hi (((HKC.out.keep (w':=W2) (fun g _ _ hg=>HLE2.out.block g (AQ hg))).snoc (by have:=HOWN2.out.1;rw[this,List.length_take,Nat.min_eq_left (by omega)]) (by rw[AV]at HB1;exact HB1.out) (by rw[AV]at HB2;exact HB2.out) (z:=l[k])).keep hkeep);have HT:=Hi (List.take_succ_eq_append_getElem hlt);have HOWN3:=Hi hown2
   clear hown2 hgrow2 hat2 hlt2 hrow hkeep q1 q2 f1 d1 d2;go_wp2;go_roundg (gk-1)
   case measure=>omega
   case rel=>exact⟨k+1,_,by omega,by go_num,HLE3.out,HOWN3.out,by rw[HT.out];exact HKC2.out⟩
  ·clear hr hle;go_wp2;go_ret;refine⟨_,rfl,?_,HLE.out⟩;have hk:l.take k=l:=List.take_of_length_le (by omega);have h1:=HKC.out;rw[hk]at h1;have h2:=HOWN.out;obtain rfl:k=l.length:=by omega
   exact Kq.of_own h2 h1 hl
end Go.Proofs.YtejhpdcjafbklaaGreatDoor
namespace Go.Proofs.YtejhpdcjafbklaaGreatDoor
open Go.RowKit
theorem raw_c(w:World)(b:Nat)(s:ByteArray)(h:w.cell? ⟨b,1,none⟩=some (.string s)):
 Calls Tryz.prog 66 #[.pointer (some ⟨b,0,none⟩)] w fun e w'=>e= .returned (.string s)∧w'=w:=by
 go_enter Tryz.func66,Tryz.ntmps66;go_wp2;go_ret;exact⟨rfl,rfl⟩
def UV.row(x:UV):Array Value:= #[x.scheme,x.raw,.bool x.wild,.bool x.slash,x.user,x.pass,x.host,.int .i64 x.port,x.ps,x.hs]
theorem Bq.one{φ:Nat→Prop}{w:World}{v:Value}{l:Tx}(h:Bq φ w v l):v.oneCell'=true:=by obtain⟨⟨A,c,rfl,_⟩,_⟩:=h;rfl
theorem Kq.one{φ:Nat→Prop}{w:World}{v:Value}{l:KVs}(h:Kq φ w v l):v.oneCell'=true:=by obtain⟨A,c,rfl,_⟩:=h;rfl
theorem Uq.one{φ:Nat→Prop}{w:World}{x:UV}{u:PU}(h:Uq φ w x u):x.row.all (·.oneCell')=true:=by
 unfold UV.row;simp only[List.all_toArray,List.all_cons,List.all_nil,h.scheme.one,h.raw.one,h.user.one,h.pass.one,h.host.one,h.ps.one,h.hs.one,Bool.and_true,Bool.true_and];rfl
theorem Cx:((Tryz.prog).info? 25).map (·.size)=some 10:=by kernel_rfl
theorem Bd(w:World)(g:Nat)(cs:Array Value):Kp g w (w.setRow g cs):=⟨rfl,rfl,rfl,by simp,fun k _ hb=>setRow_other w g k cs (fun e=>hb (by rw[e]))⟩
def plS(b:Nat)(u:PU)(pv hv:Value):Nat→Value→World→Prop
 |1,v,_=>v= .pointer (some ⟨b,0,none⟩)
 |2,v,_=>v= .pointer (some ⟨b+1,0,none⟩)
 |3,v,_=>v= .pointer (some ⟨b,0,none⟩)
 |4,v,_=>v= .string (st u.scheme)
 |5,v,w=>Bq (b+2≤·) w v u.scheme
 |6,v,_=>v= .string (st u.raw)
 |7,v,w=>Bq (b+2≤·) w v u.raw
 |8,v,_=>v= .pointer (some ⟨b,2,none⟩)
 |9,v,_=>v= .bool u.wild
 |10,v,_=>v= .pointer (some ⟨b,3,none⟩)
 |11,v,_=>v= .bool u.slash
 |12,v,_=>v= .pointer (some ⟨b,4,none⟩)
 |13,v,_=>v= .string (st u.user)
 |14,v,w=>Bq (b+2≤·) w v u.user
 |15,v,_=>v= .pointer (some ⟨b,5,none⟩)
 |16,v,_=>v= .string (st u.pass)
 |17,v,w=>Bq (b+2≤·) w v u.pass
 |18,v,_=>v= .pointer (some ⟨b,6,none⟩)
 |19,v,_=>v= .string (st u.host)
 |20,v,w=>Bq (b+2≤·) w v u.host
 |21,v,_=>v= .pointer (some ⟨b,7,none⟩)
 |22,v,_=>v= .int .i64 u.port
 |23,v,_=>v= .pointer (some ⟨b,8,none⟩)
 |24,v,_=>v=pv
 |25,v,w=>Kq (b+2≤·) w v u.ps
 |26,v,_=>v= .pointer (some ⟨b,9,none⟩)
 |27,v,_=>v=hv
 |28,v,w=>Kq (b+2≤·) w v u.hs
 |29,v,w=>∃x:UV,v=x.val∧Uq (b+2≤·) w x u
 |_,_,_=>True
theorem Qi(b:Nat)(u:PU)(pv hv:Value)(t:Nat)(v:Value)(w w':World)(k:Le w w')(h:plS b u pv hv t v w):plS b u pv hv t v w':=by
 unfold plS at h⊢;split at h<;>first|exact h|exact h.le k|skip
 ·obtain⟨x,e,h⟩:=h;exact⟨x,e,h.le k⟩
theorem O9(b:Nat)(u:PU)(pv hv:Value)(t:Nat)(v:Value)(w w':World)(k:∀g,b+2≤g→g<w.heap.size→w'.heap[g]? =w.heap[g]?)(h:plS b u pv hv t v w):plS b u pv hv t v w':=by
 unfold plS at h⊢;split at h<;>first|exact h|exact h.keep k|skip
 ·obtain⟨x,e,h⟩:=h;exact⟨x,e,h.keep k⟩
def plZ(b:Nat)(u:PU)(j:Nat)(w:World):Prop:=∃x:UV,w.heap[b+1]? =some (.cells #[x.scheme,x.raw,.bool x.wild,.bool x.slash,x.user,x.pass,x.host,.int .i64 x.port,x.ps,x.hs] 25 (0,0))∧Uq (b+2≤·) w x u
theorem Qh(b:Nat)(u:PU)(j:Nat)(w w':World)(k:Le w w')(h:plZ b u j w):plZ b u j w':=by
 obtain⟨x,e,h⟩:=h;exact⟨x,k.heap e,h.le k⟩
def plG(w0:World)(b:Nat)(u:PU)(pv hv:Value)(w:World):Prop:=
 Kp (b+1) w0 w∧w.heap[b]? =some (.cells (u.cells pv hv) 84 (0,0))∧(∃cs,cs.size=10∧w.heap[b+1]? =some (.cells cs 25 (0,0)))
theorem Qj{w0:World}{b:Nat}{u:PU}{pv hv:Value}(w w':World)(k:Le w w')(h:plG w0 b u pv hv w):plG w0 b u pv hv w':=by
 obtain⟨h1,h2,cs,h3,h4⟩:=h;exact⟨h1.le k,k.heap h2,cs,h3,k.heap h4⟩
theorem Fe{w0:World}{b:Nat}{u:PU}{pv hv:Value}{w:World}(h:plG w0 b u pv hv w):b+2≤w.heap.size:=by
 obtain⟨_,_,cs,_,h4⟩:=h;have:=AQ h4;omega
theorem O8(w:World)(u:PU)(pv hv:Value)(hp:Hp w pv u.ps)(hh:Hp w hv u.hs)(sm:u.small):
 Calls Tryz.prog 41 #[.agg (u.cells pv hv)] w fun e w'=>∃x:UV,e= .returned x.val∧Uq (w.heap.size≤·) w' x u∧Le w w':=by
 have HP:=Hi hp;have HH:=Hi hh;have HS:=Hi sm;clear hp hh sm;go_enter Tryz.func41,Tryz.ntmps41;go_wp2;have hSl:=Qi w.heap.size u pv hv;have hZl:=Qh w.heap.size u
 have hGl:=Qj (w0:=(w.alloc (Obj.cells (u.cells pv hv) 84)).alloc (Obj.cells #[.slice none 0 0,.slice none 0 0,.bool false,.bool false,.slice none 0 0,.slice none 0 0,.slice none 0 0,.int .i64 0,.slice none 0 0,.slice none 0 0] 25)) (b:=w.heap.size) (u:=u) (pv:=pv) (hv:=hv);have hm:(Tryz.prog).follows .mixedOrders=true:=by kernel_rfl
 refine Bk (plS w.heap.size u pv hv) (plZ w.heap.size u) (plG ((w.alloc (Obj.cells (u.cells pv hv) 84)).alloc (Obj.cells #[.slice none 0 0,.slice none 0 0,.bool false,.bool false,.slice none 0 0,.slice none 0 0,.slice none 0 0,.int .i64 0,.slice none 0 0,.slice none 0 0] 25)) w.heap.size u pv hv) 30 hm (by kernel_rfl) rfl rfl ?hG [0,1,2] (by kernel_rfl) ?hold ?hs ?hend;case hG=>
  exact⟨(Kp.refl _ _).le (AC _).drew,heap_alloc2_old w _ _,_,by rfl,heap_alloc2_new w _ _⟩
 case hold=>
  intro t ht;simp only[List.mem_cons,List.mem_nil_iff,or_false]at ht;rcases ht with rfl|rfl|rfl
  ·exact trivial
  ·rfl
  ·rfl
 case hs=>
  refine⟨?_,?_,?_,?_,?_,?_,?_,?_,?_,?_,?_,?_,?_,?_,?_,?_,?_,?_,?_,?_,?_,?_,?_,?_,?_,?_,?_,?_,trivial⟩
  ·refine AA fun a W hg hop=>?_;have h1:_=_:=hq hop 1;refine⟨_,?_,rfl⟩;simp only[execOp,h1];go_simp
  ·refine AA fun a W hg hop=>?_;have h1:_=_:=hq hop 3;have h2:W.cell? ⟨w.heap.size,0,none⟩=some (.string (st u.scheme)):=AB hg.2.1 0;refine⟨_,?_,rfl⟩;simp only[execOp,h1];go_simp
  ·refine GrowStep.le ?_ ?_ ?_ ?_
   ·exact hSl
   ·exact hZl
   ·exact hGl
   intro a W hg hop;have h1:_=_:=hq hop 4;obtain⟨B,c,W1,q,le1,bt⟩:=AT (base:=w.heap.size+2) W (st u.scheme) (Fe hg) (by have:=HS.out;unfold PU.small at this;rw[AF];omega);rw[AV]at bt;refine⟨_,W1,?_,le1,⟨bt.1,fun g h=>(bt.2 g h).1⟩⟩;simp only[execOp,h1];go_simp
  ·refine AG ?_ ?_ ?_ ?_
   ·exact hSl
   ·exact hZl
   ·exact hGl
   intro a W hg hop;have h1:_=_:=hq hop 1;have h1':=tg h1;have h2:W.cell? ⟨w.heap.size,1,none⟩=some (.string (st u.raw)):=AB hg.2.1 1;refine⟨66,#[.pointer (some ⟨w.heap.size,0,none⟩)],?_,(raw_c W _ _ h2).mono ?_⟩
   ·simp only[execOp,h1];go_simp
   ·rintro e w' ⟨rfl,rfl⟩;exact⟨_,rfl,AC _,rfl⟩
  ·refine GrowStep.le ?_ ?_ ?_ ?_
   ·exact hSl
   ·exact hZl
   ·exact hGl
   intro a W hg hop;have h1:_=_:=hq hop 6;obtain⟨B,c,W1,q,le1,bt⟩:=AT (base:=w.heap.size+2) W (st u.raw) (Fe hg) (by have:=HS.out;unfold PU.small at this;rw[AF];omega);rw[AV]at bt;refine⟨_,W1,?_,le1,⟨bt.1,fun g h=>(bt.2 g h).1⟩⟩;simp only[execOp,h1];go_simp
  ·refine AA fun a W hg hop=>?_;have h1:_=_:=hq hop 1;refine⟨_,?_,rfl⟩;simp only[execOp,h1];go_simp
  ·refine AA fun a W hg hop=>?_;have h1:_=_:=hq hop 8;have h2:W.cell? ⟨w.heap.size,2,none⟩=some (.bool u.wild):=AB hg.2.1 2;refine⟨_,?_,rfl⟩;simp only[execOp,h1];go_simp
  ·refine AA fun a W hg hop=>?_;have h1:_=_:=hq hop 1;refine⟨_,?_,rfl⟩;simp only[execOp,h1];go_simp
  ·refine AA fun a W hg hop=>?_;have h1:_=_:=hq hop 10;have h2:W.cell? ⟨w.heap.size,3,none⟩=some (.bool u.slash):=AB hg.2.1 3;refine⟨_,?_,rfl⟩;simp only[execOp,h1];go_simp
  ·refine AA fun a W hg hop=>?_;have h1:_=_:=hq hop 1;refine⟨_,?_,rfl⟩;simp only[execOp,h1];go_simp
  ·refine AA fun a W hg hop=>?_;have h1:_=_:=hq hop 12;have h2:W.cell? ⟨w.heap.size,4,none⟩=some (.string (st u.user)):=AB hg.2.1 4;refine⟨_,?_,rfl⟩;simp only[execOp,h1];go_simp
  ·refine GrowStep.le ?_ ?_ ?_ ?_
   ·exact hSl
   ·exact hZl
   ·exact hGl
   intro a W hg hop;have h1:_=_:=hq hop 13;obtain⟨B,c,W1,q,le1,bt⟩:=AT (base:=w.heap.size+2) W (st u.user) (Fe hg) (by have:=HS.out;unfold PU.small at this;rw[AF];omega);rw[AV]at bt;refine⟨_,W1,?_,le1,⟨bt.1,fun g h=>(bt.2 g h).1⟩⟩;simp only[execOp,h1];go_simp
  ·refine AA fun a W hg hop=>?_;have h1:_=_:=hq hop 1;refine⟨_,?_,rfl⟩;simp only[execOp,h1];go_simp
  ·refine AA fun a W hg hop=>?_;have h1:_=_:=hq hop 15;have h2:W.cell? ⟨w.heap.size,5,none⟩=some (.string (st u.pass)):=AB hg.2.1 5;refine⟨_,?_,rfl⟩;simp only[execOp,h1];go_simp
  ·refine GrowStep.le ?_ ?_ ?_ ?_
   ·exact hSl
   ·exact hZl
   ·exact hGl
   intro a W hg hop;have h1:_=_:=hq hop 16;obtain⟨B,c,W1,q,le1,bt⟩:=AT (base:=w.heap.size+2) W (st u.pass) (Fe hg) (by have:=HS.out;unfold PU.small at this;rw[AF];omega);rw[AV]at bt;refine⟨_,W1,?_,le1,⟨bt.1,fun g h=>(bt.2 g h).1⟩⟩;simp only[execOp,h1];go_simp
  ·refine AA fun a W hg hop=>?_;have h1:_=_:=hq hop 1;refine⟨_,?_,rfl⟩;simp only[execOp,h1];go_simp
  ·refine AA fun a W hg hop=>?_;have h1:_=_:=hq hop 18;have h2:W.cell? ⟨w.heap.size,6,none⟩=some (.string (st u.host)):=AB hg.2.1 6;refine⟨_,?_,rfl⟩;simp only[execOp,h1];go_simp
  ·refine GrowStep.le ?_ ?_ ?_ ?_
   ·exact hSl
   ·exact hZl
   ·exact hGl
   intro a W hg hop;have h1:_=_:=hq hop 19;obtain⟨B,c,W1,q,le1,bt⟩:=AT (base:=w.heap.size+2) W (st u.host) (Fe hg) (by have:=HS.out;unfold PU.small at this;rw[AF];omega);rw[AV]at bt;refine⟨_,W1,?_,le1,⟨bt.1,fun g h=>(bt.2 g h).1⟩⟩;simp only[execOp,h1];go_simp
  ·refine AA fun a W hg hop=>?_;have h1:_=_:=hq hop 1;refine⟨_,?_,rfl⟩;simp only[execOp,h1];go_simp
  ·refine AA fun a W hg hop=>?_;have h1:_=_:=hq hop 21;have h2:W.cell? ⟨w.heap.size,7,none⟩=some (.int .i64 u.port):=AB hg.2.1 7;refine⟨_,?_,rfl⟩;simp only[execOp,h1];go_simp
  ·refine AA fun a W hg hop=>?_;have h1:_=_:=hq hop 1;refine⟨_,?_,rfl⟩;simp only[execOp,h1];go_simp
  ·refine AA fun a W hg hop=>?_;have h1:_=_:=hq hop 23;have h2:W.cell? ⟨w.heap.size,8,none⟩=some (pv):=AB hg.2.1 8;refine⟨_,?_,rfl⟩;simp only[execOp,h1];go_simp
  ·refine AG ?_ ?_ ?_ ?_
   ·exact hSl
   ·exact hZl
   ·exact hGl
   intro a W hg hop;have h1:_=_:=hq hop 24;have h1':=tg h1;refine⟨67,#[pv],?_,(LF W pv u.ps (HP.out.of_blocks ?_)).mono ?_⟩
   ·simp only[execOp,h1];go_simp
   ·intro g cur fz hgg;have hlt:=AQ hgg;exact(hg.1.block g (by simp;omega) (by intro e;injection e with e;omega)).trans ((Below.heap_alloc _ _ _ (by simp;omega)).trans (Below.heap_alloc _ _ _ hlt))
   ·rintro e w' ⟨v',rfl,hk,hle⟩;exact⟨v',rfl,hle,hk.imp fun g h=>Nat.le_trans (Fe hg) h⟩
  ·refine AA fun a W hg hop=>?_;have h1:_=_:=hq hop 1;refine⟨_,?_,rfl⟩;simp only[execOp,h1];go_simp
  ·refine AA fun a W hg hop=>?_;have h1:_=_:=hq hop 26;have h2:W.cell? ⟨w.heap.size,9,none⟩=some (hv):=AB hg.2.1 9;refine⟨_,?_,rfl⟩;simp only[execOp,h1];go_simp
  ·refine AG ?_ ?_ ?_ ?_
   ·exact hSl
   ·exact hZl
   ·exact hGl
   intro a W hg hop;have h1:_=_:=hq hop 27;have h1':=tg h1;refine⟨67,#[hv],?_,(LF W hv u.hs (HH.out.of_blocks ?_)).mono ?_⟩
   ·simp only[execOp,h1];go_simp
   ·intro g cur fz hgg;have hlt:=AQ hgg;exact(hg.1.block g (by simp;omega) (by intro e;injection e with e;omega)).trans ((Below.heap_alloc _ _ _ (by simp;omega)).trans (Below.heap_alloc _ _ _ hlt))
   ·rintro e w' ⟨v',rfl,hk,hle⟩;exact⟨v',rfl,hle,hk.imp fun g h=>Nat.le_trans (Fe hg) h⟩
  ·refine AA fun a W hg hop=>?_;have k5:Bq (w.heap.size+2≤·) W (a.eval (.tmp 5)) u.scheme:=hq hop 5;have k7:Bq (w.heap.size+2≤·) W (a.eval (.tmp 7)) u.raw:=hq hop 7;have k9:_=_:=hq hop 9;have k11:_=_:=hq hop 11;have k14:Bq (w.heap.size+2≤·) W (a.eval (.tmp 14)) u.user:=hq hop 14;have k17:Bq (w.heap.size+2≤·) W (a.eval (.tmp 17)) u.pass:=hq hop 17
   have k20:Bq (w.heap.size+2≤·) W (a.eval (.tmp 20)) u.host:=hq hop 20;have k22:_=_:=hq hop 22;have k25:Kq (w.heap.size+2≤·) W (a.eval (.tmp 25)) u.ps:=hq hop 25;have k28:Kq (w.heap.size+2≤·) W (a.eval (.tmp 28)) u.hs:=hq hop 28;obtain⟨A5,n5,c5,e5⟩:∃A n c,a.eval (.tmp 5)= .slice A n c:=by obtain⟨⟨A,c,e,_⟩,_⟩:=k5;exact⟨A,_,c,e⟩
   rw[e5]at k5;have d5:=tg e5;obtain⟨A7,n7,c7,e7⟩:∃A n c,a.eval (.tmp 7)= .slice A n c:=by obtain⟨⟨A,c,e,_⟩,_⟩:=k7;exact⟨A,_,c,e⟩
   rw[e7]at k7;have d7:=tg e7;obtain⟨A14,n14,c14,e14⟩:∃A n c,a.eval (.tmp 14)= .slice A n c:=by obtain⟨⟨A,c,e,_⟩,_⟩:=k14;exact⟨A,_,c,e⟩
   rw[e14]at k14;have d14:=tg e14;obtain⟨A17,n17,c17,e17⟩:∃A n c,a.eval (.tmp 17)= .slice A n c:=by obtain⟨⟨A,c,e,_⟩,_⟩:=k17;exact⟨A,_,c,e⟩
   rw[e17]at k17;have d17:=tg e17;obtain⟨A20,n20,c20,e20⟩:∃A n c,a.eval (.tmp 20)= .slice A n c:=by obtain⟨⟨A,c,e,_⟩,_⟩:=k20;exact⟨A,_,c,e⟩
   rw[e20]at k20;have d20:=tg e20;obtain⟨A25,n25,c25,e25⟩:∃A n c,a.eval (.tmp 25)= .slice A n c:=by obtain⟨A,c,e,_⟩:=k25;exact⟨A,_,c,e⟩
   rw[e25]at k25;have d25:=tg e25;obtain⟨A28,n28,c28,e28⟩:∃A n c,a.eval (.tmp 28)= .slice A n c:=by obtain⟨A,c,e,_⟩:=k28;exact⟨A,_,c,e⟩
   rw[e28]at k28;have d28:=tg e28;have d9:=tg k9;have d11:=tg k11;have d22:=tg k22;refine⟨_,?_,⟨⟨.slice A5 n5 c5,.slice A7 n7 c7,u.wild,u.slash,.slice A14 n14 c14,.slice A17 n17 c17,.slice A20 n20 c20,u.port,.slice A25 n25 c25,.slice A28 n28 c28⟩,rfl,⟨k5,k7,rfl,rfl,k14,k17,k20,rfl,k25,k28⟩⟩⟩;clear k5 k7 k9 k11 k14 k17 k20 k22 k25 k28 e5 e7 e14 e17 e20 e25 e28;simp only[execOp];go_simp;rfl
  ·refine GrowStep.store ?_ rfl;intro a W hg hop;have h1:_=_:=hq hop 2;obtain⟨x,h2,hx⟩:∃x:UV,a.eval (.tmp 29)=x.val∧Uq (w.heap.size+2≤·) W x u:=hq hop 29;obtain⟨h3,h4,cs,h5,h6⟩:=hg;have hk:=Bd W (w.heap.size+1) x.row;have hfar:∀g,w.heap.size+2≤g→g<W.heap.size→(W.setRow (w.heap.size+1) x.row).heap[g]? =W.heap[g]? :=fun g hg _=>setRow_other W _ g _ (by omega)
   refine⟨W.setRow (w.heap.size+1) x.row,?_,⟨h3.trans hk,(setRow_other W _ _ _ (by omega)).trans h4,x.row,rfl,setRow_heap W _ _ _ _ _ h6⟩,fun t v hv=>O9 _ _ _ _ t v W _ hfar hv,?_,x,setRow_heap W _ _ _ _ _ h6,hx.keep hfar⟩
   ·have hs:=run_storeVar_row (P:=Tryz.prog) W (w.heap.size+1) 25 25 cs x.row h6 Cx h5 hx.one;simp only[execOp,h1,h2,UV.val,Instr.storeAt,Instr.sureAddr,Sem.run_bind,Sem.run_pure,Result.andThen];rw[show #[x.scheme,x.raw,.bool x.wild,.bool x.slash,x.user,x.pass,x.host,.int .i64 x.port,x.ps,x.hs]=x.row from rfl,hs]
   ·intro j _ ⟨y,e1,e2⟩;exact⟨x,setRow_heap W _ _ _ _ _ h6,hx.keep hfar⟩
 case hend=>
  intro a' w' hg hd hn hS hZ;obtain⟨x,hx1,hx2⟩:=hZ 27 _ rfl rfl;have h2:a'.eval (.tmp 2)= .pointer (some ⟨w.heap.size+1,0,none⟩):=hS 2 (by decide);have HG:=Hi hg;clear hS hZ hg;go_wp2;refine bodyPost_ret (results_cell_row rfl _ _ (w.heap.size+1) 25 _ (0,0) _ h2 hx1 Tryz.underlying25 rfl Cx) hd ?_;refine⟨x,rfl,hx2.imp fun g h=>by omega,?_⟩
  refine⟨HG.out.1.os,HG.out.1.tape,HG.out.1.output,by have:=HG.out.1.size;simp at this;omega,fun k hk=>?_⟩;exact(HG.out.1.block k (by simp;omega) (by intro e;injection e with e;omega)).trans ((Below.heap_alloc _ _ _ (by simp;omega)).trans (Below.heap_alloc _ _ _ hk))
end Go.Proofs.YtejhpdcjafbklaaGreatDoor
namespace Go.Proofs.YtejhpdcjafbklaaGreatDoor
open Go.RowKit
theorem BZ:((Tryz.prog).info? 84).map (·.size)=some 10:=by kernel_rfl
theorem Bc{P:Program}{w:World}{g:Nat}{t ty:TypeId}{cs:Array Value}{fr:Nat×Nat}{d:TypeDesc}(hg:w.heap[g]? =some (.cells cs t fr))(hu:P.underlying ty=some d)
 (hd:(match d with| .struct _| .array _ _=>true|_=>false)=true)(hi:(P.info? ty).map (·.size)=some cs.size):(Instr.loadAt ty (.pointer (some ⟨g,0,none⟩))).run P w= .ok (.agg cs) w:=by
 simp only[Instr.loadAt,Instr.sureAddr,Sem.run_bind,Sem.run_pure,Result.andThen];exact run_loadVar_row w g t ty cs fr d hg hu hd hi
def ipS(b:Nat)(r:PU)(pv hv ev:Value)(ok:Bool):Nat→Value→World→Prop
 |2,v,_=>v= .pointer (some ⟨b,0,none⟩)
 |3,v,_=>v= .bool ok
 |4,v,_=>v= .pointer (some ⟨b+1,0,none⟩)
 |5,v,_=>v=ev
 |9,v,_=>v= .agg (r.cells pv hv)
 |10,v,w=>∃x:UV,v=x.val∧Uq (b+2≤·) w x r
 |11,v,_=>v=ev
 |12,v,_=>v= .bool ok
 |_,_,_=>True
theorem Lc(b:Nat)(r:PU)(pv hv ev:Value)(ok:Bool)(t:Nat)(v:Value)(w w':World)(k:∀g,b+2≤g→g<w.heap.size→w'.heap[g]? =w.heap[g]?)(h:ipS b r pv hv ev ok t v w):ipS b r pv hv ev ok t v w':=by
 unfold ipS at h⊢;split at h<;>first|exact h|skip
 ·obtain⟨x,e,h⟩:=h;exact⟨x,e,h.keep k⟩
def ipZ(b:Nat)(r:PU)(j:Nat)(w:World):Prop:=∃x:UV,w.heap[b]? =some (.cells x.row 25 (0,0))∧Uq (b+2≤·) w x r
def ipG(w0:World)(b:Nat)(r:PU)(pv hv:Value)(w:World):Prop:=
 Kp b w0 w∧w.heap[b+1]? =some (.cells (r.cells pv hv) 84 (0,0))∧(∃cs,cs.size=10∧w.heap[b]? =some (.cells cs 25 (0,0)))∧Hp w pv r.ps∧Hp w hv r.hs
theorem RB{w0:World}{b:Nat}{r:PU}{pv hv:Value}(w w':World)(k:Le w w')(h:ipG w0 b r pv hv w):ipG w0 b r pv hv w':=by
 obtain⟨h1,h2,⟨cs,h3,h4⟩,h5,h6⟩:=h;exact⟨h1.le k,k.heap h2,⟨cs,h3,k.heap h4⟩,h5.le k,h6.le k⟩
def Rd(l:Tx)(w:World)(e:Ending)(w':World):Prop:=
 Le w w'∧∃(x:UV) (ok:Bool) (r:PU),e= .returned (.tuple #[x.val,.bool ok])∧Uq (w.heap.size≤·) w' x r∧KN l PU.zero (if ok=true then some r else none)
theorem NI(w:World)(v:Value)(l:Tx)(hv:Bv w v l)(hl:l.length≤1099511627000)(hL:BW w):
 Calls Tryz.prog 22 #[v] w (Rd l w):=by
 have hcv:=fun w' (k:Le w w')=>BT (P:=Tryz.prog) Tryz.underlying22 Tryz.underlying5 Tryz.underlying9 (hv.le k);have HLAID:=Hi hL;obtain⟨A,c,rfl,_⟩:=hv
 have hc1:=hcv ((w.alloc (Obj.cells #[.slice none 0 0,.slice none 0 0,.bool false,.bool false,.slice none 0 0,.slice none 0 0,.slice none 0 0,.int .i64 0,.slice none 0 0,.slice none 0 0] 25)).alloc (Obj.cells #[.string ⟨#[]⟩,.string ⟨#[]⟩,.bool false,.bool false,.string ⟨#[]⟩,.string ⟨#[]⟩,.string ⟨#[]⟩,.int .i64 0,.slice none 0 0,.slice none 0 0] 84)) (((AC w).alloc _).alloc _);clear hcv hL
 go_enter Tryz.func22,Tryz.ntmps22;go_wp2_with fail
 have hle1:Le w ((w.alloc (Obj.cells #[.slice none 0 0,.slice none 0 0,.bool false,.bool false,.slice none 0 0,.slice none 0 0,.slice none 0 0,.int .i64 0,.slice none 0 0,.slice none 0 0] 25)).alloc (Obj.cells #[.string ⟨#[]⟩,.string ⟨#[]⟩,.bool false,.bool false,.string ⟨#[]⟩,.string ⟨#[]⟩,.string ⟨#[]⟩,.int .i64 0,.slice none 0 0,.slice none 0 0] 84)):=((AC w).alloc _).alloc _
 have hua1:UAt ((w.alloc (Obj.cells #[.slice none 0 0,.slice none 0 0,.bool false,.bool false,.slice none 0 0,.slice none 0 0,.slice none 0 0,.int .i64 0,.slice none 0 0,.slice none 0 0] 25)).alloc (Obj.cells #[.string ⟨#[]⟩,.string ⟨#[]⟩,.bool false,.bool false,.string ⟨#[]⟩,.string ⟨#[]⟩,.string ⟨#[]⟩,.int .i64 0,.slice none 0 0,.slice none 0 0] 84)) (w.heap.size+1) PU.zero:=⟨.slice none 0 0,.slice none 0 0,heap_alloc2_new w _ _,Hp.nil _,Hp.nil _,by unfold PU.small PU.zero;simp⟩
 have hres1:((w.alloc (Obj.cells #[.slice none 0 0,.slice none 0 0,.bool false,.bool false,.slice none 0 0,.slice none 0 0,.slice none 0 0,.int .i64 0,.slice none 0 0,.slice none 0 0] 25)).alloc (Obj.cells #[.string ⟨#[]⟩,.string ⟨#[]⟩,.bool false,.bool false,.string ⟨#[]⟩,.string ⟨#[]⟩,.string ⟨#[]⟩,.int .i64 0,.slice none 0 0,.slice none 0 0] 84)).heap[w.heap.size]? =some (Obj.cells #[.slice none 0 0,.slice none 0 0,.bool false,.bool false,.slice none 0 0,.slice none 0 0,.slice none 0 0,.int .i64 0,.slice none 0 0,.slice none 0 0] 25):=heap_alloc2_old w _ _
 have HRES1:=Hi hres1;have HLE1:=Hi hle1
 have hlu:Ea (w.heap.size+1) ((w.alloc (Obj.cells #[.slice none 0 0,.slice none 0 0,.bool false,.bool false,.slice none 0 0,.slice none 0 0,.slice none 0 0,.int .i64 0,.slice none 0 0,.slice none 0 0] 25)).alloc (Obj.cells #[.string ⟨#[]⟩,.string ⟨#[]⟩,.bool false,.bool false,.string ⟨#[]⟩,.string ⟨#[]⟩,.string ⟨#[]⟩,.int .i64 0,.slice none 0 0,.slice none 0 0] 84)):=⟨w,HLAID.out,hle1,by omega⟩
 refine(QX (st l) (w.heap.size+1) PU.zero _ hua1 (by rw[AF];exact hl) hlu).mono ?_;rw[AV];rintro e w2 ⟨hkp2,hor⟩;have HLE2:Hid (Le w w2):=Hi (Below.trans hle1 ((hkp2.below (B:=w.heap.size) (by omega) hle1.size)));have HRES2:=Hi (hkp2.heap (by omega) hres1);clear hres1 hle1 hlu hua1 hkp2
 obtain⟨ev,ok,r,rfl,hq,hua2,hpt⟩:∃ev ok r,e= .returned ev∧(∀w,(binOp .eql 86 ev .nilIface).run Tryz.prog w= .ok (.bool ok) w∧(eqGuard .eql 86 (.tmp 11) (.const .nilIface) ev .nilIface).run Tryz.prog w= .ok () w)∧UAt w2 (w.heap.size+1) r∧KN l PU.zero (if ok=true then some r else none):=by
  rcases hor with⟨v,h1,rfl,h3⟩|⟨h1,T,a,v,rfl,h3⟩
  ·exact⟨_,true,v,rfl,fun w=>⟨by go_simp,by go_simp⟩,h3,h1⟩
  ·exact⟨_,false,v,rfl,fun w=>⟨by go_simp,by go_simp⟩,h3,h1⟩
 clear hor;obtain⟨pv,hv,hb,hp,hh,hsm⟩:=hua2;have HB:=Hi hb;have HP:=Hi hp;have HH:=Hi hh;have HSM:=Hi hsm;have HPT:=Hi hpt;have HQ:=Hi hq;have hbl:=AQ hb;clear hb hp hh hsm hpt hq;go_wp2;have hm:(Tryz.prog).follows .mixedOrders=true:=by kernel_rfl
 have hgl:=RB (w0:=w2) (b:=w.heap.size) (r:=r) (pv:=pv) (hv:=hv);refine Bk (ipS w.heap.size r pv hv ev ok) (ipZ w.heap.size r) (ipG w2 w.heap.size r pv hv) 13 hm (by kernel_rfl) rfl rfl ?hG [0,1,2,4,5,6,7,8] (by kernel_rfl) ?hold ?hs ?hend;case hG=>exact⟨(Kp.refl _ _).le (AC _).drew,HB.out,⟨_,rfl,HRES2.out⟩,HP.out.le (AC _).drew,HH.out.le (AC _).drew⟩
 case hold=>
  intro t ht;simp only[List.mem_cons,List.mem_nil_iff,or_false]at ht;rcases ht with rfl|rfl|rfl|rfl|rfl|rfl|rfl|rfl<;>first|exact trivial|rfl
 case hs=>
  refine⟨?_,?_,?_,?_,?_,?_,trivial⟩
  ·refine AA fun a W hg hop=>?_;have h1:_=_:=hq hop 4;refine⟨_,?_,rfl⟩;have hs:=Bc (P:=Tryz.prog) hg.2.1 Tryz.underlying84 rfl BZ;simp only[execOp,h1,hs,Sem.run_bind,Sem.run_pure,Result.andThen,Sem.run_map]
  ·refine AG ?_ ?_ ?_ ?_
   ·exact fun t u w w' k h=>Lc _ _ _ _ _ _ t u w w' (fun g _ hg=>k.block g hg) h
   ·exact fun j w w' k ⟨x,h1,h2⟩=>⟨x,k.heap h1,h2.le k⟩
   ·exact hgl
   intro a W hg hop;have h1:_=_:=hq hop 9;have h1':=tg h1;refine⟨41,#[.agg (r.cells pv hv)],?_,(O8 W r pv hv hg.2.2.2.1 hg.2.2.2.2 HSM.out).mono ?_⟩
   ·simp only[execOp,h1];go_simp
   ·rintro e w' ⟨x,rfl,hx,hle⟩;have:=AQ hg.2.1;exact⟨_,rfl,hle,x,rfl,hx.imp fun g h=>by omega⟩
  ·refine AA fun a W hg hop=>?_;have h1:_=_:=hq hop 5;refine⟨_,?_,rfl⟩;simp only[execOp,h1];go_simp
  ·refine AA fun a W hg hop=>?_;have h1:_=_:=hq hop 11;refine⟨_,?_,rfl⟩;obtain⟨hq,hq2⟩:=HQ.out W;simp only[execOp,h1];go_simp
  ·refine GrowStep.store ?_ rfl;intro a W hg hop;have h1:_=_:=hq hop 2;obtain⟨x,h2,hx⟩:∃x:UV,a.eval (.tmp 10)=x.val∧Uq (w.heap.size+2≤·) W x r:=hq hop 10;obtain⟨h3,h4,⟨cs,h5,h6⟩,h7,h8⟩:=hg;have hk:=Bd W w.heap.size x.row;have hfar:∀g,w.heap.size+2≤g→g<W.heap.size→(W.setRow w.heap.size x.row).heap[g]? =W.heap[g]? :=fun g hg _=>setRow_other W _ g _ (by omega)
   refine⟨W.setRow w.heap.size x.row,?_,⟨h3.trans hk,(setRow_other W _ _ _ (by omega)).trans h4,⟨x.row,rfl,setRow_heap W _ _ _ _ _ h6⟩,h7.kp hk h6 (by decide),h8.kp hk h6 (by decide)⟩,fun t v hv=>Lc _ _ _ _ _ _ t v W _ hfar hv,?_,x,setRow_heap W _ _ _ _ _ h6,hx.keep hfar⟩
   ·have hs:=run_storeVar_row (P:=Tryz.prog) W w.heap.size 25 25 cs x.row h6 Cx h5 hx.one;simp only[execOp,h1,h2,UV.val,Instr.storeAt,Instr.sureAddr,Sem.run_bind,Sem.run_pure,Result.andThen];rw[show #[x.scheme,x.raw,.bool x.wild,.bool x.slash,x.user,x.pass,x.host,.int .i64 x.port,x.ps,x.hs]=x.row from rfl,hs]
   ·intro j _ ⟨y,e1,e2⟩;exact⟨x,setRow_heap W _ _ _ _ _ h6,hx.keep hfar⟩
  ·refine AA fun a W hg hop=>?_;have h1:_=_:=hq hop 12;refine⟨_,?_,rfl⟩;simp only[execOp,h1];go_simp
 case hend=>
  intro a' w' hg hd hn hS hZ;obtain⟨x,hx1,hx2⟩:=hZ 4 _ rfl rfl;have h2:a'.eval (.tmp 2)= .pointer (some ⟨w.heap.size,0,none⟩):=hS 2 (by decide);have h3:a'.eval (.tmp 3)= .bool ok:=hS 3 (by decide);have HG:=Hi hg;clear hS hZ hg;go_wp2;refine bodyPost_ret (v:= .tuple #[x.val,.bool ok]) ?_ hd ?_
  ·rw[results_cell_tmp rfl];have h2':a'.tmps.getD 2 undef= .pointer (some ⟨w.heap.size,0,none⟩):=h2;have h3':a'.tmps.getD 3 undef= .bool ok:=h3;rw[h2',h3'];simp only[asAddr,Sem.run_pure,Result.andThen_ok,run_loadVar_row w' _ _ _ _ _ _ hx1 Tryz.underlying25 rfl Cx];rfl
  ·refine⟨Below.trans HLE2.out (HG.out.1.below (NL _) HLE2.out.size),x,ok,r,rfl,hx2.imp fun g h=>by omega,HPT.out⟩
end Go.Proofs.YtejhpdcjafbklaaGreatDoor
namespace Go.Proofs.YtejhpdcjafbklaaGreatDoor
open Go.RowKit
def bl2(c:UInt8):Bool:=c==32||c==9
theorem RR(x:UInt8)(h:128≤x.toNat):bl2 x=false:=by
 have n3:x≠32:=by rintro rfl;revert h;decide
 have n4:x≠9:=by rintro rfl;revert h;decide
 simp[bl2,n3,n4]
theorem JW{P:Program}{wr:World}{k:Nat}(q:Nat)(c:Nat)(s:ByteArray)(h:Utf8.decode s q=(c,1))(hq:q<s.size)(hk:wr.heap[k]? =some (.stringIter s q)):
 (∀ty,(Instr.next (.pointer (some ⟨k,0,none⟩)) true ty).run P wr= .ok (.tuple #[.bool true,.int .i64 q,.int .i32 c]) (wr.iterAt k s (q+1))):=fun ty=>by
 have:=Lib.run_next_any_at (P:=P) wr _ s q ty hk hq;rw[h]at this;exact this
theorem NM(s:ByteArray)(w:World)(hs:s.size≤1099511627776):Calls Tryz.prog 127 #[.string s,.string ⟨#[32,9]⟩] w fun e w'=>
 ∃r:Int,e= .returned (.int .i64 r)∧(decide (0≤r))=(bs s).any bl2∧Le w w':=by
 have HL:=Hi (BD s);go_enter Tryz.func127,Tryz.ntmps127;go_wp2
 go_loopg [] (s.size) (fun n wr=>∃p:Nat,n+p=s.size∧Le w wr∧wr.heap[w.heap.size]? =some (.stringIter s p)∧((bs s).take p).all (fun c=> !bl2 c)=true)
 case atStart=>exact⟨0,by omega,(AC w).iter s 0,World.iter_heap _ _ _,rfl⟩
 case round=>
  obtain⟨p,hn,hle,hit,hq⟩:=hrel;have HQ:=Hi hq;have HLE:=Hi hle;have HN:gk+p≤s.size∧s.size≤gk+p:=by omega
  clear hn hq hle;by_cases hlt:p<s.size
  ·obtain⟨c,d,W1,hnx,hst,hit1,hW1⟩:=CY (P:=Tryz.prog) hit hlt;have HLE1:=Hi (hW1▸HLE.out.iterAt (NL _) s (p+d):Le w W1);have HST:=Hi hst;have HS2:1≤d∧p+d≤s.size∧0≤c∧c≤1114111:=⟨hst.1,hst.2.1,hst.2.2.1,hst.2.2.2.1⟩;have HIT1:=Hi hit1;clear hW1 hst hit hit1;go_wp2
   go_loopg [] 2 (fun n wr=>∃q:Nat,n+q=2∧Le W1 wr∧wr.heap[W1.heap.size]? =some (.stringIter ⟨#[32,9]⟩ q)∧(1≤q→c≠32)∧(2≤q→c≠9))
   case atStart=>exact⟨0,by omega,(AC W1).iter _ 0,World.iter_heap _ _ _,by simp,by simp⟩
   case round=>
    obtain⟨q,hn,hle,hit,hq1,hq2⟩:=hrel;have HLE2:=Hi hle;have HQ1:=Hi hq1;have HQ2:=Hi hq2;clear hq1 hq2 hle;rcases(by omega:q=0∨q=1∨q=2)with rfl|rfl|rfl
    ·have HG:2≤gk:=by omega
     clear hn;have hnx:=JW (P:=Tryz.prog) 0 32 ⟨#[32,9]⟩ (by rfl) (by decide) hit;have HIT2:=Hi (Lib.iterAt_heap _ _ _ _ (0+1) hit);have HLE3:Hid (Le W1 (wr.iterAt W1.heap.size ⟨#[32,9]⟩ (0+1))):=Hi (HLE2.out.iterAt (NL _) _ _);generalize wr.iterAt W1.heap.size ⟨#[32,9]⟩ (0+1)=W3 at hnx HIT2 HLE3;clear hit;by_cases hc:c=32
     ·subst hc;obtain⟨hp,hx⟩:=Ci HST.out 32 (by decide) rfl;go_wp2;go_ret;refine⟨p,rfl,?_,HLE1.out.trans HLE3.out⟩;rw[show decide ((0:Int)≤(p:Int))=true from by simp];exact(List.any_eq_true.2 ⟨(bs s)[p],List.getElem_mem hp,by rw[hx];rfl⟩).symm
     ·have ec:(c==32)=false:=by simpa using hc
      have HC:=Hi hc;clear hc;go_wp2;go_roundg 1
      case measure=>omega
      case rel=>exact⟨0+1,by omega,HLE3.out,HIT2.out,fun _=>HC.out,by omega⟩
    ·have HG:1≤gk:=by omega
     clear hn;have hnx:=JW (P:=Tryz.prog) 1 9 ⟨#[32,9]⟩ (by rfl) (by decide) hit;have HIT2:=Hi (Lib.iterAt_heap _ _ _ _ (1+1) hit);have HLE3:Hid (Le W1 (wr.iterAt W1.heap.size ⟨#[32,9]⟩ (1+1))):=Hi (HLE2.out.iterAt (NL _) _ _);generalize wr.iterAt W1.heap.size ⟨#[32,9]⟩ (1+1)=W3 at hnx HIT2 HLE3;clear hit;by_cases hc:c=9
     ·subst hc;obtain⟨hp,hx⟩:=Ci HST.out 9 (by decide) rfl;go_wp2;go_ret;refine⟨p,rfl,?_,HLE1.out.trans HLE3.out⟩;rw[show decide ((0:Int)≤(p:Int))=true from by simp];exact(List.any_eq_true.2 ⟨(bs s)[p],List.getElem_mem hp,by rw[hx];rfl⟩).symm
     ·have ec:(c==9)=false:=by simpa using hc
      have HC:=Hi hc;clear hc;go_wp2;go_roundg 0
      case measure=>omega
      case rel=>exact⟨1+1,by omega,HLE3.out,HIT2.out,fun _=>HQ1.out (by omega),fun _=>HC.out⟩
    ·have hnx:=fun ty=>Lib.run_next_end_at (P:=Tryz.prog) wr _ ⟨#[32,9]⟩ 2 ty hit (by decide)
     have hF:Hid (((bs s).take (p+d)).all (fun c=> !bl2 c)=true):=FV (q:=bl2) RR HST.out HQ.out (fun x hx=>by
      have n1:x≠32:=by rintro rfl;exact HQ1.out (by omega) hx
      have n2:x≠9:=by rintro rfl;exact HQ2.out (by omega) hx
      simp[bl2,n1,n2])
     have HIT4:=Hi (HLE2.out.heap HIT1.out);have HLE4:=Hi (HLE1.out.trans HLE2.out);clear hit hn;go_wp2;go_roundg (s.size-(p+d))
     case measure=>omega
     case rel=>exact⟨p+d,by omega,HLE4.out,HIT4.out,hF.out⟩
  ·have hnx:=fun ty=>Lib.run_next_end_at (P:=Tryz.prog) wr _ s p ty hit hlt
   have hall:Hid ((bs s).all (fun c=> !bl2 c)=true):=by
    have h1:=HQ.out;rw[List.take_of_length_le (by rw[HL.out];omega)]at h1;exact h1
   clear hit;go_wp2;go_ret;refine⟨_,rfl,?_,HLE.out⟩;have h1:=hall.out;cases h2:(bs s).any bl2 with
   |false=>rfl
   |true=>
    obtain⟨x,hx,hx2⟩:=List.any_eq_true.1 h2;have:=List.all_eq_true.1 h1 x hx;simp[hx2]at this
theorem F0(s:ByteArray)(w:World)(hs:s.size≤1099511627776):Calls Tryz.prog 113 #[.string s,.string ⟨#[32,9]⟩] w fun e w'=>
 e= .returned (.bool ((bs s).any bl2))∧Le w w':=by
 go_enter Tryz.func113,Tryz.ntmps113;go_wp2_with fail
 refine(NM s _ hs).mono ?_;rintro e w' ⟨r,rfl,hr,hle⟩;have HR:=Hi hr;have HLE:=Hi hle;clear hr hle;go_wp2;go_ret;exact⟨by rw[←HR.out];rfl,HLE.out⟩
end Go.Proofs.YtejhpdcjafbklaaGreatDoor
namespace Go.Proofs.YtejhpdcjafbklaaGreatDoor
open Go.RowKit
def Ae(sep:UInt8)(x:Tx×Tx):Tx:=sep::(x.1++(if x.2.any bl2=true then 61::34::(x.2++[34])else if x.2=[]then []else 61::x.2))
def AZ(l:KVs)(sep:UInt8):Tx:=(l.flatMap (Ae sep)).drop 1
theorem Eu(l:KVs)(sep:UInt8)(k:Nat)(h:k<l.length):((l.take k).flatMap (Ae sep)).length+(Ae sep l[k]).length≤(l.flatMap (Ae sep)).length:=by
 induction l generalizing k with
 |nil=>simp at h
 |cons x r ih=>
  cases k with
  |zero=>simp
  |succ k=>
   have:=ih k (by simpa using h);simp only[List.take_succ_cons,List.flatMap_cons,LA,List.getElem_cons_succ];omega
theorem Fu(l:KVs)(sep:UInt8)(k:Nat)(h:k<l.length):(l.take (k+1)).flatMap (Ae sep)=(l.take k).flatMap (Ae sep)++Ae sep l[k]:=by
 rw[List.take_succ_eq_append_getElem h,List.flatMap_append];simp
theorem BFr.le{B b:Nat}{u v w:World}(h:BFr B b u v)(k:Le v w)(hB:B≤u.heap.size):BFr B b u w:=
 ⟨Below.trans h.1 (k.mono (Nat.le_trans hB h.1.size)),h.2.trans (k.oth _ _)⟩
theorem BFr.refl(B b:Nat)(w:World):BFr B b w w:=⟨Below.refl _ _,Lib.OthersKept.refl _ _ _⟩
theorem BFr.trans{B b:Nat}{u v w:World}(h:BFr B b u v)(k:BFr B b v w):BFr B b u w:=⟨Below.trans h.1 k.1,h.2.trans k.2⟩
theorem BFr.heap{B b:Nat}{v w:World}(h:BFr B b v w){k:Nat}{cs:Array Value}{T:TypeId}{fz:Nat×Nat}(hk:v.heap[k]? =some (.cells cs T fz))(hT:T≠5)(hb:k≠b):w.heap[k]? =some (.cells cs T fz):=
 h.2 k _ hk (fun e=>hb (by injection e)) (fun c f e=>by injection e with _ e;exact hT e)
theorem Df(w:World)(v:Value)(l:KVs)(sep:UInt8)(hv:Hp w v l)(hlen:(l.flatMap (Ae sep)).length≤1099511627776):
 Calls Tryz.prog 94 #[v,.int .u8 sep.toNat] w fun e w'=>e= .returned (.string (st (AZ l sep)))∧Le w w':=by
 obtain⟨A,c,rfl,hc1,hc2,hl,hm,hr⟩:=hv;have HM:=Hi hm;have HLEN:=Hi hlen;clear hm hlen;by_cases h0:l.length=0
 ·have hb0:((l.length:Int)==0)=true:=by simp[h0]
  obtain rfl:l=[]:=List.eq_nil_of_length_eq_zero h0;clear hr;go_enter Tryz.func94,Tryz.ntmps94;go_wp2;go_ret;exact⟨rfl,AC w⟩
 have hb0:((l.length:Int)==0)=false:=beq_eq_false_iff_ne.2 (by omega);go_enter Tryz.func94,Tryz.ntmps94;go_wp2
 go_loopg [13] (l.length) (fun n i wr=>∃k:Nat,n+k=l.length∧i= .int .i64 k∧Le w wr∧Bld w.heap.size w.heap.size ((l.take k).flatMap (Ae sep)) wr)
 case atStart=>exact⟨0,by omega,rfl,(AC w).alloc _,by simpa using BR w⟩
 case round=>
  obtain⟨k,hn,rfl,hle,hbd⟩:=hrel;have HLE:=Hi hle;have HBD:=Hi hbd;have HN:gk+k≤l.length∧l.length≤gk+k:=by omega
  clear hn hbd;by_cases hlt:k<l.length
  ·obtain⟨g,o,rfl,hg,hcells⟩:=hr (by omega);have d1:=Le.cell hle (hcells k hlt).1;have d2:=Le.cell hle (hcells k hlt).2;have HTL:=Hi (Nat.le_trans (Eu l sep k hlt) HLEN.out);have HSN:=Hi (Fu l sep k hlt);clear hcells hg hr hle;obtain⟨key,val,hx⟩:∃key val,l[k]=(key,val):=⟨_,_,rfl⟩;rw[hx]at d1 d2 HTL HSN;have hkv:=HM.out l[k] (List.getElem_mem hlt);rw[hx]at hkv
   have HKV:=Hi hkv;clear hkv;have hwl:=HBD.out.lt;generalize hacc:(l.take k).flatMap (Ae sep)=acc at HBD HTL HSN;clear hacc hx;have hh0:(wr.alloc (Obj.cells #[.string (st key),.string (st val)] 172)).heap[wr.heap.size]? =some (Obj.cells #[.string (st key),.string (st val)] 172):=heap_alloc_new wr _
   have HL0:Hid (Le w (wr.alloc (Obj.cells #[.string (st key),.string (st val)] 172))):=Hi (HLE.out.alloc _);have HB0:Hid (Bld w.heap.size w.heap.size acc (wr.alloc (Obj.cells #[.string (st key),.string (st val)] 172))):=Hi (HBD.out.le ((AC wr).alloc _));have HH0:=Hi hh0;clear hh0;have hh0:=HH0.out;go_wp2_with fail
   refine(QJ _ _ acc _ sep _ HB0.out rfl (by have:=HTL.out;simp only[Ae,LA,LC,LN,AV]at this⊢;omega)).mono ?_;rintro e w1 ⟨rfl,hb1,hf1⟩;have hh1:=hf1.heap hh0 (by decide) (by omega);have HB1:=Hi hb1;have HL1:Hid (Le w w1):=Hi (Below.trans HL0.out hf1.1);have c0:w1.cell? ⟨wr.heap.size,0,none⟩=some (.string (st key)):=AB hh1 0
   have c1:w1.cell? ⟨wr.heap.size,1,none⟩=some (.string (st val)):=AB hh1 1;have HH1:=Hi hh1;clear hb1 hf1 hh1;clear HH0;have hh1:=HH1.out;go_wp2_with fail
   refine(Hx _ _ (acc++[sep]) (st key) _ HB1.out (by have:=HTL.out;simp only[Ae,LA,LC,LN,AF,AV]at this⊢;omega)).mono ?_;rintro e w2 ⟨rfl,hb2,hf2⟩;have hh2:=hf2.heap hh1 (by decide) (by omega);have HB2:=Hi hb2;have HL2:Hid (Le w w2):=Hi (Below.trans HL1.out hf2.1)
   have c0:w2.cell? ⟨wr.heap.size,0,none⟩=some (.string (st key)):=AB hh2 0;have c1:w2.cell? ⟨wr.heap.size,1,none⟩=some (.string (st val)):=AB hh2 1;have HH2:=Hi hh2;clear hb2 hf2 hh2;have hh2:=HH2.out;go_wp2_with fail
   refine(F0 (st val) _ (by rw[AF];exact HKV.out.2)).mono ?_;rw[AV];rintro e w3 ⟨rfl,hle3⟩;have HL3:Hid (Le w w3):=Hi (HL2.out.trans hle3);have HB3:=Hi (HB2.out.le hle3);have hh3:=hle3.heap hh2;have c0:w3.cell? ⟨wr.heap.size,0,none⟩=some (.string (st key)):=AB hh3 0;have c1:w3.cell? ⟨wr.heap.size,1,none⟩=some (.string (st val)):=AB hh3 1
   have HH3:=Hi hh3;clear hle3 hh3 hh2;by_cases hany:val.any bl2=true
   ·rw[hany];have HTL0:=HTL;have hT:Hid (Ae sep (key,val)=sep::(key++61::34::(val++[34]))):=Hi (by unfold Ae;rw[if_pos hany]);rw[hT.out]at HTL HSN;clear hany HTL0;have hh3:=HH3.out;go_wp2_with fail
    refine(Hx _ _ (acc++[sep]++bs (st key)) ⟨#[61,34]⟩ _ HB3.out (by have:=HTL.out;simp only[Ae,LA,LC,LN,AF,AV]at this⊢;simp only[ByteArray.size];simp;omega)).mono ?_;rintro e w4 ⟨rfl,hb4,hf4⟩;have hh4:=hf4.heap hh3 (by decide) (by omega);have HB4:=Hi hb4;have HL4:Hid (Le w w4):=Hi (Below.trans HL3.out hf4.1)
    have c0:w4.cell? ⟨wr.heap.size,0,none⟩=some (.string (st key)):=AB hh4 0;have c1:w4.cell? ⟨wr.heap.size,1,none⟩=some (.string (st val)):=AB hh4 1;have HH4:=Hi hh4;clear hb4 hf4 hh4;have hh4:=HH4.out;go_wp2_with fail
    refine(Hx _ _ (acc++[sep]++bs (st key)++bs ⟨#[61,34]⟩) (st val) _ HB4.out (by have:=HTL.out;simp only[Ae,LA,LC,LN,AF,AV]at this⊢;simp only[bs];simp;omega)).mono ?_;rintro e w5 ⟨rfl,hb5,hf5⟩;have hh5:=hf5.heap hh4 (by decide) (by omega);have HB5:=Hi hb5;have HL5:Hid (Le w w5):=Hi (Below.trans HL4.out hf5.1)
    have c0:w5.cell? ⟨wr.heap.size,0,none⟩=some (.string (st key)):=AB hh5 0;have c1:w5.cell? ⟨wr.heap.size,1,none⟩=some (.string (st val)):=AB hh5 1;have HH5:=Hi hh5;clear hb5 hf5 hh5;have hh5:=HH5.out;go_wp2_with fail
    refine(QJ _ _ (acc++[sep]++bs (st key)++bs ⟨#[61,34]⟩++bs (st val)) _ 34 _ HB5.out rfl (by have:=HTL.out;simp only[Ae,LA,LC,LN,AV]at this⊢;simp only[bs];simp;omega)).mono ?_;rintro e w6 ⟨rfl,hb6,hf6⟩;have hh6:=hf6.heap hh5 (by decide) (by omega);have HB6:=Hi hb6;have HL6:Hid (Le w w6):=Hi (Below.trans HL5.out hf6.1)
    have c0:w6.cell? ⟨wr.heap.size,0,none⟩=some (.string (st key)):=AB hh6 0;have c1:w6.cell? ⟨wr.heap.size,1,none⟩=some (.string (st val)):=AB hh6 1;have HH6:=Hi hh6;clear hb6 hf6 hh6;clear HH5;go_wp2;go_roundg (gk-1)
    case measure=>omega
    case rel=>exact⟨k+1,by omega,by go_num,HL6.out,by rw[HSN.out];exact(show acc++[sep]++bs (st key)++bs ⟨#[61,34]⟩++bs (st val)++[34]=acc++sep::(key++61::34::(val++[34]))from by rw[AV,AV];simp[bs])▸HB6.out⟩
   ·rw[show val.any bl2=false from by simpa using hany];by_cases hv0:val=[]
    ·subst hv0;have hT:Hid (Ae sep (key,[])=sep::key):=Hi (by unfold Ae;simp);have hv1:((st []).toList==([]:List UInt8))=true:=by rw[Bw,AV];rfl
     have hv2:(st []).toList=[]:=by rw[DX]
     rw[hT.out]at HTL HSN;clear hany;go_wp2;go_roundg (gk-1)
     case measure=>omega
     case rel=>exact⟨k+1,by omega,by go_num,HL3.out,by rw[HSN.out];exact(show acc++[sep]++bs (st key)=acc++sep::key from by rw[AV];simp)▸HB3.out⟩
    ·have hT:Hid (Ae sep (key,val)=sep::(key++61::val)):=Hi (by unfold Ae;rw[if_neg hany,if_neg hv0]);have hv1:((st val).toList==([]:List UInt8))=false:=by rw[Bw,AV];simpa using hv0
     rw[hT.out]at HTL HSN;clear hany hv0;have hh3:=HH3.out;go_wp2_with fail
     refine(QJ _ _ (acc++[sep]++bs (st key)) _ 61 _ HB3.out rfl (by have:=HTL.out;simp only[Ae,LA,LC,LN,AV]at this⊢;omega)).mono ?_;rintro e w4 ⟨rfl,hb4,hf4⟩;have hh4:=hf4.heap hh3 (by decide) (by omega);have HB4:=Hi hb4;have HL4:Hid (Le w w4):=Hi (Below.trans HL3.out hf4.1)
     have c0:w4.cell? ⟨wr.heap.size,0,none⟩=some (.string (st key)):=AB hh4 0;have c1:w4.cell? ⟨wr.heap.size,1,none⟩=some (.string (st val)):=AB hh4 1;have HH4:=Hi hh4;clear hb4 hf4 hh4;clear HH3;have hh4:=HH4.out;go_wp2_with fail
     refine(Hx _ _ (acc++[sep]++bs (st key)++[61]) (st val) _ HB4.out (by have:=HTL.out;simp only[Ae,LA,LC,LN,AF,AV]at this⊢;omega)).mono ?_;rintro e w5 ⟨rfl,hb5,hf5⟩;have hh5:=hf5.heap hh4 (by decide) (by omega);have HB5:=Hi hb5;have HL5:Hid (Le w w5):=Hi (Below.trans HL4.out hf5.1)
     have c0:w5.cell? ⟨wr.heap.size,0,none⟩=some (.string (st key)):=AB hh5 0;have c1:w5.cell? ⟨wr.heap.size,1,none⟩=some (.string (st val)):=AB hh5 1;have HH5:=Hi hh5;clear hb5 hf5 hh5;go_wp2;go_roundg (gk-1)
     case measure=>omega
     case rel=>exact⟨k+1,by omega,by go_num,HL5.out,by rw[HSN.out];exact(show acc++[sep]++bs (st key)++[61]++bs (st val)=acc++sep::(key++61::val)from by rw[AV,AV];simp)▸HB5.out⟩
  ·have HT:Hid (l.take k=l):=Hi (List.take_of_length_le (by omega));clear hr hle;have HLN:Hid (1≤(l.flatMap (Ae sep)).length):=by
    cases l with
    |nil=>exact absurd rfl h0
    |cons x r=>exact Hi (by simp only[List.flatMap_cons,LA,Ae,LC];omega)
   go_wp2_with fail
   refine(Bj _ _ _ _ HBD.out).mono ?_;rintro e w2 ⟨rfl,hb2,hf2⟩;have HLE2:Hid (Le w w2):=Hi (Below.trans HLE.out hf2.1);clear hb2 hf2;rw[HT.out];have hps:Hid (AZ l sep=(l.flatMap (Ae sep)).drop 1):=Hi rfl;generalize l.flatMap (Ae sep)=T at HLN hps⊢;have h1:(1:Int)≤((st T).size:Int):=by have:=HLN.out;rw[AF];omega
   go_wp2;go_ret;refine⟨?_,HLE2.out⟩;rw[hps.out];exact congrArg (fun x=>Ending.returned (.string x)) ((BM (st T) 1).trans (by rw[AV]))
end Go.Proofs.YtejhpdcjafbklaaGreatDoor
