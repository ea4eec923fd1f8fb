/- The law FnHeadWritten: GrowA Apn HwC. -/
import Derived.Test.YtejhpdcjafbklaaGreatDoorHwA
set_option linter.all false
set_option maxRecDepth 100000
set_option maxHeartbeats 16000000
namespace Go.Proofs.YtejhpdcjafbklaaGreatDoor.G4
open Go.RowKit
section
variable {P:Program} {ops:Array Oper} {md:Region.Mode} {Q:Exit→Act→World→Prop}
structure BE(ops:Array Oper)(N:Nat)(S:Nat→Value→World→Prop)(G:Act→World→Prop)(n:Nat)(a0:Act)(listed:Array Bool)(a:Act)(w:World):Prop where
 g:G a w
 d:a.defers=[]
 sz:a.tmps.size=n
 old:∀t,t<n→(∀(i:Nat) (o:Oper),i<N→ops[i]? =some o→o.dst≠some t)→S t (a.eval (.tmp t)) w
 un:∀t,(∀(i:Nat) (o:Oper),i<N→ops[i]? =some o→listed.getD i false=true→o.dst≠some t)→a.eval (.tmp t)=a0.eval (.tmp t)
 new:∀(i:Nat) (o:Oper),i<N→ops[i]? =some o→listed.getD i false=true→SAt S (fun _ _=>True) i o.dst (EI o a) w
def TT:Nat→World→Prop:=fun _ _=>True
def GrowStep(P:Program)(n:Nat)(a0:Act)(S:Nat→Value→World→Prop)(G:Act→World→Prop)(Q:Exit→Act→World→Prop)(i:Nat)(o:Oper):Prop:=
 ∀a w,a.tmps.size=n→(∀t,o.dst=some t→a.eval (.tmp t)=a0.eval (.tmp t))→G a w→(∀t,Operand.tmp t∈o.op.operands→S t (a.eval (.tmp t)) w)→
  o.wp P a w (fun a' w'=>∃v,a'=a.put o.dst v∧G (a.put o.dst v) w'∧(∀t,o.dst≠some t→S t (a.eval (.tmp t)) w→S t (a.eval (.tmp t)) w')∧SAt S TT i o.dst v w') Q
def BX(P:Program)(n:Nat)(a0:Act)(S:Nat→Value→World→Prop)(G:Act→World→Prop)(Q:Exit→Act→World→Prop):Nat→List Oper→Prop
 |_,[]=>True
 |k,o::r=>GrowStep P n a0 S G Q k o∧BX P n a0 S G Q (k+1) r
theorem BX.at{n:Nat}{a0:Act}{S:Nat→Value→World→Prop}{G:Act→World→Prop}:∀{l:List Oper} {k:Nat},BX P n a0 S G Q k l→∀(i:Nat) (o:Oper),l[i]? =some o→GrowStep P n a0 S G Q (k+i) o
 |[],_,_,i,o,h=>by simp at h
 |x::r,k,⟨h1,h2⟩,0,o,h=>by simp at h;subst h;exact h1
 |x::r,k,⟨h1,h2⟩,i+1,o,h=>by
  have:=BX.at h2 i o (by simpa using h);rw[show k+(i+1)=k+1+i from by omega];exact this
theorem Bs{S:Nat→Value→World→Prop}{G:Act→World→Prop}{n i:Nat}{N:Nat}{a0:Act}(hiN:i<N)(hd:G3.depsB md ops N=true)(ha:G3.apartB ops N n=true){o:Oper}(ho:ops[i]? =some o)(hs:GrowStep P n a0 S G Q i o)
 {listed:Array Bool}{a:Act}{w:World}(h:BE ops N S G n a0 listed a w)(hr:i∈Region.ready md ops listed):wpOp P ops Q i (BE ops N S G n a0 (listed.setIfInBounds i true)) a w:=by
 obtain⟨hun,o',ho',hall⟩:=mem_ready.1 hr;obtain rfl:o'=o:=Option.some.inj (ho'.symm.trans ho);have hw:Region.wanted o' (yielded ops a.tmps)=true:=by unfold Region.wanted;rw[(G3.apartB_one ha hiN ho).2.1]
 unfold wpOp;simp only[ho,hw,if_true];left
 refine Oper.wp_mono ?_ (hs a w h.sz (fun t ht=>h.un t fun j oj hjN hj hl hdt=>by
  by_cases hij:j=i
  ·subst hij;rw[getD_both hun]at hl;cases hl
  ·rcases G3.apartB_ne ha hjN hiN hj ho hij with e|e
   ·rw[hdt]at e;cases e
   ·exact e (hdt.trans ht.symm)) h.g fun t ht=>?_)
 ·rintro a' w' ⟨v,rfl,hg,hS,hv⟩;refine⟨hg,(Co _ _ _).trans h.d,(DJ _ _ _).trans h.sz,fun t ht hno=>?_,fun t hno=>?_,fun j oj hjN hj hl=>?_⟩
  ·have hne:o'.dst≠some t:=hno i o' hiN ho;rw[AE v hne];exact hS t hne (h.old t ht hno)
  ·have hilt:i<listed.size:=by
    rcases Nat.lt_or_ge i listed.size with h'|h'
    ·exact h'
    ·rw[Array.getD_eq_getD_getElem?,Array.getElem?_eq_none h']at hun;simp at hun
   have hne:o'.dst≠some t:=hno i o' hiN ho (by rw[Array.getD_eq_getD_getElem?,Array.getElem?_setIfInBounds_self_of_lt hilt];rfl);rw[AE v hne];refine h.un t fun j oj hjN hj hl=>hno j oj hjN hj ?_;by_cases hij:i=j
   ·subst hij;rw[Array.getD_eq_getD_getElem?,Array.getElem?_setIfInBounds_self_of_lt hilt];rfl
   ·rw[getD_set_ne false hij];exact hl
  ·by_cases hij:i=j
   ·subst hij;obtain rfl:oj=o':=Option.some.inj (hj.symm.trans ho);unfold EI;cases hdd:oj.dst with
    |none=>rw[hdd]at hv;exact hv
    |some t=>
     dsimp only;rw[AR v (by rw[h.sz];exact(G3.apartB_one ha hiN ho).1 _ hdd)];rw[hdd]at hv;exact hv
   ·have hl':listed.getD j false=true:=by rw[getD_set_ne false hij]at hl;exact hl
    have hne:=G3.apartB_ne ha hiN hjN ho hj hij;have hold:=h.new j oj hjN hj hl';cases hdj:oj.dst with
    |none=>
     rw[hdj]at hold;trivial
    |some t=>
     rw[hdj]at hold hne;unfold EI at hold⊢;rw[hdj]at hold⊢;have hnt:o'.dst≠some t:=by rcases hne with h|h;(rw[h];simp);exact h
     dsimp only;rw[AE v hnt];exact hS t hnt hold
 ·by_cases hw2:∃(j:Nat) (oj:Oper),j<N∧ops[j]? =some oj∧oj.dst=some t
  ·obtain⟨j,oj,hjN,hj,hdj⟩:=hw2;obtain⟨e,he,heon,hb⟩:=G3.depsB_spec hd hiN ho ht hjN hj hdj;have hlj:=hall e he hb;rw[heon]at hlj;have hnew:=h.new j oj hjN hj hlj;unfold EI at hnew;rw[hdj]at hnew;exact hnew
  ·exact h.old t ((G3.apartB_one ha hiN ho).2.2 _ ht) fun j oj hjN hj hdj=>hw2 ⟨j,oj,hjN,hj,hdj⟩
theorem CN{S:Nat→Value→World→Prop}{G:Act→World→Prop}{n N:Nat}{a0:Act}(hd:G3.depsB md ops N=true)(ha:G3.apartB ops N n=true)(hah:DR md ops=true)(ht:FA md ops N=true)
 (hs:∀(i:Nat) (o:Oper),i<N→ops[i]? =some o→GrowStep P n a0 S G Q i o)
 (hdone:∀a w,BE ops N S G n a0 (BA ops.size N) a w→wpList P ops Q (ops.toList.drop N) a w):
 ∀(f:Nat) (listed:Array Bool) (a:Act) (w:World),HeadInv md ops N listed→listed.toList.count false=f→BE ops N S G n a0 listed a w→wpAny P md ops Q f listed a w:=by
 simp only[FA,Bool.and_eq_true,decide_eq_true_eq]at ht;obtain⟨⟨⟨hsk,hch⟩,hN⟩,hsq⟩:=ht;intro f;induction f with
 |zero=>
  intro listed a w hi hc h;exfalso;have hlt:N<listed.size:=by rw[hi.size];exact hN
  have hm:listed[N]=false:=by
   have:=hi.tail N (NL _) hN;rw[Array.getD_eq_getD_getElem?,Array.getElem?_eq_getElem hlt]at this;simpa using this
  have:0<listed.toList.count false:=List.count_pos_iff.2 (by rw[←hm];exact Array.getElem_mem_toList hlt);omega
 |succ f ih=>
  intro listed a w hi hc h;by_cases hall:∀i,i<N→listed.getD i false=true
  ·have e:=Dz (Nat.le_of_lt hN) ⟨hi.size,hi.tail⟩ hall;subst e;have hl:(ops.toList.drop N).length=f+1:=by
    rw[←hc];simp[BA,List.count_replicate]
   have:=wpAny_of_seq (P:=P) (md:=md) (ops:=ops) (Q':=Q) (ops.toList.drop N) N (BA ops.size N) a w (fun j=>by simp[List.getElem?_drop]) (by rw[List.length_drop,Array.length_toList];exact hsq) (hdone a w h);rw[hl]at this;exact this
  ·obtain⟨j,hj⟩:∃j,¬(j<N→listed.getD j false=true):=by
    refine Classical.byContradiction fun hno=>hall fun i hi'=>?_;exact Classical.byContradiction fun hx=>hno ⟨i,fun k=>hx (k hi')⟩
   have hjN:j<N:=Classical.byContradiction fun hx=>hj (fun k=>absurd k hx);have hjl:listed.getD j false=false:=by
    cases hx:listed.getD j false with
    |false=>rfl
    |true=>exact absurd (fun _=>hx) hj
   refine⟨fun hr=>?_,fun i hir=>?_⟩
   ·have:=CE hah hi.size hr j (by omega);rw[this]at hjl;cases hjl
   ·have hiN:i<N:=by
     rcases Nat.lt_or_ge i N with h'|h'
     ·exact h'
     ·exact absurd hir (tail_waits hsk hch hN hi _ j rfl hjN (getD_in (by rw[hi.size];omega) hjl) i h')
    obtain⟨hun,o,ho,_⟩:=mem_ready.1 hir;have hlt:i<listed.size:=by rw[hi.size];exact(Array.getElem?_eq_some_iff.1 ho).1
    have hm:listed[i]=false:=by
     rw[Array.getD_eq_getD_getElem?,Array.getElem?_eq_getElem hlt]at hun;simpa using hun
    refine wpOp_mono (fun a' w' h'=>ih _ a' w' (hi.set hir hiN) ?_ h') (Bs hiN hd ha ho (hs i o hiN ho) h hir);rw[Array.setIfInBounds_def,dif_pos hlt,Array.toList_set,List.count_set (by simpa using hlt)];have hpos:0<listed.toList.count false:=List.count_pos_iff.2 (by rw[←hm];exact Array.getElem_mem_toList hlt);have hb:(listed.toList[i]'(by simpa using hlt)==false)=true:=by simp[hm]
    rw[if_pos hb,if_neg (by decide)];omega
theorem wp_region_grow_tail{id:Nat}{l:List Oper}{a:Act}{w:World}(S:Nat→Value→World→Prop)(G:Act→World→Prop)(n N:Nat)(ds:List Nat)
 (hm:P.follows .mixedOrders=true)(hB:(G3.depsB .any l.toArray N&&G3.apartB l.toArray N n&&DR .any l.toArray&&FA .any l.toArray N&&decide ((l.take N).map (·.dst)=ds.map some))=true)
 (hn:a.tmps.size=n)(hdef:a.defers=[])(hG:G a w.drew)(hold:∀t,t∉ds→S t (a.eval (.tmp t)) w.drew)
 (hs:BX P n a S G Q 0 (l.take N))
 (hend:∀v w',G (Aj a v ds) w'→(∀t,t∈ds→S t (v t) w')→wpList P l.toArray Q (l.drop N) (Aj a v ds) w'):
 (Code.region id l.toArray true).wp P Q a w:=by
 simp only[Bool.and_eq_true,decide_eq_true_eq]at hB;obtain⟨⟨⟨⟨hd,ha⟩,hah⟩,htb⟩,hds⟩:=hB;have htb':=htb;simp only[FA,Bool.and_eq_true,decide_eq_true_eq]at htb';obtain⟨⟨⟨hsk,hch⟩,hN⟩,hsq⟩:=htb';have hNl:N<l.length:=by simpa using hN
 refine wp_region_any hm ?_;refine CN (S:=S) (G:=G) (n:=n) (N:=N) (a0:=a) hd ha hah htb (fun i o hi ho=>?_) ?_ l.toArray.size _ a _ ?_ (by simp) ?_
 ·have:=hs.at i o (by rw[List.getElem?_take_of_lt hi];simpa using ho);simpa using this
 ·intro a' w' h
  have e:a'=Aj a (fun t=>a'.eval (.tmp t)) ds:=by
   refine D7 (by rw[h.d,Bg,hdef]) (by rw[h.sz,BJ,hn]) fun t ht=>?_;rw[CC _ t ds a (by rw[hn,←h.sz];exact ht)];by_cases hm:t∈ds
   ·rw[if_pos hm]
   ·rw[if_neg hm];refine h.un t fun i o hiN ho hl hdt=>hm ?_
    have hmem:o.dst∈(l.take N).map (·.dst):=List.mem_map.2 ⟨o,by
     rw[List.mem_take_iff_getElem];obtain⟨hlt,e⟩:=List.getElem?_eq_some_iff.1 (show l[i]? =some o by simpa using ho);exact⟨i,by omega,e⟩,rfl⟩
    rw[hds,hdt]at hmem;obtain⟨t',ht',e⟩:=List.mem_map.1 hmem;injection e with e
    exact e▸ht'
  rw[e];refine hend _ w' (e▸h.g) fun t ht=>?_;have hmem:some t∈(l.take N).map (·.dst):=by rw[hds];exact List.mem_map.2 ⟨t,ht,rfl⟩
  obtain⟨o,ho,hdt⟩:=List.mem_map.1 hmem;obtain⟨i,hi,e2⟩:=List.getElem_of_mem ho;have hiN:i<N:=by simp at hi;omega
  have hli:l.toArray[i]? =some o:=by
   have:(l.take N)[i]? =some o:=by rw[List.getElem?_eq_getElem hi,e2]
   rw[List.getElem?_take_of_lt hiN]at this;simpa using this
  have hnew:=h.new i o hiN hli (by
   have hil:i<(BA l.toArray.size N).size:=by simp[BA];omega
   rw[Array.getD_eq_getD_getElem?,Array.getElem?_eq_getElem hil];simp only[BA,List.getElem_toArray,Option.getD_some];rw[List.getElem_append_left (by simpa using hiN),List.getElem_replicate])
  unfold EI at hnew;rw[hdt]at hnew;exact hnew
 ·exact⟨by simp,fun j oj _ hl=>(by rw[getD_replicate_false]at hl;cases hl),fun t _ ht=>getD_in (by simpa using ht) (getD_replicate_false _ _)⟩
 ·refine⟨hG,hdef,hn,fun t ht hno=>?_,fun t _=>rfl,fun i o _ ho hl=>?_⟩
  ·refine hold t fun hm=>?_;have hmem:some t∈(l.take N).map (·.dst):=by rw[hds];exact List.mem_map.2 ⟨t,hm,rfl⟩
   obtain⟨o,ho,hdt⟩:=List.mem_map.1 hmem;obtain⟨i,hi,e2⟩:=List.getElem_of_mem (List.mem_of_mem_take ho);have hlen:(List.take N l).length≤N:=by simp;omega
   have hmt:=List.mem_of_mem_take ho;obtain⟨k,hk,e3⟩:=List.mem_take_iff_getElem.1 ho
   exact hno k o (by omega) (by
    have hkl:k<l.length:=by omega
    simp[List.getElem?_eq_getElem hkl,e3]) hdt
  ·rw[getD_replicate_false]at hl;cases hl
theorem Ca{S:Nat→Value→World→Prop}{G:Act→World→Prop}{n:Nat}{a0:Act}(hd:G3.depsB md ops ops.size=true)(ha:G3.apartB ops ops.size n=true)(hs:∀(i:Nat) (o:Oper),ops[i]? =some o→GrowStep P n a0 S G Q i o)
 (hdone:∀listed a w,listed.size=ops.size→BE ops ops.size S G n a0 listed a w→Region.ready md ops listed=[]→Q .normal a w):
 ∀(f:Nat) (listed:Array Bool) (a:Act) (w:World),listed.size=ops.size→listed.toList.count false≤f→BE ops ops.size S G n a0 listed a w→wpAny P md ops Q f listed a w:=by
 intro f;induction f with
 |zero=>
  intro listed a w hz hc h;have hr:Region.ready md ops listed=[]:=by
   apply List.eq_nil_iff_forall_not_mem.2;intro i hi;obtain⟨hun,o,ho,_⟩:=mem_ready.1 hi;have hlt:i<listed.size:=by rw[hz];exact(Array.getElem?_eq_some_iff.1 ho).1
   have hm:false∈listed.toList:=by
    rw[Array.getD_eq_getD_getElem?,Array.getElem?_eq_getElem hlt]at hun;simp only[Option.getD_some]at hun;rw[←hun];exact Array.getElem_mem_toList hlt
   have:=List.count_pos_iff.2 hm;omega
  exact⟨hr,hdone _ _ _ hz h hr⟩
 |succ f ih=>
  intro listed a w hz hc h;refine⟨fun hr=>hdone _ _ _ hz h hr,fun i hi=>?_⟩;obtain⟨hun,o,ho,_⟩:=mem_ready.1 hi;have hlt:i<listed.size:=by rw[hz];exact(Array.getElem?_eq_some_iff.1 ho).1
  have hm:listed[i]=false:=by
   rw[Array.getD_eq_getD_getElem?,Array.getElem?_eq_getElem hlt]at hun;simpa using hun
  refine wpOp_mono (fun a' w' h'=>ih _ a' w' (by simpa using hz) ?_ h') (Bs (Array.getElem?_eq_some_iff.1 ho).1 hd ha ho (hs i o ho) h hi);rw[Array.setIfInBounds_def,dif_pos hlt,Array.toList_set,List.count_set (by simpa using hlt)];have hpos:0<listed.toList.count false:=List.count_pos_iff.2 (by rw[←hm];exact Array.getElem_mem_toList hlt);simp only[Array.getElem_toList,hm];simpa using hc
theorem wp_region_grow_put{id:Nat}{l:List Oper}{a:Act}{w:World}(S:Nat→Value→World→Prop)(G:Act→World→Prop)(n:Nat)(ds:List Nat)
 (hm:P.follows .mixedOrders=true)(hB:(G3.depsB .any l.toArray l.length&&G3.apartB l.toArray l.length n&&DR .any l.toArray&&decide (l.filterMap (·.dst)=ds))=true)
 (hn:a.tmps.size=n)(hdef:a.defers=[])(hG:G a w.drew)(hold:∀t,t∉ds→S t (a.eval (.tmp t)) w.drew)
 (hs:BX P n a S G Q 0 l)
 (hend:∀v w',G (Aj a v ds) w'→(∀t,t∈ds→S t (v t) w')→Q .normal (Aj a v ds) w'):
 (Code.region id l.toArray true).wp P Q a w:=by
 simp only[Bool.and_eq_true,decide_eq_true_eq]at hB;obtain⟨⟨⟨hd,ha⟩,hah⟩,hds⟩:=hB;have hd:G3.depsB .any l.toArray l.toArray.size=true:=by simpa using hd
 have ha:G3.apartB l.toArray l.toArray.size n=true:=by simpa using ha
 refine wp_region_any hm ?_;refine Ca hd ha (fun i o ho=>by have:=hs.at i o (by simpa using ho);simpa using this) ?_ l.toArray.size _ a _ (by simp) ?_ ?_ (S:=S) (G:=G) (n:=n) (a0:=a)
 ·intro listed a' w' hz h hr;have hall:=CE hah hz hr
  have hmem:∀(i:Nat) (o:Oper) (t:Nat),l.toArray[i]? =some o→o.dst=some t→t∈ds:=fun i o t ho hdt=>by
   rw[←hds];obtain⟨hlt,e⟩:=List.getElem?_eq_some_iff.1 (show l[i]? =some o by simpa using ho);exact List.mem_filterMap.2 ⟨o,e▸List.getElem_mem hlt,hdt⟩
  have e:a'=Aj a (fun t=>a'.eval (.tmp t)) ds:=by
   refine D7 (by rw[h.d,Bg,hdef]) (by rw[h.sz,BJ,hn]) fun t ht=>?_;rw[CC _ t ds a (by rw[hn,←h.sz];exact ht)];by_cases hm:t∈ds
   ·rw[if_pos hm]
   ·rw[if_neg hm];exact h.un t fun i o _ ho _ hdt=>hm (hmem i o t ho hdt)
  rw[e];refine hend _ w' (e▸h.g) (fun t ht=>?_);rw[←hds]at ht;obtain⟨o,ho,hdt⟩:=List.mem_filterMap.1 ht;obtain⟨i,hi,e2⟩:=List.getElem_of_mem ho;have hli:l.toArray[i]? =some o:=by simp[List.getElem?_eq_getElem hi,e2]
  have hnew:=h.new i o (by simpa using hi) hli (hall i (Array.getElem?_eq_some_iff.1 hli).1);unfold EI at hnew;rw[hdt]at hnew;exact hnew
 ·simp
 ·refine⟨hG,hdef,hn,fun t ht hno=>?_,fun t _=>rfl,fun i o _ ho hl=>?_⟩
  ·refine hold t fun hm=>?_;rw[←hds]at hm;obtain⟨o,ho,hdt⟩:=List.mem_filterMap.1 hm;obtain⟨i,hi,e2⟩:=List.getElem_of_mem ho;exact hno i o (by simpa using hi) (by simp[List.getElem?_eq_getElem hi,e2]) hdt
  ·rw[getD_replicate_false]at hl;cases hl
end
end Go.Proofs.YtejhpdcjafbklaaGreatDoor.G4
namespace Go.Proofs.YtejhpdcjafbklaaGreatDoor
open Go.RowKit
theorem BH{w:World}{base:Nat}{v x:Value}{l m:Tx}(hown:AY base w v l)(hx:Bv w x m)(hl:l.length+m.length≤140737488355328)(hbase:base≤w.heap.size)(ty:TypeId):
 ∃v' w',(Builtin.append_ #[22,22] ty #[v,x]).run Tryz.prog w= .ok v' w'∧AY base w' v' (l++m)∧w.grownBy w' v.ownBlock∧AY base w' v l∧(v'.ownBlock=v.ownBlock∨∀g,v'.ownBlock=some g→w.heap.size≤g):=by
 obtain⟨v',w',q,k1,k2,k3⟩:=BI hown hx hl hbase ty;refine⟨v',w',q,k1,k2,k3,?_⟩;obtain⟨i0,hi0,hz0,hz1,hz2⟩:=info_parts FT;rcases hown.2 with⟨rfl,h5⟩|⟨g,cap,cur,rfl,hbg,hg,hnc,hcm,hcs,htk⟩
 ·obtain rfl:l=[]:=List.eq_nil_of_length_eq_zero h5;obtain⟨v2,w2,q2,r1,r2⟩:=Cj (AY.nil w.heap.size w) hx hl (NL _) ty;rw[q2]at q;injection q with q1 q2
  subst q1;exact .inr fun g hg=>(AK r1 g hg).1
 ·obtain⟨A,c,rfl,h1,h2,h3,h4⟩:=hx;cases A with
  |none=>
   have hm:m.length=0:=by
    rcases Nat.eq_zero_or_pos m.length with h|h
    ·exact h
    ·obtain⟨_,_,e,_⟩:=h4 h;cases e
   have q2:(Builtin.append_ #[22,22] ty #[.slice (some ⟨g,0,none⟩) l.length cap,.slice none m.length c]).run Tryz.prog w= .ok (.slice (some ⟨g,0,none⟩) l.length cap) w:=by
    rw[hm];simp[Builtin.append_,run_underlying Tryz.underlying22,sizeOf,typeInfo,hi0,Builtin.lenOf,Builtin.firstCells,hnc,storeCells]
   rw[q2]at q;injection q with q _
   subst q;exact .inl rfl
  |some ad=>
   have hn:∀(j:Nat) (u:Value),(u8s m)[j]? =some u→w.cell? (ad.add j)=some u:=fun j u hu=>by
    unfold u8s at hu;rw[List.getElem?_map]at hu;have hj:j<m.length:=by
     rcases Nat.lt_or_ge j m.length with h|h
     ·exact h
     ·rw[List.getElem?_eq_none h]at hu;cases hu
    rw[List.getElem?_eq_getElem hj,Option.map_some,Option.some.injEq]at hu;subst hu;obtain⟨b,o,e,hc⟩:=h4 (by omega);injection e with e
    subst e;rw[B6];exact hc j hj
   have h1c:∀u∈u8s m,u.oneCell'=true:=fun u hu=>by
    unfold u8s at hu;obtain⟨_,_,rfl⟩:=List.mem_map.1 hu;rfl
   by_cases hroom:l.length+m.length≤cap
   ·obtain⟨w2,q2,r1,r2⟩:=run_append_own_spare (P:=Tryz.prog) w base 22 ty 5 i0 1 Tryz.underlying22 hi0 hz1 g l.length cap (u8s l) hown ad m.length c (u8s m) (by unfold u8s;simp) hn h1c hroom;rw[q2]at q;injection q with q _
    subst q;exact .inl rfl
   ·obtain⟨v2,w2,q2,r1,r2⟩:=run_append_arg_grows (P:=Tryz.prog) w 22 ty 5 i0 (.int .u8 0) 1 1 Tryz.underlying22 hi0 hz0 hz1 hz2 rfl (by decide) ⟨g,0,none⟩ l.length cap (u8s l) hown.1 (fun j u hu=>by
     have hj:j<l.length:=by
      rcases Nat.lt_or_ge j (u8s l).length with h|h
      ·have:=hown.1;omega
      ·rw[List.getElem?_eq_none h]at hu;cases hu
     rw[B6,Nat.zero_add,World.ownsRow.cellAt hown j (by omega),hu]) ad m.length c (u8s m) (by unfold u8s;simp) hn (by omega) (by unfold maxLen;omega) (by omega)
    rw[q2]at q;injection q with q _
    subst q;exact .inr fun g hg=>(AK r1 g hg).1
theorem Fd{w:World}{x:Value}{m:Tx}(hx:Bv w x m)(ty:TypeId):
 ∃v' w',(Builtin.append_ #[22,22] ty #[.slice none 0 0,x]).run Tryz.prog w= .ok v' w'∧AY w.heap.size w' v' m∧Le w w':=by
 have hl:m.length≤140737488355328:=by obtain⟨_,_,_,_,_,h⟩:=hx;exact h.1
 obtain⟨v',w',q,k1,k2⟩:=Cj (AY.nil w.heap.size w) hx (by simpa using hl) (NL _) ty;exact⟨v',w',q,k1,Below.grown' (AC w) k2 (NL _) (fun g hg=>by cases hg)⟩
def Ap(x y:Value):Prop:=∀g,x.ownBlock=some g→y.ownBlock≠some g
def Lt(w:World)(x:Value):Prop:=∀g,x.ownBlock=some g→g<w.heap.size
def Fr(w:World)(x:Value):Prop:=∀g,x.ownBlock=some g→w.heap.size≤g
theorem Lt.le{w w':World}{x:Value}(h:Lt w x)(k:Le w w'):Lt w' x:=fun g hg=>Nat.lt_of_lt_of_le (h g hg) k.size
theorem Lt.gr{w w':World}{x:Value}{r:Option Nat}(h:Lt w x)(k:w.grownBy w' r):Lt w' x:=fun g hg=>Nat.lt_of_lt_of_le (h g hg) k.size
theorem AY.frz{base:Nat}{w:World}{v:Value}{l:Tx}(h:AY base w v l):Lt w v:=h.lt
theorem Ap.fr{w:World}{x y:Value}(hx:Lt w x)(hy:Fr w y):Ap x y:=fun g hg he=>by have:=hx g hg;have:=hy g he;omega
theorem Ap.symm{x y:Value}(h:Ap x y):Ap y x:=fun g hg he=>h g he hg
theorem Ap.und(x:Value):Ap x undef:=fun g _ he=>by cases he
theorem Lt.und(w:World):Lt w undef:=fun g he=>by cases he
theorem Ap.step{w:World}{x v y:Value}(h:Ap x y)(hs:v.ownBlock=x.ownBlock∨Fr w v)(hy:Lt w y):Ap v y:=by
 rcases hs with hs|hs
 ·intro g hg;rw[hs]at hg;exact h g hg
 ·exact(Ap.fr hy hs).symm
theorem AY.fr{w w':World}{v:Value}{l:Tx}(h:AY w.heap.size w' v l):Fr w v:=fun g hg=>(AK h g hg).1
theorem AY.base{base base':Nat}{w:World}{v:Value}{l:Tx}(h:AY base w v l)(k:base'≤base):AY base' w v l:=World.ownsRow.mono h (base':=base') k
theorem AY.apart{base:Nat}{w w':World}{x v:Value}{l:Tx}(h:AY base w v l)(k:w.grownBy w' x.ownBlock)(ha:Ap x v):AY base w' v l:=by
 refine World.ownsRow.kept h k ?_;cases hv:v.ownBlock with
 |none=>exact .inl rfl
 |some g=>exact .inr (fun e=>ha g e.symm hv)
theorem AY.pre{base:Nat}{w w':World}{x v:Value}{l l0:Tx}(hx:AY base w x l0)(hv:AY base w v (l0++l))(k:w.grownBy w' v.ownBlock)(hv':AY base w' v (l0++l)):AY base w' x l0:=by
 by_cases hb:x.ownBlock=v.ownBlock
 ·rcases hx.2 with⟨rfl,h5⟩|⟨g,cap,cur,rfl,b1,b2,b3,b4,b5,b6⟩
  ·obtain rfl:l0=[]:=List.eq_nil_of_length_eq_zero h5;exact AY.nil _ _
  ·rcases hv.2 with⟨rfl,_⟩|⟨g',cap',cur',rfl,_,c2,_,_,c5,_⟩
   ·simp[Value.ownBlock]at hb
   ·simp only[Value.ownBlock,Option.some.injEq]at hb;subst hb;rw[b2]at c2;injection c2 with c2
    injection c2 with c2 _ _
    subst c2;rcases hv'.2 with⟨e,_⟩|⟨g2,cap2,cur2,e,_,d2,_,_,d5,d6⟩
    ·cases e
    ·injection e with e1 e2 e3
     injection e1 with e1
     injection e1 with e1 _ _
     subst e1;subst e3;refine⟨hx.1,.inr ⟨g,cap,cur2,rfl,b1,d2,b3,b4,by omega,?_⟩⟩;have:=congrArg (List.take (l0.length*1)) d6;rw[List.take_take,Nat.min_eq_left (by rw[LA];omega)]at this;rw[this];unfold u8s;rw[List.map_append];have e2:(l0.map fun c=>Value.int .u8 (c.toNat:Int)).length=l0.length*1:=by simp
     rw[←e2];exact List.take_left
 ·refine World.ownsRow.kept hx k ?_;cases hx0:x.ownBlock with
  |none=>exact .inl rfl
  |some g=>exact .inr (fun e=>hb (by rw[hx0,e]))
section
variable {P:Program} {Q:Exit→Act→World→Prop} {n:Nat} {S:Nat→Value→World→Prop} {G:Act→World→Prop} {i:Nat} {o:Oper} {a0:Act}
theorem G4.det(h:∀(a:Act) (w:World),G a w→(∀t,Operand.tmp t∈o.op.operands→S t (a.eval (.tmp t)) w)→∃v,(execOp a.eval o).run P w= .ok (.value v) w∧SAt S G4.TT i o.dst v w)
 (hp:∀a w v,G a w→G (a.put o.dst v) w):G4.GrowStep P n a0 S G Q i o:=by
 intro a w hz hu hg hop;obtain⟨v,hr,hv⟩:=h a w hg hop;unfold Oper.wp;rw[hr];exact⟨v,rfl,hp _ _ _ hg,fun _ _ hs=>hs,hv⟩
theorem G4.run(h:∀(a:Act) (w:World),a.tmps.size=n→(∀t,o.dst=some t→a.eval (.tmp t)=a0.eval (.tmp t))→G a w→(∀t,Operand.tmp t∈o.op.operands→S t (a.eval (.tmp t)) w)→∃v w',(execOp a.eval o).run P w= .ok (.value v) w'∧G (a.put o.dst v) w'∧
 (∀t,o.dst≠some t→S t (a.eval (.tmp t)) w→S t (a.eval (.tmp t)) w')∧SAt S G4.TT i o.dst v w'):G4.GrowStep P n a0 S G Q i o:=by
 intro a w hz hu hg hop;obtain⟨v,w',hr,h1,h2,h3⟩:=h a w hz hu hg hop;unfold Oper.wp;rw[hr];exact⟨v,rfl,h1,h2,h3⟩
theorem G4.call(h:∀(a:Act) (w:World),a.tmps.size=n→(∀t,o.dst=some t→a.eval (.tmp t)=a0.eval (.tmp t))→G a w→(∀t,Operand.tmp t∈o.op.operands→S t (a.eval (.tmp t)) w)→∃f args,(execOp a.eval o).run P w= .ok (.enter f args) w∧
 Calls P f args w fun e w'=>∃v,e= .returned v∧G (a.put o.dst v) w'∧(∀t,o.dst≠some t→S t (a.eval (.tmp t)) w→S t (a.eval (.tmp t)) w')∧SAt S G4.TT i o.dst v w'):G4.GrowStep P n a0 S G Q i o:=by
 intro a w hz hu hg hop;obtain⟨f,args,hr,hc⟩:=h a w hz hu hg hop;unfold Oper.wp;rw[hr,Oper.upon_enter];refine hc.mono ?_;rintro e w' ⟨v,rfl,h1,h2,h3⟩;exact⟨v,rfl,h1,h2,h3⟩
theorem G4.append(s x:Operand)(t:TypeId)(hop:o.op=Op.call {callee:=Callee.builtin Builtin.append,args:= #[s,x],argTypes:= #[t,t]})
 (h:∀(a:Act) (w:World),a.tmps.size=n→(∀t,o.dst=some t→a.eval (.tmp t)=a0.eval (.tmp t))→G a w→(∀t,Operand.tmp t∈o.op.operands→S t (a.eval (.tmp t)) w)→∃v w',(Builtin.append_ #[t,t] o.type #[a.eval s,a.eval x]).run P w= .ok v w'∧G (a.put o.dst v) w'∧
  (∀t,o.dst≠some t→S t (a.eval (.tmp t)) w→S t (a.eval (.tmp t)) w')∧SAt S G4.TT i o.dst v w'):G4.GrowStep P n a0 S G Q i o:=by
 intro a w hz hu hg hop';obtain⟨v,w',hr,h1,h2,h3⟩:=h a w hz hu hg hop';unfold Oper.wp;simp[execOp,hop,resolve,invoke,builtin,hr,Result.andThen];exact⟨v,rfl,h1,h2,h3⟩
end
structure A3(W0:World)(x y z t:Value)(w:World):Prop where
 le:Le W0 w
 lx:Lt w x
 ly:Lt w y
 lz:Lt w z
 lt:Lt w t
 xz:Ap x z
 xt:Ap x t
 yt:Ap y t
theorem A3.to{W0 w w':World}{x y z t:Value}(h:A3 W0 x y z t w)(k:Le w w'):A3 W0 x y z t w':=⟨h.le.trans k,h.lx.le k,h.ly.le k,h.lz.le k,h.lt.le k,h.xz,h.xt,h.yt⟩
theorem A3.setx{W0 w w':World}{x y z t v:Value}(h:A3 W0 x y z t w)(k:Le w w')(hf:Fr w v)(hl:Lt w' v):A3 W0 v y z t w':=⟨h.le.trans k,hl,h.ly.le k,h.lz.le k,h.lt.le k,(Ap.fr h.lz hf).symm,(Ap.fr h.lt hf).symm,h.yt⟩
theorem A3.setz{W0 w w':World}{x y z t v:Value}(h:A3 W0 x y z t w)(k:Le w w')(hf:Fr w v)(hl:Lt w' v):A3 W0 x y v t w':=⟨h.le.trans k,h.lx.le k,h.ly.le k,hl,h.lt.le k,Ap.fr h.lx hf,h.xt,h.yt⟩
theorem A3.sett{W0 w w':World}{x y z t v:Value}(h:A3 W0 x y z t w)(k:Le w w')(hf:Fr w v)(hl:Lt w' v):A3 W0 x y z v w':=⟨h.le.trans k,h.lx.le k,h.ly.le k,h.lz.le k,hl,h.xz,Ap.fr h.lx hf,Ap.fr h.ly hf⟩
theorem A3.sety{W0 w w':World}{x y z t v:Value}(h:A3 W0 x y z t w)(kl:Le W0 w')(k:w.grownBy w' x.ownBlock)(hs:v.ownBlock=x.ownBlock∨Fr w v)(hl:Lt w' v):A3 W0 x v z t w':=
 ⟨kl,h.lx.gr k,hl,h.lz.gr k,h.lt.gr k,h.xz,h.xt,Ap.step h.xt hs h.lt⟩
def A3G(W0:World)(ix iy iz it:Nat)(a:Act)(w:World):Prop:=A3 W0 (a.eval (.tmp ix)) (a.eval (.tmp iy)) (a.eval (.tmp iz)) (a.eval (.tmp it)) w
theorem A3G.put{W0:World}{ix iy iz it d:Nat}{a:Act}{w:World}{v:Value}(h:A3G W0 ix iy iz it a w)(h1:d≠ix)(h2:d≠iy)(h3:d≠iz)(h4:d≠it):A3G W0 ix iy iz it (a.put (some d) v) w:=by
 unfold A3G at h⊢;rw[AE v (by simpa using h1),AE v (by simpa using h2),AE v (by simpa using h3),AE v (by simpa using h4)];exact h
theorem Nf{P:Program}(w:World)(t e:TypeId)(C:Array Value)(fz:Nat×Nat)(g n c:Nat)(h:w.heap[g]? =some (.cells C e fz))(ht:P.underlying t=some (.slice e))(he:P.underlying e=some (.int .u8)):
 (convert t t (.slice (some ⟨g,0,none⟩) n c)).run P w= .ok (.slice (some ⟨g,0,none⟩) n c) (w.freeze ⟨g,C.size,none⟩ 1):=by
 have hsh:w.shape? g=some (e,C.size):=by
  unfold World.shape?;rw[h]
 simp[convert,run_underlying ht,run_underlying he,markStringish,hsh]
theorem Gj(w:World)(g k n j:Nat)(h:j≠g):(w.freeze ⟨g,k,none⟩ n).heap[j]? =w.heap[j]? :=by
 unfold World.freeze;split
 ·rfl
 ·simp[Array.getElem?_modify,Ne.symm h]
theorem NW(w:World)(a:Addr)(n:Nat):(w.freeze a n).heap.size=w.heap.size:=by
 unfold World.freeze;split<;>simp
theorem RK(w:World)(g k n:Nat):w.grownBy (w.freeze ⟨g,k,none⟩ n) (some g):=by
 refine⟨?_,?_,?_,by rw[NW];exact NL _,fun j _ hj=>Gj w g k n j (fun e=>hj (by rw[e]))⟩<;>
 ·unfold World.freeze;split<;>rfl
theorem Jg{w:World}{g:Nat}{C:Array Value}{e:TypeId}{fz:Nat×Nat}(h:w.heap[g]? =some (.cells C e fz))(k n:Nat):∃fz',(w.freeze ⟨g,k,none⟩ n).heap[g]? =some (.cells C e fz'):=by
 unfold World.freeze;split
 ·exact⟨fz,h⟩
 ·obtain⟨lo,hi⟩:=fz;simp only[Array.getElem?_modify,if_true,h,Option.map_some];exact⟨_,rfl⟩
theorem Bv.cells{w w':World}{v:Value}{l:Tx}(h:Bv w v l)(k:∀b,w'.cell? b=w.cell? b):Bv w' v l:=by
 obtain⟨A,c,e,h1,h2,h3,h4⟩:=h;refine⟨A,c,e,h1,h2,h3,fun hp=>?_⟩;obtain⟨b,o,e,hc⟩:=h4 hp;exact⟨b,o,e,fun j hj=>(k _).trans (hc j hj)⟩
theorem Bv.apart{w w':World}{x v:Value}{l:Tx}(h:Bv w v l)(k:w.grownBy w' x.ownBlock)(ha:Ap x v):Bv w' v l:=
 (BvN.grown (g:=x.ownBlock) ⟨h,fun j hj e=>ha j e.symm hj⟩ k).1
theorem Bv.frz{w:World}{v:Value}{l:Tx}(h:Bv w v l)(hl:0<l.length):Lt w v:=by
 obtain⟨A,c,rfl,h1,h2,h3,h4⟩:=h;obtain⟨b,o,rfl,hc⟩:=h4 hl;intro g hg;simp only[Value.ownBlock,Option.some.injEq]at hg;subst hg;exact Az (hc 0 hl)
theorem P3{w:World}{g:Nat}(l:Tx){fz:Nat×Nat}(hl:l.length≤1099511627776)(h:w.heap[g]? =some (.cells (l.map fun c=>Value.int .u8 (c.toNat:Int)).toArray 5 fz)):Bv w (.slice (some ⟨g,0,none⟩) l.length l.length) l:=by
 refine⟨_,_,rfl,NL _,by omega,by omega,fun _=>⟨g,0,rfl,fun j hj=>?_⟩⟩;rw[Nat.zero_add,AB h j];simp[List.getElem?_eq_getElem hj]
structure A4(W0:World)(x y z t q p s:Value)(w:World):Prop extends A3 W0 x y z t w where
 yz:Ap y z
 qu:y=undef→q=undef
 pq:q=undef→p= .slice none 0 0
 st:s=undef∨s=t
def A4G(W0:World)(ix iy iz it iq ip is:Nat)(a:Act)(w:World):Prop:=A4 W0 (a.eval (.tmp ix)) (a.eval (.tmp iy)) (a.eval (.tmp iz)) (a.eval (.tmp it)) (a.eval (.tmp iq)) (a.eval (.tmp ip)) (a.eval (.tmp is)) w
theorem A4G.put{W0:World}{ix iy iz it iq ip is d:Nat}{a:Act}{w:World}{v:Value}(h:A4G W0 ix iy iz it iq ip is a w)(h1:d≠ix)(h2:d≠iy)(h3:d≠iz)(h4:d≠it)(h5:d≠iq)(h6:d≠ip)(h7:d≠is):A4G W0 ix iy iz it iq ip is (a.put (some d) v) w:=by
 unfold A4G at h⊢;rw[AE v (by simpa using h1),AE v (by simpa using h2),AE v (by simpa using h3),AE v (by simpa using h4),AE v (by simpa using h5),AE v (by simpa using h6),AE v (by simpa using h7)];exact h
theorem Bv.ne_undef{w:World}{v:Value}{l:Tx}(h:Bv w v l):v≠undef:=by
 obtain⟨A,c,rfl,_⟩:=h;intro e;cases e
theorem AY.ne_undef{base:Nat}{w:World}{v:Value}{l:Tx}(h:AY base w v l):v≠undef:=by
 obtain⟨n,A,c,rfl⟩:=h.shape;intro e;cases e
def Rm(base:Nat)(w:World)(v:Value):Prop:=∃g fz,v= .slice (some ⟨g,0,none⟩) 4 4∧base≤g∧w.heap[g]? =some (.cells #[.int .u8 115,.int .u8 105,.int .u8 112,.int .u8 115] 5 fz)
theorem Rm.le{base:Nat}{w w':World}{v:Value}(h:Rm base w v)(k:Le w w'):Rm base w' v:=by
 obtain⟨g,fz,e,h1,h2⟩:=h;exact⟨g,fz,e,h1,k.heap h2⟩
theorem Rm.apart{base:Nat}{w w':World}{x v:Value}(h:Rm base w v)(k:w.grownBy w' x.ownBlock)(ha:Ap x v):Rm base w' v:=by
 obtain⟨g,fz,rfl,h1,h2⟩:=h;refine⟨g,fz,rfl,h1,(k.block g (AQ h2) ?_).trans h2⟩;intro e;exact ha g e.symm rfl
theorem Rm.bv{base:Nat}{w:World}{v:Value}(h:Rm base w v):Bv w v DT:=by
 obtain⟨g,fz,rfl,h1,h2⟩:=h;exact P3 DT (by decide) h2
theorem Rm.frz{base:Nat}{w:World}{v:Value}{g:Nat}{C:Array Value}{e:TypeId}{fz:Nat×Nat}(h:Rm base w v)(hg:w.heap[g]? =some (.cells C e fz))(k n:Nat):Rm base (w.freeze ⟨g,k,none⟩ n) v:=by
 obtain⟨g',fz',rfl,h1,h2⟩:=h;by_cases hk:g'=g
 ·subst hk;obtain⟨f2,h3⟩:=Jg h2 k n;exact⟨g',f2,rfl,h1,h3⟩
 ·exact⟨g',fz',rfl,h1,(Gj w g k n g' hk).trans h2⟩
theorem Rm.st{base:Nat}{w w':World}{x t s:Value}(h:Rm base w s)(hs:s=undef∨s=t)(k:w.grownBy w' x.ownBlock)(ha:Ap x t):Rm base w' s:=by
 rcases hs with rfl|rfl
 ·obtain⟨g,fz,e,_⟩:=h;cases e
 ·exact h.apart k ha
theorem Am:Gs HV.nil:=(Hz.nil (fun _=>True) default).fit
theorem BL{W:World}{b:Nat}{a:Act}{x:HV}{kd:Int}{fn:Func}{p q:Tmp}(hf:fn.results= #[.cell p 37,.tmp q])(h:W.heap[b]? =some (.cells x.row 37 (0,0)))
 (h2:a.tmps.getD p undef= .pointer (some ⟨b,0,none⟩))(h3:a.tmps.getD q undef= .int .i64 kd):(results fn a.tmps).run Tryz.prog W= .ok (.tuple #[x.val,.int .i64 kd]) W:=by
 have h2':a.tmps[p]?.getD undef= .pointer (some ⟨b,0,none⟩):=by simpa using h2
 have h3':a.tmps[q]?.getD undef= .int .i64 kd:=by simpa using h3
 have hl:=run_loadVar_row (P:=Tryz.prog) W b 37 37 x.row (0,0) _ h Tryz.underlying37 rfl AS;simp[results,hf,h2',h3',asAddr,hl,Sem.run_bind,Result.andThen,HV.val]
structure PBH(w W:World):Prop where
 le:Le w W
 row:W.heap[w.heap.size]? =some (.cells HV.nil.row 37 (0,0))
theorem B5:((Tryz.prog).info? 22).map (·.size)=some 1:=by kernel_rfl
theorem IZ:((Tryz.prog).info? 3).map (·.size)=some 1:=by kernel_rfl
theorem D0:((Tryz.prog).info? 33).map (·.size)=some 1:=by kernel_rfl
def Md(w:World)(K:PH→Prop)(e:Ending)(w':World):Prop:=∃(x:HV) (kd:Int),e= .returned (.tuple #[x.val,.int .i64 kd])∧Le w w'∧Gs x∧(kd=0→∃p,Hz (w.heap.size≤·) w' x p∧K p)
def viL(W1 w:World)(v:Value):Prop:=∃g fz,v= .slice (some ⟨g,0,none⟩) 3 3∧W1.heap.size≤g∧w.heap[g]? =some (.cells #[.int .u8 86,.int .u8 105,.int .u8 97] 5 fz)
theorem Nt{W1 w w':World}{v:Value}(h:viL W1 w v)(k:Le w w'):viL W1 w' v:=by obtain⟨g,fz,a,b,c⟩:=h;exact⟨g,fz,a,b,k.heap c⟩
theorem OT{W1 w:World}{v:Value}(h:viL W1 w v)(g k n:Nat):viL W1 (w.freeze ⟨g,k,none⟩ n) v:=by
 obtain⟨g1,fz,a,b,c⟩:=h;by_cases hg:g1=g
 ·subst hg;obtain⟨fz',c'⟩:=Jg c k n;exact⟨g1,fz',a,b,c'⟩
 ·exact⟨g1,fz,a,b,by rw[Gj w g k n g1 hg];exact c⟩
def viR(nv x0 x1 x2:Value):Array Value:=HV.row ⟨9,nv,.slice none 0 0,.slice none 0 0,UV.nil,.slice none 0 0,0,x0,x1,x2,.slice none 0 0,0⟩
def viS(W1:World)(gL oL cL:Nat)(x0 x1 x2:Value):Nat→Value→World→Prop
 |5,v,_=>v=(.slice (some ⟨gL,oL,none⟩) 3 cL)
 |7,v,w_=>∃g,v= .pointer (some ⟨g,0,none⟩)∧W1.heap.size≤g∧w_.heap[g]? =some (.cells HV.nil.row 37 (0,0))
 |49,v,w_=>viL W1 w_ v
 |50,v,w_=>viL W1 w_ v
 |51,v,_=>v=(.slice (some ⟨gL,oL,none⟩) 3 cL)
 |52,v,_=>v= .pointer (some ⟨gL,oL,none⟩)
 |53,v,_=>v=x0
 |54,v,_=>v=(.slice (some ⟨gL,oL,none⟩) 3 cL)
 |55,v,_=>v= .pointer (some ⟨gL,oL+1,none⟩)
 |56,v,_=>v=x1
 |57,v,_=>v=(.slice (some ⟨gL,oL,none⟩) 3 cL)
 |58,v,_=>v= .pointer (some ⟨gL,oL+2,none⟩)
 |59,v,_=>v=x2
 |60,v,w_=>∃g,v= .agg (viR (.slice (some ⟨g,0,none⟩) 3 3) x0 x1 x2)∧viL W1 w_ (.slice (some ⟨g,0,none⟩) 3 3)
 |_,_,_=>True
theorem Ns(W1:World)(gL oL cL:Nat)(x0 x1 x2:Value)(t:Nat)(v:Value)(w1 w2:World)(k:Le w1 w2)(h:viS W1 gL oL cL x0 x1 x2 t v w1):viS W1 gL oL cL x0 x1 x2 t v w2:=by
 unfold viS at h⊢;split at h<;>first|exact h|exact(by obtain⟨g,e,b,c⟩:=h;exact⟨g,e,b,k.heap c⟩)|exact(by obtain⟨g,e,b⟩:=h;exact⟨g,e,Nt b k⟩)|exact Nt h k
theorem QY(v:Value)(l:Tx)(w:World)(hv:Bv w v l)(hl:l.length≤1099511627000):Calls Tryz.prog 87 #[v] w (Md w fun p=>p.t=9∧PHk p):=by
 have HVX:=Hi hv;obtain⟨A,cc,rfl,h1,h2,h4⟩:=hv;have h3:=h4.1;clear h4;go_enter Tryz.func87,Tryz.ntmps87;go_upto_region 1 with fail
 have HB:Hid (PBH w (w.alloc (Obj.cells HV.nil.row 37))):=Hi ⟨(AC w).alloc _,heap_alloc_new w _⟩;change Code.wp _ _ _ _ (w.alloc (Obj.cells HV.nil.row 37));generalize w.alloc (Obj.cells HV.nil.row 37)=W0 at HB⊢;have CI:=Hi (Br _ l 32 W0 (HVX.out.le HB.out.1));go_wp2_with fail
 refine CI.out.mono ?_;rintro e w' ⟨rfl,rfl⟩;clear CI;rcases Bo l 32 with⟨k,e1,hk,e2⟩|⟨e1,e2⟩;case inr=>
  rw[e1];clear e1 e2;go_wp2_with (first|refine AH rfl 37 rfl (some 15) rfl HV.nil.row DH ?_ |refine AD rfl 37 (.tmp 2) (.tmp 15) rfl w.heap.size HV.nil.row rfl rfl 37 HV.nil.row HB.out.2 AS rfl Am.one ?_)
  intro WZ hz hkz;have HZ:=Hi hz;have HLZ:Hid (Le w WZ):=Hi (Below.trans HB.out.1 (hkz.below (NL _) HB.out.1.size));clear hz hkz;go_wp2;exact bodyPost_ret (BL (x:=HV.nil) rfl HZ.out rfl rfl) rfl ⟨HV.nil,-2,rfl,HLZ.out,Am,fun h=>absurd h (by decide)⟩
 rw[e1];clear e1 e2;have HTK:Hid (Bv w (.slice A k cc) (l.take k)):=Hi (CD HVX.out (k:=k) (by omega) (m:=cc) (by omega) (NL _));go_wp2_with fail
 refine(IJ _ (l.take k) 47 w W0 HB.out.1 HTK.out (by rw[List.length_take];omega)).mono ?_;rintro e W1 ⟨vL,rfl,hsl,hle1⟩;have HB1:Hid (PBH w W1):=Hi ⟨Le.trans HB.out.1 hle1,hle1.heap HB.out.2⟩;obtain⟨L,hL⟩:∃L,pcs 47 (l.take k)=L:=⟨_,rfl⟩;rw[hL]at hsl;obtain⟨AL,cL,rfl⟩:∃A c,vL= .slice A L.length c:=by obtain⟨A,c,e,_⟩:=hsl;exact⟨A,c,e⟩
 have HSL:=Hi hsl;obtain⟨v2,hb2,q1,q2⟩:=Bb HVX.out (k:=k+1) (z:=(k:Int)+1) (by omega) (by omega);obtain⟨A2,c2,rfl⟩:=hb2.form;have HB2:=Hi hb2;have HDL:Hid ((l.drop (k+1)).length≤1099511627000):=Hi (by rw[List.length_drop];omega);generalize hrest:l.drop (k+1)=rest at HB2 HDL q1 q2;clear hsl hle1 hL hb2 HB HTK hrest;by_cases hn:L.length=3;case neg=>
  have hnb:((L.length:Int) != 3)=true:=by simp;omega
  go_wp2_with (first|refine AH rfl 37 rfl (some 48) rfl HV.nil.row DH ?_ |refine AD rfl 37 (.tmp 2) (.tmp 48) rfl w.heap.size HV.nil.row rfl rfl 37 HV.nil.row HB1.out.2 AS rfl Am.one ?_)
  intro WZ hz hkz;have HZ:=Hi hz;have HLZ:Hid (Le w WZ):=Hi (Below.trans HB1.out.1 (hkz.below (NL _) HB1.out.1.size));clear hz hkz;go_wp2;exact bodyPost_ret (BL (x:=HV.nil) rfl HZ.out rfl rfl) rfl ⟨HV.nil,-2,rfl,HLZ.out,Am,fun h=>absurd h (by decide)⟩
 have hnb:((L.length:Int) != 3)=false:=by simp[hn]
 obtain⟨gL,oL,rfl,x0,hx0,hy0⟩:=HSL.out.at_ (k:=0) (by omega);obtain⟨_,_,e1,x1,hx1,hy1⟩:=HSL.out.at_ (k:=1) (by omega);injection e1 with e1;injection e1 with e1 e2 _;subst e1 e2
 obtain⟨_,_,e1,x2,hx2,hy2⟩:=HSL.out.at_ (k:=2) (by omega);injection e1 with e1;injection e1 with e1 e2 _;subst e1 e2
 obtain⟨l0,l1,l2,rfl⟩:∃a b c,L=[a,b,c]:=by
  match L,hn with
  |[a,b,c],_=>exact⟨a,b,c,rfl⟩
 have hy0:Hid (Bv w x0 l0):=hy0;have hy1:Hid (Bv w x1 l1):=hy1;have hy2:Hid (Bv w x2 l2):=hy2;have HX0:=Hi hx0;have HX1:=Hi hx1;have HX2:=Hi hx2;obtain⟨A0,c0,hf0⟩:=hy0.out.form;obtain⟨A1,c1,hf1⟩:=hy1.out.form;obtain⟨A3,c3,hf2⟩:=hy2.out.form;have HF0:=Hi hf0;have HF1:=Hi hf1;have HF2:=Hi hf2;obtain⟨b0,hb0⟩:∃b,DU l0=b:=⟨_,rfl⟩;obtain⟨b1,hb1⟩:∃b,DU l1=b:=⟨_,rfl⟩
 obtain⟨b2,hb2⟩:∃b,DU l2=b:=⟨_,rfl⟩;have C0:=Hi (AW (Cr x0 l0 W1 (hy0.out.le HB1.out.1)) hb0);have C1:=Hi (AW (Cr x1 l1 W1 (hy1.out.le HB1.out.1)) hb1);have C2:=Hi (AW (Cr x2 l2 W1 (hy2.out.le HB1.out.1)) hb2);clear hb0 hb1 hb2 hf0 hf1 hf2;have hx0:W1.cell? ⟨gL,oL,none⟩=some x0:=hx0;go_wp2_with fail
 refine C0.out.mono ?_;rintro e w' ⟨rfl,rfl⟩;cases b0;case false=>
  go_wp2_with (first|refine AH rfl 37 rfl (some 48) rfl HV.nil.row DH ?_ |refine AD rfl 37 (.tmp 2) (.tmp 48) rfl w.heap.size HV.nil.row rfl rfl 37 HV.nil.row HB1.out.2 AS rfl Am.one ?_)
  intro WZ hz hkz;have HZ:=Hi hz;have HLZ:Hid (Le w WZ):=Hi (Below.trans HB1.out.1 (hkz.below (NL _) HB1.out.1.size));clear hz hkz;go_wp2;exact bodyPost_ret (BL (x:=HV.nil) rfl HZ.out rfl rfl) rfl ⟨HV.nil,-2,rfl,HLZ.out,Am,fun h=>absurd h (by decide)⟩
 go_wp2_with fail
 refine C1.out.mono ?_;rintro e w' ⟨rfl,rfl⟩;cases b1;case false=>
  go_wp2_with (first|refine AH rfl 37 rfl (some 48) rfl HV.nil.row DH ?_ |refine AD rfl 37 (.tmp 2) (.tmp 48) rfl w.heap.size HV.nil.row rfl rfl 37 HV.nil.row HB1.out.2 AS rfl Am.one ?_)
  intro WZ hz hkz;have HZ:=Hi hz;have HLZ:Hid (Le w WZ):=Hi (Below.trans HB1.out.1 (hkz.below (NL _) HB1.out.1.size));clear hz hkz;go_wp2;exact bodyPost_ret (BL (x:=HV.nil) rfl HZ.out rfl rfl) rfl ⟨HV.nil,-2,rfl,HLZ.out,Am,fun h=>absurd h (by decide)⟩
 go_wp2_with fail
 refine C2.out.mono ?_;rintro e w' ⟨rfl,rfl⟩;cases b2;case false=>
  go_wp2_with (first|refine AH rfl 37 rfl (some 48) rfl HV.nil.row DH ?_ |refine AD rfl 37 (.tmp 2) (.tmp 48) rfl w.heap.size HV.nil.row rfl rfl 37 HV.nil.row HB1.out.2 AS rfl Am.one ?_)
  intro WZ hz hkz;have HZ:=Hi hz;have HLZ:Hid (Le w WZ):=Hi (Below.trans HB1.out.1 (hkz.below (NL _) HB1.out.1.size));clear hz hkz;go_wp2;exact bodyPost_ret (BL (x:=HV.nil) rfl HZ.out rfl rfl) rfl ⟨HV.nil,-2,rfl,HLZ.out,Am,fun h=>absurd h (by decide)⟩
 go_upto_region 8 with fail
 clear C0 C1 C2 hx0 hx1 hx2;have hm_vi:(Tryz.prog).follows .mixedOrders=true:=by kernel_rfl
 refine G3.wp_region_grow_tail (viS W1 gL oL cL x0 x1 x2) ((Le W1)) 94 13 [49,50,51,52,53,54,55,56,57,58,59,60,7] hm_vi (by kernel_rfl) rfl rfl ?hG_vi ?hold_vi ?hs_vi ?hend_vi;case hG_vi=>exact(AC W1).drew
 case hold_vi=>
  intro t ht;simp only[List.mem_cons,List.mem_nil_iff,or_false,not_or]at ht;unfold viS;split<;>first|exact True.intro|(exfalso;simp at ht;done)|rfl
 case hs_vi=>
  simp only[List.take_succ_cons,List.take_zero];refine⟨?_,?_,?_,?_,?_,?_,?_,?_,?_,?_,?_,?_,?_,trivial⟩
  ·refine GrowStep.le ?_ ?_ ?_ ?_
   ·exact fun t v w1 w2 kl h=>Ns W1 gL oL cL x0 x1 x2 t v w1 w2 kl h
   ·exact fun _ _ _ _ h=>h
   ·exact fun w1 w2 k h=>Le.trans h k
   ·intro a W hg hop;refine⟨.slice (some ⟨W.heap.size,0,none⟩) 3 3,W.alloc (Obj.cells #[.int .u8 86,.int .u8 105,.int .u8 97] 5),?_,(AC W).alloc _,?_⟩
    ·simp only[execOp];go_simp
    ·exact⟨W.heap.size,(0,0),rfl,hg.size,heap_alloc_new W _⟩
  ·refine GrowStep.run ?_;intro a W hg hop;have h49:viL W1 W (a.eval (.tmp 49)):=(hq hop 49);obtain⟨g,fz,e9,hgb,hgh⟩:=h49;have e9':=tg e9;have hcv:=Nf (P:=Tryz.prog) W 22 5 #[.int .u8 86,.int .u8 105,.int .u8 97] fz g 3 3 hgh Tryz.underlying22 Tryz.underlying5;have hfr:∀v,viL W1 W v→viL W1 (W.freeze ⟨g,3,none⟩ 1) v:=fun v h=>OT h g 3 1;obtain⟨fz',hs'⟩:=Jg hgh 3 1
   refine⟨.slice (some ⟨g,0,none⟩) 3 3,W.freeze ⟨g,3,none⟩ 1,?_,Below.grown' hg (RK W g 3 1) (NL _) (fun k hk=>by injection hk with hk;omega),fun t u ht h=>?_,fun _ _ h=>h,⟨g,fz',rfl,hgb,hs'⟩⟩
   ·simp only[execOp,e9,Sem.run_bind];rw[show(#[Value.int .u8 86,.int .u8 105,.int .u8 97]:Array Value).size=3 from rfl]at hcv;rw[hcv];rfl
   ·unfold viS at h⊢;split at h<;>first|exact h|exact hfr _ h|skip
    ·obtain⟨g7,e,b,c⟩:=h;refine⟨g7,e,b,?_⟩;by_cases hgg:g7=g
     ·subst hgg;rw[hgh]at c;injection c with c;injection c with c _ _;exact absurd (congrArg Array.size c) (by decide)
     ·rw[Gj W g 3 1 g7 hgg];exact c
    ·obtain⟨g6,e,b⟩:=h;exact⟨g6,e,hfr _ b⟩
  ·refine AA fun a W hg hop=>?_;have h5:_=_:=hq hop 5;have h5':=tg h5;refine⟨_,?_,rfl⟩;simp only[execOp,h5];go_simp
  ·refine AA fun a W hg hop=>?_;have h51:_=_:=hq hop 51;have h51':=tg h51;refine⟨_,?_,rfl⟩;simp only[execOp,h51];go_simp
  ·refine AA fun a W hg hop=>?_;have h52:_=_:=hq hop 52;have h52':=tg h52;have hc:W.cell? ⟨gL,oL,none⟩=some x0:=hg.cell HX0.out;refine⟨_,?_,rfl⟩;simp only[execOp,h52];go_simp
  ·refine AA fun a W hg hop=>?_;have h5:_=_:=hq hop 5;have h5':=tg h5;refine⟨_,?_,rfl⟩;simp only[execOp,h5];go_simp
  ·refine AA fun a W hg hop=>?_;have h54:_=_:=hq hop 54;have h54':=tg h54;refine⟨_,?_,rfl⟩;simp only[execOp,h54];go_simp
  ·refine AA fun a W hg hop=>?_;have h55:_=_:=hq hop 55;have h55':=tg h55;have hc:W.cell? ⟨gL,oL+1,none⟩=some x1:=hg.cell HX1.out;refine⟨_,?_,rfl⟩;simp only[execOp,h55];go_simp
  ·refine AA fun a W hg hop=>?_;have h5:_=_:=hq hop 5;have h5':=tg h5;refine⟨_,?_,rfl⟩;simp only[execOp,h5];go_simp
  ·refine AA fun a W hg hop=>?_;have h57:_=_:=hq hop 57;have h57':=tg h57;refine⟨_,?_,rfl⟩;simp only[execOp,h57];go_simp
  ·refine AA fun a W hg hop=>?_;have h58:_=_:=hq hop 58;have h58':=tg h58;have hc:W.cell? ⟨gL,oL+2,none⟩=some x2:=hg.cell HX2.out;refine⟨_,?_,rfl⟩;simp only[execOp,h58];go_simp
  ·refine AA fun a W hg hop=>?_;have h50:viL W1 W (a.eval (.tmp 50)):=(hq hop 50);have h53:_=_:=hq hop 53;have h53':=tg h53;have h56:_=_:=hq hop 56;have h56':=tg h56;have h59:_=_:=hq hop 59;have h59':=tg h59;refine⟨.agg (viR (a.eval (.tmp 50)) x0 x1 x2),?_,(by obtain⟨g,fz,e9,b1,b2⟩:=h50;rw[e9];exact⟨g,rfl,g,fz,rfl,b1,b2⟩)⟩;obtain⟨g,fz,e9,b1,b2⟩:=h50;rw[e9]
   refine Dl W 37 [(0,.const (.int .i64 9)),(1,.tmp 50),(7,.tmp 53),(8,.tmp 56),(9,.tmp 59)] rfl _ ?_;show(Tryz.prog).built 37 [(0,.int .i64 9),(1,a.eval (.tmp 50)),(7,a.eval (.tmp 53)),(8,a.eval (.tmp 56)),(9,a.eval (.tmp 59))]=_;rw[e9,h53,h56,h59,HF0.out,HF1.out,HF2.out];kernel_rfl
  ·refine GrowStep.le ?_ ?_ ?_ ?_
   ·exact fun t v w1 w2 k h=>Ns W1 gL oL cL x0 x1 x2 t v w1 w2 k h
   ·exact fun _ _ _ _ h=>h
   ·exact fun w1 w2 k h=>Le.trans h k
   ·intro a W hg hop;refine⟨.pointer (some ⟨W.heap.size,0,none⟩),W.alloc (Obj.cells HV.nil.row 37),?_,(AC W).alloc _,W.heap.size,rfl,hg.size,heap_alloc_new W _⟩;simp only[execOp];go_simp;rfl
 case hend_vi=>
  intro s_ wz hg hS;obtain⟨g,e7,hgb,hgh⟩:∃g,s_ 7= .pointer (some ⟨g,0,none⟩)∧W1.heap.size≤g∧wz.heap[g]? =some (.cells HV.nil.row 37 (0,0)):=hS 7 (by decide);obtain⟨gn,e60,gn',fzn,egn,hgn1,hgn2⟩:∃g,s_ 60= .agg (viR (.slice (some ⟨g,0,none⟩) 3 3) x0 x1 x2)∧viL W1 wz (.slice (some ⟨g,0,none⟩) 3 3):=hS 60 (by decide);injection egn with egn
  injection egn with egn
  injection egn with egn
  subst egn;have hnv:Bv wz (.slice (some ⟨gn,0,none⟩) 3 3) [86,105,97]:=P3 [86,105,97] (by decide) hgn2;clear hgn2;obtain⟨An,eAn⟩:∃A,A=some (⟨gn,0,none⟩:Addr):=⟨_,rfl⟩;rw[←eAn]at e60 hnv;clear eAn;have HLZ1:=Hi (show Le W1 wz from hg);have HGB:=Hi hgb;have HGH:=Hi hgh;have HNV:=Hi hnv;clear hS hg hgb hgh hnv
  simp only[Aj,Act.put,List.setIfInBounds_toArray,List.set_cons_zero,List.set_cons_succ,List.drop_succ_cons,List.drop_zero];rw[e7,e60];clear e7 e60;have hone:(viR (.slice An 3 3) x0 x1 x2).all (·.oneCell')=true:=by rw[HF0.out,HF1.out,HF2.out];exact HV.all.trans rfl
  go_upto_region 9 with(refine AD rfl 37 (.tmp 7) (.tmp 60) rfl g (viR (.slice An 3 3) x0 x1 x2) rfl rfl 37 HV.nil.row HGH.out AS rfl hone ?_)
  intro W2 hz2 hk2;have HL2:Hid (Le W1 W2):=Hi (Below.trans HLZ1.out (hk2.below HGB.out HLZ1.out.size));have HN2:Hid (Bv W2 (.slice An 3 3) [86,105,97]):=Hi (HNV.out.setH HGH.out Am.nou hk2);have HZ2:=Hi hz2;have HB2W:Hid (PBH w W2):=Hi ⟨Le.trans HB1.out.1 HL2.out,HL2.out.heap HB1.out.2⟩;have hgw:w.heap.size<g:=by have:=AQ HB1.out.2;have:=HGB.out;omega
  clear hz2 hk2 hone;have CI:=Hi (Br _ rest 59 W2 (HB2.out.le HB2W.out.1));go_wp2_with fail
  refine CI.out.mono ?_;rintro e w' ⟨rfl,rfl⟩;clear CI;go_upto_if 64 with fail
  go_cut [8]from 10 (fun s8 wx=>∃e:Nat,s8= .int .i64 e∧e≤rest.length∧W2=wx)
  case first=>
   rcases Bo rest 59 with⟨j,e1,hj,e2⟩|⟨e1,e2⟩
   ·rw[e1];clear e1 e2;go_wp2;go_meet;case rel=>exact⟨j,rfl,by omega,rfl⟩
   ·rw[e1];clear e1 e2;go_wp2;go_meet;case rel=>exact⟨rest.length,rfl,NL _,rfl⟩
  case rest=>
  obtain⟨e,rfl,hel,rfl⟩:=hcut;have hec:e≤c2:=by obtain⟨_,_,ee,h,_⟩:=HB2.out;injection ee with _ _ ee;omega
  have HHT:Hid (Bv w (.slice A2 e e) (rest.take e)):=Hi (CD HB2.out (k:=e) hel (m:=e) (NL _) hec);obtain⟨v3,hb3,q3,q4⟩:=Bb HB2.out (k:=e) (z:=(e:Int)) hel rfl;have HB3:=Hi hb3;have HDL3:Hid ((rest.drop e).length≤1099511627000):=Hi (by have:=HDL.out;rw[List.length_drop];omega);clear hb3;go_wp2_with fail
  refine(GN _ (rest.take e) w W2 HB2W.out.1 HHT.out).mono ?_;rintro e5 W3 ⟨hvv,np,ok1,rfl,hdr,⟨Ah,mh,ch,rfl⟩,hnp,hho⟩;have HL3:=Hi hdr.le;have HB3W:Hid (PBH w W3):=Hi ⟨Le.trans HB2W.out.1 hdr.le,hdr.le.heap HB2W.out.2⟩;have HZ3:=Hi (hdr.le.heap HZ2.out);have HHO:=Hi hho;have HN3:=Hi (HN2.out.le hdr.le);clear hdr hho
  go_wp2_with (refine AM rfl 22 (.tmp 76) (.tmp 73) rfl g 19 (.slice Ah mh ch) rfl rfl rfl 37 _ HZ3.out (show 19<21 by decide) B5 ?_)
  intro W4 hz4 hk4;have HZ4:=Hi (show W4.heap[g]? =some (.cells (HV.row ⟨9,.slice An 3 3,.slice none 0 0,.slice none 0 0,UV.nil,.slice none 0 0,0,x0,x1,x2,.slice Ah mh ch,0⟩) 37 (0,0))from hz4);have HL4:Hid (Le W1 W4):=Hi (Below.trans (Le.trans HL2.out HL3.out) (hk4.below HGB.out (Le.trans HL2.out HL3.out).size))
  have HVN:Hid ((viR (.slice An 3 3) x0 x1 x2).all Eq=true):=Hi (by rw[HF0.out,HF1.out,HF2.out];exact HV.all.trans rfl);have HN4:=Hi (HN3.out.setH HZ3.out HVN.out hk4);clear hz4 hk4;go_wp2_with (refine AM rfl 3 (.tmp 77) (.tmp 74) rfl g 20 (.int .i64 np) rfl rfl rfl 37 _ HZ4.out (show 20<21 by decide) IZ ?_)
  intro W5 hz5 hk5;have HZ5:=Hi (show W5.heap[g]? =some (.cells (HV.row ⟨9,.slice An 3 3,.slice none 0 0,.slice none 0 0,UV.nil,.slice none 0 0,0,x0,x1,x2,.slice Ah mh ch,np⟩) 37 (0,0))from hz5);have HL5:Hid (Le W1 W5):=Hi (Below.trans HL4.out (hk5.below HGB.out HL4.out.size))
  have HVN4:Hid ((HV.row ⟨9,.slice An 3 3,.slice none 0 0,.slice none 0 0,UV.nil,.slice none 0 0,0,x0,x1,x2,.slice Ah mh ch,0⟩).all Eq=true):=Hi (by rw[HF0.out,HF1.out,HF2.out];exact HV.all.trans rfl);have HN5:=Hi (HN4.out.setH HZ4.out HVN4.out hk5);have HB5W:Hid (PBH w W5):=Hi ⟨Le.trans HB1.out.1 HL5.out,HL5.out.heap HB1.out.2⟩;clear hz5 hk5;go_wp2_with fail
  refine(N1 v3 (rest.drop e) W5 W5 (AC _) (HB3.out.le HB5W.out.1) HDL3.out).mono ?_;rintro e6 W6 ⟨pv,ok2,rfl,hle6,⟨Ap,mp,cp,rfl⟩,hp⟩;have HP:=Hi hp;have HL6:=Hi hle6;have HZ6:=Hi (hle6.heap HZ5.out);have HN6:=Hi (HN5.out.le hle6);have hg6:g<W5.heap.size:=AQ HZ5.out;clear hp hle6 q3 q4
  go_wp2_with (refine AM rfl 33 (.tmp 85) (.tmp 83) rfl g 14 (.slice Ap mp cp) rfl rfl rfl 37 _ HZ6.out (show 14<21 by decide) D0 ?_)
  intro W7 hz7 hk7;have HL7:Hid (Le W1 W7):=Hi (Below.trans (Le.trans HL5.out HL6.out) (hk7.below HGB.out (Le.trans HL5.out HL6.out).size));have HVN6:Hid ((HV.row ⟨9,.slice An 3 3,.slice none 0 0,.slice none 0 0,UV.nil,.slice none 0 0,0,x0,x1,x2,.slice Ah mh ch,np⟩).all Eq=true):=Hi (by rw[HF0.out,HF1.out,HF2.out];exact HV.all.trans rfl)
  have HN7:=Hi (HN6.out.setH HZ6.out HVN6.out hk7);have HB7W:Hid (PBH w W7):=Hi ⟨Le.trans HB1.out.1 HL7.out,HL7.out.heap HB1.out.2⟩;have HZ7:Hid (W7.heap[g]? =some (.cells (HV.row ⟨9,.slice An 3 3,.slice none 0 0,.slice none 0 0,UV.nil,.slice Ap mp cp,0,x0,x1,x2,.slice Ah mh ch,np⟩) 37 (0,0))):=Hi hz7;have HK7:=Hi hk7;clear hz7 hk7;cases ok1;case false=>
   go_wp2_with (first|refine AH rfl 37 rfl (some 92) rfl HV.nil.row DH ?_ |refine AD rfl 37 (.tmp 2) (.tmp 92) rfl w.heap.size HV.nil.row rfl rfl 37 HV.nil.row HB7W.out.2 AS rfl Am.one ?_)
   intro WZ hz hkz;have HZ:=Hi hz;have HLZ:Hid (Le w WZ):=Hi (Below.trans HB7W.out.1 (hkz.below (NL _) HB7W.out.1.size));clear hz hkz;go_wp2;exact bodyPost_ret (BL (x:=HV.nil) rfl HZ.out rfl rfl) rfl ⟨HV.nil,-2,rfl,HLZ.out,Am,fun h=>absurd h (by decide)⟩
  cases ok2;case false=>
   go_wp2_with (first|refine AH rfl 37 rfl (some 92) rfl HV.nil.row DH ?_ |refine AD rfl 37 (.tmp 2) (.tmp 92) rfl w.heap.size HV.nil.row rfl rfl 37 HV.nil.row HB7W.out.2 AS rfl Am.one ?_)
   intro WZ hz hkz;have HZ:=Hi hz;have HLZ:Hid (Le w WZ):=Hi (Below.trans HB7W.out.1 (hkz.below (NL _) HB7W.out.1.size));clear hz hkz;go_wp2;exact bodyPost_ret (BL (x:=HV.nil) rfl HZ.out rfl rfl) rfl ⟨HV.nil,-2,rfl,HLZ.out,Am,fun h=>absurd h (by decide)⟩
  obtain⟨hh,hh1,hh2⟩:∃h,BF (rest.take e)=some (h,np)∧Bv w (.slice Ah mh ch) h:=by
   have h:=HHO.out;rw[if_pos rfl]at h;exact h
  obtain⟨kvs,hp1,hp2,hp3⟩:∃kvs,C7 (rest.drop e)=some kvs∧kvs.length≤1099511627776∧KrS W5 W6 W5.heap.size (.slice Ap mp cp) kvs:=by
   have h:=HP.out;rw[if_pos rfl]at h;exact h
  have hko:KO (W5.heap.size≤·) (.slice Ap mp cp) kvs:=fun _ g' e=>hp3.own g' e;have hkq:=(hp3.kq HL6.out hp2).setH HZ6.out HVN6.out HK7.out (hko.imp fun g' h=>by omega);have HKO:=Hi hko;have HKQ:=Hi hkq;have HH2:=Hi hh2
  have HPK:Hid (PHk ⟨9,[86,105,97],[],[],PU.zero,kvs,0,l0,l1,l2,hh,np⟩):=Hi ⟨rfl,(fun h=>absurd (show BP 9∨Et 9 from h) (by decide)),rfl,JG hp1,Hd (GM hh1).1,fun h=>absurd rfl h⟩;have hfit:Gs ⟨9,.slice An 3 3,.slice none 0 0,.slice none 0 0,UV.nil,.slice Ap mp cp,0,x0,x1,x2,.slice Ah mh ch,np⟩:=by
   rw[HF0.out,HF1.out,HF2.out];exact⟨HV.all.trans rfl,HV.all.trans rfl,_,_,_,rfl⟩
  have HFIT:=Hi hfit;clear hko hkq hh1 hh2 hp1 hp2 hp3 HHO HP hfit
  go_wp2_with (first|refine wpList_load_row rfl 37 (.tmp 7) rfl g rfl 37 _ (0,0) _ HZ7.out Tryz.underlying37 rfl AS ?_ |refine AD rfl 37 (.tmp 2) (.tmp 93) rfl w.heap.size (HV.row ⟨9,.slice An 3 3,.slice none 0 0,.slice none 0 0,UV.nil,.slice Ap mp cp,0,x0,x1,x2,.slice Ah mh ch,np⟩) rfl rfl 37 HV.nil.row HB7W.out.2 AS rfl HFIT.out.one ?_)
  intro WZ hz hkz;have HZ:=Hi hz;have HLZ:Hid (Le w WZ):=Hi (Below.trans HB7W.out.1 (hkz.below (NL _) HB7W.out.1.size));have HNZ:=Hi (HN7.out.setH HB7W.out.2 Am.nou hkz);have HKZ:=Hi (HKQ.out.setH HB7W.out.2 Am.nou hkz (HKO.out.imp fun g' h=>by omega));clear hz hkz;go_wp2
  refine bodyPost_ret (BL (x:=⟨9,.slice An 3 3,.slice none 0 0,.slice none 0 0,UV.nil,.slice Ap mp cp,0,x0,x1,x2,.slice Ah mh ch,np⟩) rfl HZ.out rfl rfl) rfl ⟨_,0,rfl,HLZ.out,HFIT.out,fun _=>⟨⟨9,[86,105,97],[],[],PU.zero,kvs,0,l0,l1,l2,hh,np⟩,?_,rfl,HPK.out⟩⟩
  exact⟨rfl,HNZ.out,Bv.nil _,Bv.nil _,(Hz.nil _ _).uri,HKZ.out,HKO.out.imp fun g' h=>by omega,rfl,hy0.out.le HLZ.out,hy1.out.le HLZ.out,hy2.out.le HLZ.out,HH2.out.le HLZ.out,rfl⟩
end Go.Proofs.YtejhpdcjafbklaaGreatDoor
