/- Parts of a proof, in order: what each says stands at its head. No conditions. -/
import Derived.Test.YtfhkmkhcofodmaaGreatM5
import Derived.Test.YtfhkmkhcofodmaaGreatM3
import Derived.Test.YtfhkmkhcofodmaaGreatM4
namespace Go.Proofs.Tryz.Sx
open Go Go.Sx Go.Proofs Go.Fl Go.Geo
set_option maxRecDepth 100000
section
variable {q:RM} {tb tc ib ic:Nat} {fp:List Nat} {its:List (Int×Bx)} {it:Int×Bx}
theorem a9g(h:a5n q tb tc ib ic fp its it):q.D tb/\tc+8<=q.S tb/\a8V (q.F tb (tc+1))/\okR q ib ic:=by
 have hi:=h.i;rcases h.t with⟨_,_,h1,h2,_,h4,_⟩|⟨_,k,ha,_⟩
 ·exact⟨h1,h2, .inl h4,okR.mk' hi.D hi.S hi.bx⟩
 ·exact⟨ha.D,ha.S, .inr ⟨_,_,ha.ref⟩,okR.mk' hi.D hi.S hi.bx⟩
def K7(q:RM)(b:Nat):RM:=⟨L4 q.D b,E5 q.S b 86,D7 q.F b (rz tys 210)⟩
theorem a1J{b c:Nat}(hb:¬q.D b)(hc:q.D c):(K7 q b).D c/\(K7 q b).S c=q.S c/\∀ k,(K7 q b).F c k=q.F c k:=by
 have hne:c≠b:=λe=>hb (e▸hc)
 refine⟨.inr hc,?_,λk=>?_⟩
 ·show E5 q.S b 86 c=_;simp only[E5];rw[if_neg hne]
 ·show D7 q.F b _ c k=_;simp only[D7];rw[if_neg hne]
theorem b2r(b:Nat):(K7 q b).D b/\(K7 q b).S b=86/\(K7 q b).F b 0=.int .i64 (0:Nat):=by
 refine⟨.inl rfl,?_,?_⟩
 ·show E5 q.S b 86 b=_;simp[E5]
 ·show D7 q.F b _ b 0=_;simp only[D7,if_true];exact c1t
theorem c3v{b:Nat}(h:a5n q tb tc ib ic fp its it)(hb:¬q.D b):a7G (K7 q b) ib (ic+1) 2 ib (ic+3) 2 tb (tc+1):=by
 have hi:=h.i;obtain⟨d1,d2,d3⟩:=a1J hb hi.D;obtain⟨r1,r2,_,_⟩:=a9g h;obtain⟨t1,t2,t3⟩:=a1J hb r1;have hS:=hi.S;have hbx:isBox (K7 q b).F ib ic it.2:=D8 (λk _=>d3 _) hi.bx;exact⟨⟨rfl,rfl⟩,a3N.mk' d1 (by rw[d2];omega) hbx.1 hbx.2.1,a3N.mk' d1 (by rw[d2];omega) hbx.2.2.1 hbx.2.2.2,⟨h.ne,h.ne⟩,t1,by rw[t2];omega⟩
theorem b9R(b:Nat)(h:a5n q tb tc ib ic fp its it):a7G ⟨L4 q.D b,K8 q.D q.S b 86,J5 q.D q.F b (rz tys 210)⟩ ib (ic+1) 2 ib (ic+3) 2 tb (tc+1):=by
 have hi:=h.i;obtain⟨r1,r2,_,_⟩:=a9g h;have hS:=hi.S;have hbx:isBox (J5 q.D q.F b (rz tys 210)) ib ic it.2:=D8 (λk _=>by rw[b5D hi.D]) hi.bx;refine⟨⟨rfl,rfl⟩,a3N.mk' (.inr hi.D) ?_ hbx.1 hbx.2.1,a3N.mk' (.inr hi.D) ?_ hbx.2.2.1 hbx.2.2.2,⟨h.ne,h.ne⟩, .inr r1,?_⟩
 ·show ic+1+2<=K8 q.D q.S b 86 ib;rw[a4P hi.D];omega
 ·show ic+3+2<=K8 q.D q.S b 86 ib;rw[a4P hi.D];omega
 ·show tc+1+5<=K8 q.D q.S b 86 tb;rw[a4P r1];omega
theorem b7U{b:Nat}(h:a5n q tb tc ib ic fp its it)(hb:¬q.D b)(hn:U2 (q.F tb (tc+1))=true):rt2 tb tc ib ic (a0z (K7 q b) ib (ic+1) ib (ic+3) tb (tc+1) (.iface 207 (.pointer (some ⟨b,0,none⟩)))) its it:=by
 have hf:=c3v h hb;obtain⟨⟨g1,g2,g3⟩,gb,gv⟩:=b1e (v:=.iface 207 (.pointer (some ⟨b,0,none⟩))) hf;have hi:=h.i;obtain⟨i1,i2,i3⟩:=a1J hb hi.D;have hbx:isBox (K7 q b).F ib ic it.2:=D8 (λk _=>i3 _) hi.bx;have hit:∀ k,(a0z (K7 q b) ib (ic+1) ib (ic+3) tb (tc+1) (.iface 207 (.pointer (some ⟨b,0,none⟩)))).F ib k=q.F ib k:=λk=>(g3 ib k (λe=>h.ne e.1)).trans (i3 k)
 rcases h.t with⟨rfl,rfl,t1,t2,t3,t4,t5⟩|⟨_,k,ha,_⟩
 ·have htb:tb≠b:=λe=>hb (e▸t1)
  have hib:ib≠b:=λe=>hb (e▸hi.D)
  obtain⟨n1,n2,n3⟩:=b2r (q:=q) b;obtain⟨o1,o2,o3⟩:=a1J hb t1;have e4:(⟨zI ((K7 q b).F ib (ic+1)),zI ((K7 q b).F ib (ic+1+1)),zI ((K7 q b).F ib (ic+3)),zI ((K7 q b).F ib (ic+3+1))⟩:Bx)=it.2:=hbx.bxOf;rw[e4]at gb;have hS:=hi.S
  refine⟨0,⟨b,[b],[],it.2,0⟩,⟨by rw[g1];exact o1,by rw[g2,o2];omega,gv,gb,⟨rfl,rfl,⟨by rw[g1];exact n1,by rw[g2];exact n2,?_,by simp,by simp,by simp,by simp⟩,λa ha=>by simp at ha,λhne=>absurd rfl hne⟩,by simp,by simp,λ_=>⟨rfl,rfl⟩,by simpa using htb,by rw[g1];exact i1,by rw[g2,i2];exact hS,?_,D8 (λk _=>hit _) hi.bx,by simpa using hib⟩,?_,by rw[g2,o2];exact t2,List.Perm.refl _,Nat.le_refl _,?_,by simp,h.ne⟩
  ·rw[g3 b 0 (λe=>htb e.1.symm)];exact n3
  ·rw[hit];exact hi.v
  ·rw[g3 tb tc (λe=>by unfold fW at e;omega),o3];exact t3
  ·rw[g3 tb (tc+6) (λe=>by unfold fW at e;omega),o3];exact t5
 ·rw[ha.ref]at hn;exact absurd hn (λe=>nomatch e)
theorem c0c(h:a5n q tb tc ib ic fp its it)(hn:U2 (q.F tb (tc+1))=false):rt2 tb tc ib ic q its it:=by
 have hi:=h.i;rcases h.t with⟨_,_,_,_,_,t4,_⟩|⟨h',k,ha,hk,rfl,hp,hh,hc⟩
 ·rw[t4]at hn;exact absurd hn (λe=>nomatch e)
 ·have hS:=ha.S;exact⟨h',k,⟨ha.D,by omega,ha.ref,ha.box,ha.tr,ha.nd,hk.2,λe=>by omega,ha.tfp,hi.D,hi.S,hi.v,hi.bx,h.ifp⟩,ha.hgt,hS,hp,hh,hc,h.le,h.ne⟩
theorem b3p{q1 q2:RM}{g:Bool}{hh:Nat}(h:rt2 tb tc ib ic q1 its it)(hhv:q1.F tb tc=.int .i64 (hh:Nat))(hP:a6Q q1 tb (tc+1) ib ic hh q2 g) :
  okR q2 tb (tc+1)/\okR q2 ib ic/\ib≠tb/\(g=false->rt5 tb tc q2 its it)/\∀ q3,exI q2 tb (tc+1) ib ic 2 2 q3->g=true->rt5 tb tc q3 its it:=by
 obtain⟨h',k,ha,h1,h2,h3,h4,h5,h6,hne⟩:=h
 have:hh=h':=by
  rw[h1]at hhv;simp only[Value.int.injEq,true_and,Int.natCast_inj]at hhv;exact hhv.symm
 subst this;obtain⟨hg,hf,k',k1,k2,k3,k4,k5,k6,k7,k8⟩:=hP k it ha;have htb:∀ c,q2.F tb c=q1.F tb c:=λc=>hf.2 _ _ ha.D ha.rfp
 have hib:∀ c,q2.F ib c=q1.F ib c:=λc=>hf.2 _ _ ha.iD ha.ifp
 have d1:=hf.1 _ ha.D;have d2:=hf.1 _ ha.iD;have hB:isBox q2.F tb (tc+1) k.B:=D8 (λk _=>htb _) ha.box;have hI:isBox q2.F ib ic it.2:=D8 (λk _=>hib _) ha.ibx
 have htk:tb∉k'.fp:=λe=>by
  rcases k6 _ e with e|e
  ·exact ha.rfp e
  ·exact e ha.D
 have hperm:k'.its.Perm (its++[it]):=k7.trans (List.Perm.append_right _ h3);refine⟨okR.mk' d1.1 (by rw[d1.2];exact ha.S) hB,okR.mk' d2.1 (by rw[d2.2];exact ha.iS) hI,hne,λhgf=>?_,λq3 he hgt=>?_⟩
 ·have hin:E0 k.B it.2:=by
   rw[hgf]at hg;by_cases c:E0 k.B it.2
   ·exact c
   ·simp[c]at hg
  have hkB:k'.B=k.B:=by rw[k8,a8p _ _ hin]
  exact⟨hh,k',⟨d1.1,by rw[d1.2];exact h2,by rw[htb];exact h1,by rw[htb,k1];exact ha.ref,by rw[hkB];exact hB,k4,k5,htk⟩,⟨k3,k2⟩,hperm,h4,by rw[htb];exact h5,h6⟩
 ·obtain⟨⟨s1,s2,s3⟩,hb⟩:=he;rw[a4X,hB.bxOf,hI.bxOf]at hb;have hoff:∀ b c,b≠tb->q3.F b c=q2.F b c:=λb c hb=>s3 b c (by unfold rW;omega)
  refine⟨hh,k',⟨by rw[s1];exact d1.1,by rw[s2,d1.2];exact h2,by rw[s3 _ _ (by unfold rW;omega),htb];exact h1,by rw[s3 _ _ (by unfold rW;omega),htb,k1];exact ha.ref,by rw[k8];exact hb,
   k4.same λb hbm=>⟨by rw[s1];exact k4.D b hbm,by rw[s2],λc=>hoff b c λe=>htk (e▸hbm)⟩,k5,htk⟩,⟨k3,k2⟩,hperm,h4,by rw[s3 _ _ (by unfold rW;omega),htb];exact h5,h6⟩
theorem a6y{q3:RM}{h:Nat}{k:Kid}(ha:rtA q3 tb tc h k):isRef (q3.F tb (tc+1))/\kb (q3.F tb (tc+1))=k.b/\G1 q3 k.b (B3 q3 k.b)/\q3.F k.b 0=.int .i64 (k.n:Nat)/\(B3 q3 k.b).length=k.n/\I5 k.B ((B3 q3 k.b).map (·.B))/\k.b≠tb:=by
 obtain⟨l,n1,n2,n3⟩:=ha.tr.nd;refine⟨by rw[ha.ref];rfl,by rw[ha.ref];rfl,by rw[n1.of];exact n1,by rw[n1.n,n2],by rw[n1.of];exact n2,by rw[n1.of];exact n3,λe=>ha.tfp (e▸ha.tr.fp0)⟩
theorem b9q{q3:RM}(h:rt5 tb tc q3 its it)(hn:p9 (q3.F (kb (q3.F tb (tc+1))) 0)≠17):b3s tb tc q3 its it:=by
 obtain⟨h',k,ha,h1,h2,h3,h4,h5⟩:=h;obtain⟨c1,c2,c3,c4,_⟩:=a6y ha;rw[c2,c4]at hn;have:k.n≠17:=λe=>hn (by rw[e];rfl)
 exact⟨h',k,ha,⟨h1.1,by omega⟩,h2,by omega,h4,h5⟩
theorem b7d{q3:RM}{h b:Nat}{k:Kid}(ha:rtA q3 tb tc h k)(hn:k.n=17)(hb:¬q3.D b):spO (K7 q3 b) tb (tc+1) b 6:=by
 obtain⟨c1,c2,c3,c4,c5,c6,c7⟩:=a6y ha;obtain⟨o1,o2,o3⟩:=a1J hb ha.D;obtain⟨m1,m2,m3⟩:=a1J hb c3.D;obtain⟨n1,n2,n3⟩:=b2r (q:=q3) b;have hS:=ha.S;have hbx:isBox (K7 q3 b).F tb (tc+1) k.B:=D8 (λk _=>o3 _) ha.box;have hnd:G1 (K7 q3 b) k.b (B3 q3 k.b):=c3.same m1 m2 m3;have hkb:kb ((K7 q3 b).F tb (tc+1))=k.b:=by rw[o3];exact c2
 have htb:tb≠b:=λe=>hb (e▸ha.D)
 have hkbb:k.b≠b:=λe=>hb (e▸c3.D)
 refine⟨⟨o1,by rw[o2];omega,by rw[o3];exact c1,by rw[hkb];exact c7,by rw[hkb,hnd.of];exact hnd⟩,okR.mk' o1 (by rw[o2];omega) hbx,by rw[hkb,hnd.of,hbx.bxOf];exact c6,by rw[hkb,hnd.of,c5];exact hn,⟨n1,by rw[n2];decide⟩,by rw[hkb];exact Ne.symm hkbb, .inl htb⟩
def H1(q4:RM)(tb tc b:Nat):RM:=⟨q4.D,q4.S,j7 (j7 (cp5 q4.F b 1 q4.F tb (tc+1)) b 0 (.int .i64 2)) tb (tc+1) (.iface 207 (.pointer (some ⟨b,0,none⟩)))⟩
theorem b1l{q3:RM}{h b:Nat}{k:Kid}(ha:rtA q3 tb tc h k)(hn:k.n=17)(hb:¬q3.D b){q4:RM}(hs:spP (K7 q3 b) tb (tc+1) b 6 q4) :
  (q4.D tb/\q4.S tb=q3.S tb/\q4.D b/\q4.S b=86/\∀ c,c<5->(q4.F tb (tc+1+c)).oneCell'=true)/\hangs (H1 q4 tb tc b) tb (tc+1)/\kb ((H1 q4 tb tc b).F tb (tc+1))=b/\B3 (H1 q4 tb tc b) b≠[]/\
  ∀ q6,rcP (H1 q4 tb tc b) tb (tc+1) b (B3 (H1 q4 tb tc b) b).length q6->q6.D tb/\q6.S tb=q3.S tb/\q6.F tb tc=q3.F tb tc/\q6.F tb (tc+6)=q3.F tb (tc+6)/\
   ∃ k':Kid,rtA ⟨q6.D,q6.S,j7 q6.F tb tc (.int .i64 (h+1:Nat))⟩ tb tc (h+1) k'/\k'.n=2/\k'.its.Perm k.its:=by
 have hO:=b7d ha hn hb;obtain⟨c1,c2,c3,c4,c5,c6,c7⟩:=a6y ha;obtain⟨o1,o2,o3⟩:=a1J hb ha.D;obtain⟨n1,n2,n3⟩:=b2r (q:=q3) b;have hS:=ha.S;have hkb0:kb ((K7 q3 b).F tb (tc+1))=k.b:=by rw[o3];exact c2
 obtain⟨b2,L,R,B1,B2,s1,s2,s3,s4,s5,s6,s7,s8,s9,s10,s11,s12⟩:=hs;rw[hkb0]at s2 s5 s12;have htb:tb≠b:=λe=>hb (e▸ha.D)
 have hkbb:k.b≠b:=λe=>hb (e▸c3.D)
 have hb2b:b2≠b:=λe=>s1 (e▸n1)
 have hb2t:b2≠tb:=λe=>s1 (e▸o1)
 have e1:∀ c,c<5∨True->¬rW tb (tc+1) tb c->q4.F tb c=q3.F tb c:=λc _ hw=>(s12.2 tb c o1 (Ne.symm c7) (λe=>by rcases e with e|e;exact htb e.1;exact hw e)).trans (o3 c)
 have eref:q4.F tb (tc+1)=.iface 207 (.pointer (some ⟨k.b,0,none⟩)):=(e1 _ (.inr trivial) (by unfold rW;omega)).trans ha.ref
 have m5:∀ c k',c≠b->c≠tb->(H1 q4 tb tc b).F c k'=q4.F c k':=λc k' h1 h2=>by
  show j7 _ _ _ _ _ _=_;rw[g8 (.inl h2),g8 (.inl h1),S7 (.inl h1)]
 have mb:∀ c,(H1 q4 tb tc b).F b c=j7 (cp5 q4.F b 1 q4.F tb (tc+1)) b 0 (.int .i64 2) b c:=λc=>g8 (.inl (Ne.symm htb))
 have mt:∀ c,c≠tc+1->(H1 q4 tb tc b).F tb c=q4.F tb c:=λc hc=>by
  show j7 _ _ _ _ _ _=_;rw[g8 (.inr hc),g8 (.inl htb),S7 (.inl htb)]
 have mt1:(H1 q4 tb tc b).F tb (tc+1)=.iface 207 (.pointer (some ⟨b,0,none⟩)):=A6;have d1:=s12.1 tb o1;have d2:=s12.1 b n1;have hnq:isTr (K7 q3 b) h k:=ha.tr.same λc hc=>a1J hb (ha.tr.D c hc)
 have hfb:∀ c∈k.fp,c≠b/\c≠tb:=λc hc=>⟨λe=>hb (e▸ha.tr.D c hc),λe=>ha.tfp (e▸hc)⟩
 have hlen17:(B3 (K7 q3 b) k.b).length<=17:=by
  have:=hO.2.2.2.1;rw[hkb0]at this;omega
 obtain⟨x1,x2,f1,f2,f3,f4,f5,f6,f7,f8,f9,f10⟩:=hnq.split (q':=H1 q4 tb tc b) (b2:=b2) ha.nd s2 s3 s4 hlen17 (s5.same s5.D rfl λc=>m5 _ _ hkbb c7) (s6.same s6.D rfl λc=>m5 _ _ hb2b hb2t) s9 s11 λc hc hne=>by
  have hD:=hnq.D c hc;obtain⟨g1,g2⟩:=hfb c hc;refine⟨(s12.1 c hD).1,(s12.1 c hD).2,λk'=>(m5 c k' g1 g2).trans (s12.2 c k' hD hne λe=>?_)⟩;rcases e with e|e
  ·exact g1 e.1
  ·exact g2 e.1
 have node:G1 (H1 q4 tb tc b) b [F3 x1,F3 x2]:=by
  have i0:∀ c,c<5->(H1 q4 tb tc b).F b (1+c)=q4.F tb (tc+1+c):=λc hc=>by
   rw[mb,g8 (by omega)];exact b2O hc
  have i1:∀ c,c<5->(H1 q4 tb tc b).F b (6+c)=q4.F b (6+c):=λc hc=>by
   rw[mb,g8 (by omega),S7 (by omega)]
  refine⟨d2.1,d2.2.trans n2,?_,by simp,λj e hj=>?_,λj e hj=>?_,λj e hj=>?_⟩
  ·rw[mb];exact A6
  ·match j,hj with
   | 0,hj =>
    simp at hj;subst hj;have:=i0 0 (by omega);simp only[Nat.add_zero]at this;refine this.trans ?_;rw[eref];unfold F3;rw[f1]
   | 1,hj =>
    simp at hj;subst hj;have:=i1 0 (by omega);simp only[Nat.add_zero]at this;refine this.trans ?_;rw[s7];unfold F3;rw[f2]
   | j+2,hj=>simp at hj
  ·match j,hj with
   | 0,hj=>simp at hj;subst hj;rfl
   | 1,hj=>simp at hj;subst hj;rfl
   | j+2,hj=>simp at hj
  ·match j,hj with
   | 0,hj =>
    simp at hj;subst hj;show isBox _ _ _ x1.B;rw[f5];exact D8 i0 s8
   | 1,hj =>
    simp at hj;subst hj;show isBox _ _ _ x2.B;rw[f6];exact D8 i1 s10
   | j+2,hj=>simp at hj
 have hkb1:kb ((H1 q4 tb tc b).F tb (tc+1))=b:=by rw[mt1];rfl
 refine⟨⟨d1.1,d1.2.trans o2,d2.1,d2.2.trans n2,λc hc=>?_⟩,⟨d1.1,by show tc+1+5<=q4.S tb;rw[d1.2,o2];omega,by rw[mt1];rfl,by rw[hkb1];exact Ne.symm htb,by rw[hkb1,node.of];exact node⟩,hkb1,by rw[node.of];simp,λq6 hq6=>?_⟩
 ·match c,hc with
  | 0,_=>rw[Nat.add_zero,eref];rfl
  | 1,_=>rw[s8.1.1];rfl
  | 2,_=>rw[s8.2.1.1];rfl
  | 3,_=>rw[s8.2.2.1.1];rfl
  | 4,_=>rw[s8.2.2.2.1];rfl
 ·rw[node.of]at hq6;obtain⟨⟨g1,g2,g3⟩,B,g4,g5⟩:=hq6;rw[node.of,List.take_length]at g5;have hb2k:∀ c∈x1.fp++x2.fp,c=b2∨c∈k.fp:=λc hc=>by simpa using f10.mem_iff.1 hc
  have hxt:∀ c∈x1.fp++x2.fp,c≠tb/\c≠b:=λc hc=>by
   rcases hb2k c hc with rfl|hc
   ·exact⟨hb2t,hb2b⟩
   ·exact⟨(hfb c hc).2,(hfb c hc).1⟩
  have q7o:∀ c k',c≠tb->j7 q6.F tb tc (.int .i64 (h+1:Nat)) c k'=(H1 q4 tb tc b).F c k':=λc k' hc=>by
   rw[g8 (.inl hc),g3 c k' (by unfold rW;omega)]
  have tsame:∀ x:Kid,isTr (H1 q4 tb tc b) h x->(∀ c∈x.fp,c∈x1.fp++x2.fp)->isTr ⟨q6.D,q6.S,j7 q6.F tb tc (.int .i64 (h+1:Nat))⟩ h x:=λx hx hin =>
   hx.same λc hc=>⟨by show q6.D c;rw[g1];exact hx.D c hc,by show q6.S c=_;rw[g2],λk'=>q7o c k' (hxt c (hin c hc)).1⟩
  have hndn:(x1.fp++x2.fp).Nodup:=f10.nodup_iff.2 (List.nodup_cons.2 ⟨λe=>s1 (hnq.D _ e),ha.nd⟩);refine⟨by rw[g1];exact d1.1,by rw[g2];exact d1.2.trans o2,?_,?_,⟨b,b :: [x1,x2].flatMap (·.fp),[x1,x2].flatMap (·.its),B,2⟩,⟨by show q6.D tb;rw[g1];exact d1.1,by show tc+8<=q6.S tb;rw[g2];show tc+8<=q4.S tb;rw[d1.2,o2];exact hS,A6,?_,?_,⟨[x1,x2],rfl,Nat.le_succ 1,rfl,rfl,?_,g5,?_⟩,?_,?_⟩,rfl,?_⟩
  ·rw[g3 _ _ (by unfold rW;omega),mt _ (by omega)];exact e1 _ (.inr trivial) (by unfold rW;omega)
  ·rw[g3 _ _ (by unfold rW;omega),mt _ (by omega)];exact e1 _ (.inr trivial) (by unfold rW;omega)
  ·show j7 q6.F tb tc _ tb (tc+1)=_;rw[g8 (by omega),g3 _ _ (by unfold rW;omega)];exact mt1
  ·exact D8 (λc hc=>by show j7 q6.F tb tc _ tb _=_;rw[g8 (by omega)]) g4
  ·exact node.same (by show q6.D b;rw[g1];exact node.D) (by show q6.S b=_;rw[g2]) λc=>q7o _ _ (Ne.symm htb)
  ·intro x hx;simp at hx;rcases hx with rfl|rfl
   ·exact⟨tsame _ f7 λc hc=>by simp[hc],f3⟩
   ·exact⟨tsame _ f8 λc hc=>by simp[hc],f4⟩
  ·show (b :: [x1,x2].flatMap (·.fp)).Nodup;simp only[List.flatMap_cons,List.flatMap_nil,List.append_nil];exact List.nodup_cons.2 ⟨λe=>(hxt b e).2 rfl,hndn⟩
  ·show tb∉b :: [x1,x2].flatMap (·.fp);simp only[List.flatMap_cons,List.flatMap_nil,List.append_nil,List.mem_cons,not_or];exact⟨htb,λe=>(hxt tb e).1 rfl⟩
  ·show ([x1,x2].flatMap (·.its)).Perm k.its;simp only[List.flatMap_cons,List.flatMap_nil,List.append_nil];exact f9
theorem c4c{q3:RM}{b:Nat}(h:rt5 tb tc q3 its it){h3:Nat}(hh:q3.F tb tc=.int .i64 (h3:Nat))(hn:p9 (q3.F (kb (q3.F tb (tc+1))) 0)=17)(hb:¬q3.D b){q4:RM}(hs:spP (K7 q3 b) tb (tc+1) b 6 q4)
  {q6:RM} (hq:rcP (H1 q4 tb tc b) tb (tc+1) b (B3 (H1 q4 tb tc b) b).length q6):b3s tb tc ⟨q6.D,q6.S,j7 q6.F tb tc (.int .i64 (h3+1:Nat))⟩ its it:=by
 obtain⟨h',k,ha,h1,h2,h3',h4,h5⟩:=h
 have e:h3=h':=by
  rw[ha.hgt]at hh;simp only[Value.int.injEq,true_and,Int.natCast_inj]at hh;exact hh.symm
 subst e;obtain⟨c1,c2,c3,c4,_⟩:=a6y ha;rw[c2,c4]at hn
 have hk:k.n=17:=by
  have:((k.n:Nat):Int)=17:=hn;omega
 obtain⟨_,_,_,_,s9⟩:=b1l ha hk hb hs;obtain⟨t1,t2,t3,t4,k',ha',kn,kp⟩:=s9 q6 hq;refine⟨h3+1,k',ha',by omega,kp.trans h2,by omega,?_,h5⟩;show j7 q6.F tb tc _ tb (tc+6)=_;rw[g8 (by omega),t4];exact h4
theorem b7W{q3:RM}(h:b3s tb tc q3 its it):q3.D tb/\tc+8<=q3.S tb/\q3.F tb (tc+6)=.int .i64 (its.length:Nat)/\its.length<=100/\
  ∃ fp',isRT ⟨q3.D,q3.S,j7 q3.F tb (tc+6) (.int .i64 (its.length+1:Nat))⟩ tb tc fp' (its++[it]):=by
 obtain⟨h',k,ha,h1,h2,h3,h4,h5⟩:=h;have off:∀ c,c≠tc+6->j7 q3.F tb (tc+6) (.int .i64 (its.length+1:Nat)) tb c=q3.F tb c:=λc hc=>g8 (.inr hc)
 refine⟨ha.D,ha.S,h4,h5,k.fp, .inr ⟨h',k,⟨ha.D,ha.S,(off _ (by omega)).trans ha.hgt,(off _ (by omega)).trans ha.ref,D8 (λc hc=>off _ (by omega)) ha.box,
  ha.tr.same λb hb=>⟨ha.tr.D b hb,rfl,λc=>g8 (.inl λe=>ha.tfp (e▸hb))⟩,ha.nd,ha.tfp⟩,h1,rfl,h2,by simp;exact h3,?_⟩⟩
 show j7 q3.F tb (tc+6) _ tb (tc+6)=_;rw[A6];simp
end
noncomputable def GF:Ctx:=⟨⟨tys,[]⟩,[(119,a3m (q7 Unit ⟨()⟩ b0g) ())]⟩
theorem gF:B9 prog GF:=⟨⟨D6,FlatsOk.nil⟩,l8.cons c3r l8.nil,by kernel_rfl⟩
noncomputable def X4:G9:=⟨GF,[(127,q7 (RM×Bool) ⟨default⟩ (a6F 200)),(128,q7 RM ⟨default⟩ a7a),(129,q7 RM ⟨default⟩ a5X),(130,q7 RM ⟨default⟩ a9h)],[(210,0)],[],[]⟩
theorem x4:C0 prog X4:=⟨gF,y9.cons (b4N 200) (y9.cons b7x (y9.cons b7g (y9.cons c1J y9.nil)))⟩
def c4o(ts:List Nat)(tb tc ib ic:Nat)(q:RM):St:=⟨95,[(0, .pb 0 tb tc),(1, .pb 0 ib ic)],[(0,rwO ts q)],1⟩
noncomputable def b3w:List SV->RRd (RM)
 | [.pb n tb tc, .pb n1 ib ic]=>.read n λo0=>(match J4 o0 with
  | some (ts,q)=>.ret ⟨[.pb 0 tb tc, .pb 0 ib ic],[(0,rwO ts q)],some (n=n1/\(rtO q tb tc ib ic)),λi=>rtP q tb tc ib ic i,λi=>⟨[],[], .tup [],[(0,rwO ts (i))],[],none⟩⟩
  | none=>.fail)
 | _=>.fail
theorem b8W(R:Option Ob->SV->Prop)(ts:List Nat)(q:RM)(tb tc ib ic:Nat){T1}(t1:T1=λ(i:Nat) (i_1:RM)=>(j7 (j7 (j7 (j7 (j7 (j7 i_1.3 i 1 (i_1.3 tb (tc+1))) i 2 (i_1.3 tb (tc+1+1))) i 3 (i_1.3 tb (tc+1+1+1))) i 4 (i_1.3 tb (tc+1+1+1+1))) i 5 (i_1.3 tb (tc+1+1+1+1+1))) i 0
 (Value.int .i64 (2:Int)))){T2}(t2:T2=λ(i:Nat)=>(Value.iface 207 (Value.pointer (Option.some (Addr.mk i 0 Option.none))))){T3}(t3:T3=((True/\tb=tb/\tc=tc)/\(True/\ib=ib/\ic=ic)/\True)){T4}(t4:T4=(tc+1+0)){T5}(t5:T5=λ(i:Nat)
 (i_1:RM)=>(RM.mk (RM.D i_1) i_1.2 (j7 (T1 i i_1) tb T4 (T2 i)))){T6}(t6:T6=λ(j:RM)=>(K9 (j.3 tb T4))){T7}(t7:T7=(rz tys 210)){T8}(t8:T8=λ(i:Nat) (i_1:RM)=>(kb (j7 (T1 i i_1) tb T4 (T2 i) tb (tc+1)))){T9}(t9:T9=λ(j:RM)
 (i:Nat)=>(RM.mk (L4 (RM.D j) i) (K8 (RM.D j) j.2 i 86) (J5 (RM.D j) j.3 i T7))){T10}(t10:T10=λ(j:RM)=>(j.3 (ptB (T6 j)) (ptC (T6 j)+0))):O9 X4 1 [] [(2,⟨RM,c4o ts tb tc ib ic,λq'=>a0L q tb tc ib ic (rt2 tb tc ib ic q'),λ_=>0⟩),(5,⟨RM,c4o ts tb tc ib ic,λq'=>a0L q tb tc ib ic (rt5 tb tc q'),λ_=>0⟩),(13,⟨RM,c4o ts tb tc ib ic,λq'=>a0L q tb tc ib ic (b3s tb tc q'),λ_=>0⟩)] (p7 f120) (A8 f120.ntmps [.pb 0 tb tc, .pb 0 ib ic] [(0,rwO ts q)] 1) (B5 X4.G.E.T f120.results.toList λS v=>R (Go.Sx.look S.H 0) v)=(
 ((q.1 tb/\tc+1+0<q.2 tb)/\a8V (q.3 tb T4)/\(U2 (q.3 tb T4)=true->∀(i:Nat),(0=0/\0=0/\0=0/\a7G (RM.mk (L4 (RM.D q) i) (K8 (RM.D q) q.2 i 86) (J5 (RM.D q) q.3 i T7)) ib (ic+1) 2 ib (ic+3) 2 tb (tc+1))/\true
 = true/\(¬q.1 i->∃(pq:RM),a0L q tb tc ib ic (rt2 tb tc ib ic pq)/\T3/\True/\(0=0/\0=0/\ts=ts/\j7 (j7 (j7 (j7 (j7 (J5 (RM.D q) q.3 i T7) tb (tc+1+1) (J5 (RM.D q) q.3 i T7 ib (ic+1))) tb (tc+1+3) (J5
 (RM.D q) q.3 i T7 ib (ic+3))) tb (tc+1+1+1) (J5 (RM.D q) q.3 i T7 ib (ic+1+1))) tb (tc+1+3+1) (J5 (RM.D q) q.3 i T7 ib (ic+3+1))) tb (tc+1) (T2 i)=pq.3/\K8 (RM.D q) q.2 i 86=pq.2/\RM.D (a0z (RM.mk (L4 (RM.D
 q) i) (K8 (RM.D q) (RM.S q) i (TI.size b7G)) (J5 (RM.D q) (RM.F q) i (rz (Env.T (Ctx.E (G9.G X4))) 210))) ib (ic+1) ib (ic+3) tb (tc+1) (T2 i))=RM.D pq)/\True))/\(U2 (q.3 tb T4)=false->∃(pq:RM),a0L q tb tc ib ic (rt2 tb
 tc ib ic pq)/\T3/\True/\(0=0/\0=0/\ts=ts/\q.3=pq.3/\q.2=pq.2/\RM.D q=RM.D pq)/\True))/\∀(j:RM),a0L q tb tc ib ic (rt2 tb tc ib ic j)->∀(i:RM×Bool),(j.1 tb/\tc+0<j.2 tb/\C9 .i64 (j.3 tb (tc+0)))/\(0=0/\
 ((0:Int)<=p9 (j.3 tb (tc+0))/\p9 (j.3 tb (tc+0))<(200:Int)/\p9 (j.3 tb (tc+0))<(1000:Int))/\b7K (RM.mk (RM.D j) j.2 j.3) tb (tc+1) ib ic (Int.toNat (p9 (j.3 tb (tc+0)))))/\true=true/\(a6Q (RM.mk (RM.D j) j.2 j.3)
 tb (tc+1) ib ic (Int.toNat (p9 (j.3 tb (tc+0)))) (i.1) (i.2)->((i.2=true->∀(i_1:RM),(0=0/\okR (RM.mk (RM.D (i.1)) (i.1).2 (i.1).3) tb (tc+1)/\okR (RM.mk (RM.D (i.1)) (i.1).2 (i.1).3) ib ic/\apart tb (tc+1) ib ic)/\(exI (RM.mk
 (RM.D (i.1)) (i.1).2 (i.1).3) tb (tc+1) ib ic 2 2 i_1->∃(pq:RM),a0L q tb tc ib ic (rt5 tb tc pq)/\T3/\True/\(0=0/\0=0/\ts=ts/\i_1.3=pq.3/\i_1.2=pq.2/\RM.D i_1=RM.D pq)/\True))/\(i.2=false->∃(pq:RM),a0L q tb tc
 ib ic (rt5 tb tc pq)/\T3/\True/\(0=0/\0=0/\ts=ts/\(i.1).3=pq.3/\(i.1).2=pq.2/\RM.D (i.1)=RM.D pq)/\True))/\∀(j:RM),a0L q tb tc ib ic (rt5 tb tc j)->((j.1 tb/\tc+1+0<j.2 tb)/\(a2O 207 (j.3 tb T4)/\a1w (T6 j))/\
 (j.1 (ptB (T6 j))/\ptC (T6 j)+0<j.2 (ptB (T6 j))/\C9 .i64 (T10 j))/\((p9 (T10 j)==(17:Int))=true->∀(i:Nat),¬j.1 i->∀(i_1:RM),((0:Int)<=1/\(1:Int)<17)/\(0=0/\spO (T9 j i) tb (tc+1) i 6)/\true=true/\(spP
 (T9 j i) tb (tc+1) i 6 i_1->(i_1.1 tb/\tc+1+5<=i_1.2 tb)/\((0:Int)<=0/\(0:Int)<17)/\((((((i_1.1 i/\6<=i_1.2 i)/\Value.oneCell' (i_1.3 tb (tc+1))=true)/\Value.oneCell' (i_1.3 tb (tc+1+1))=true)/\Value.oneCell' (i_1.3
 tb (tc+1+1+1))=true)/\Value.oneCell' (i_1.3 tb (tc+1+1+1+1))=true)/\Value.oneCell' (i_1.3 tb (tc+1+1+1+1+1))=true)/\true=true/\(i_1.1 i/\1<=i_1.2 i)/\(i_1.1 tb/\tc+1+0+1<=i_1.2 tb)/\∀(i_2:RM),(hangs
 (T5 i i_1) tb (tc+1)/\B3 (T5 i i_1) (T8 i i_1)≠[])/\(rcP (T5 i i_1) tb (tc+1) (T8 i i_1) (List.length (B3 (T5 i i_1) (T8 i i_1))) i_2->(i_2.1 tb/\tc+0<i_2.2 tb/\C9 .i64 (i_2.3 tb (tc+0)))/\(i_2.1 tb/\tc+0+1<=i_2.2 tb)/\
 ∃(pq:RM),a0L q tb tc ib ic (b3s tb tc pq)/\T3/\True/\(0=0/\0=0/\ts=ts/\j7 i_2.3 tb (tc+0) (Value.int .i64 (IntKind.wrap .i64 (p9 (i_2.3 tb (tc+0))+(1:Int))))=pq.3/\i_2.2=pq.2/\RM.D i_2=RM.D pq)/\True)))/\
 ((p9 (T10 j)==(17:Int))=false->∃(pq:RM),a0L q tb tc ib ic (b3s tb tc pq)/\T3/\True/\(0=0/\0=0/\ts=ts/\j.3=pq.3/\j.2=pq.2/\RM.D j=RM.D pq)/\True))/\∀(j:RM),a0L q tb tc ib ic (b3s tb tc j)->(j.1 tb/\tc+6
 < j.2 tb/\C9 .i64 (j.3 tb (tc+6)))/\(j.1 tb/\tc+6+1<=j.2 tb)/\R (Option.some (Ob.mk true 0 (b9.raw ts (RM.D j) j.2 (j7 j.3 tb (tc+6) (Value.int .i64 (IntKind.wrap .i64 (p9 (j.3 tb (tc+6))+(1:Int)))))) 0)) (SV.tup []))):=by subst t1 t2 t3 t4 t5 t6 t7 t8 t9 t10;kernel_rfl
theorem c7U:A5 prog 120 (q7 (RM) ⟨default⟩ b3w):=by
 refine E4 x4 func120 rfl (by kernel_rfl) λargs=>?_
 unfold b3w;split;rotate_left;trivial;rename_i n tb tc n1 ib ic;intro o0;try dsimp only
 split;rotate_left;trivial;rename_i ts q hm0;intro ho;replace ho:n=n1/\(rtO q tb tc ib ic):=ho;obtain⟨heq0,ho⟩:=ho;subst heq0;refine⟨?_,Nat.succ_pos _,ts,λ(i:RM)=>i,λ(i:RM)=>.tup [],λ_=>rfl,?_,_,_,(b8W (K0 1 ts (λ(i:RM)=>rtP q tb tc ib ic i) (λ(i:RM)=>i) (λ(i:RM)=>.tup [])) ts q tb tc ib ic rfl rfl rfl rfl rfl rfl rfl rfl rfl rfl).mpr ?_⟩
 ·refine l9 rfl ⟨λ_=>rfl,?_,⟨trivial,C6 hm0,trivial⟩⟩;simp[y5,z6,z7,z5,nth,a9]
 ·intro i _;rfl
 ·obtain⟨fp,its,it,hpre⟩:=ho;obtain⟨r1,r2,r3,r4⟩:=a9g hpre;simp only[true_and,and_true,eq_self,Int.reduceLE,Int.reduceLT,Int.le_refl];simp only[Nat.add_zero];refine⟨⟨⟨r1,by omega⟩,r3,λhn=>λb=>⟨b9R b hpre,λhb=>?_⟩,λhn=>⟨q,λfp its it h=>c0c h hn,(by and_intros <;> first|trivial|rfl|(rw[j8 (by omega) (by omega)];first|rfl|omega))⟩⟩,?_⟩
  ·simp only[R1 hb,R3 hb];exact⟨a0z (K7 q b) ib (ic+1) ib (ic+3) tb (tc+1) (.iface 207 (.pointer (some ⟨b,0,none⟩))),λfp its it h=>b7U h hb hn,(by and_intros <;> first|trivial|rfl|(rw[j8 (by omega) (by omega)];first|rfl|omega))⟩
  intro q1 h1;obtain⟨h',k,ha,e1,e2,e3,e4,e5,e6,e7⟩:=h1 _ _ _ hpre;have e8:p9 (q1.F tb tc)=(h':Nat):=by rw[e1];rfl
  simp only[e8,tN9];intro i;refine⟨⟨ha.D,by omega,by rw[e1];rfl⟩,⟨⟨by omega,by omega,by omega⟩,⟨k,it,ha⟩⟩,λhP=>⟨?_,?_⟩⟩
  ·obtain⟨g1,g2,g3,g4,g5⟩:=b3p (h1 _ _ _ hpre) e1 hP;refine⟨λhg q3=>⟨⟨g1,g2, .inl (Ne.symm g3)⟩,λhe=>⟨q3,λfp its it h=>(b3p (h1 _ _ _ h) e1 hP).2.2.2.2 q3 he hg,(by and_intros <;> first|trivial|rfl|(rw[j8 (by omega) (by omega)];first|rfl|omega))⟩⟩,λhg=>⟨i.1,λfp its it h=>(b3p (h1 _ _ _ h) e1 hP).2.2.2.1 hg,(by and_intros <;> first|trivial|rfl|(rw[j8 (by omega) (by omega)];first|rfl|omega))⟩⟩
  intro q3 h3;obtain⟨h3',k3,ha3,f1,f2,f3,f4,f5⟩:=h3 _ _ _ hpre;obtain⟨c1,c2,c3,c4,c5,c6,c7⟩:=a6y ha3;obtain⟨x1,x2,x3,x4⟩:=c1.facts;have c8:=c3.S;have c9:=ha3.S;have hx:p9 (q3.F k3.b 0)=(k3.n:Nat):=by rw[c4];rfl
  have hkn:p9 (q3.F (kb (q3.F tb (tc+1))) 0)=(k3.n:Nat):=by rw[c2];exact hx
  simp only[x3,x4,c2,hx];refine⟨⟨⟨ha3.D,by omega⟩,⟨x1,x2⟩,⟨c3.D,by omega,by rw[c4];rfl⟩,λhc=>?_,λhc=>?_⟩,?_⟩
  ·have hc17:k3.n=17:=by
    have:((k3.n:Nat):Int)=17:=by simpa using hc
    omega
   refine λb hb q4=>?_
   simp only[R1 hb,R3 hb];refine⟨b7d ha3 hc17 hb,λhs=>?_⟩;obtain⟨⟨s1,s2,s3,s4,s5⟩,s6,s7,s8,s9⟩:=b1l ha3 hc17 hb hs;have o0:=s5 0 (by omega);have o1:=s5 1 (by omega);have o2:=s5 2 (by omega);have o3:=s5 3 (by omega);have o4:=s5 4 (by omega);refine⟨⟨s1,by omega⟩,⟨⟨⟨⟨⟨⟨s3,by omega⟩,o0⟩,o1⟩,o2⟩,o3⟩,o4⟩,⟨s3,by omega⟩,⟨s1,by omega⟩,λq6=>⟨⟨s6,?_⟩,λhq6=>?_⟩⟩
   ·show B3 (H1 q4 tb tc b) (kb ((H1 q4 tb tc b).F tb (tc+1)))≠[];rw[s7];exact s8
   have hq7:rcP (H1 q4 tb tc b) tb (tc+1) (kb ((H1 q4 tb tc b).F tb (tc+1))) (B3 (H1 q4 tb tc b) (kb ((H1 q4 tb tc b).F tb (tc+1)))).length q6:=hq6;rw[s7]at hq7;obtain⟨t1,t2,t3,t4,_⟩:=s9 q6 hq7;have t5:q6.F tb tc=.int .i64 (h3':Nat):=by rw[t3];exact ha3.hgt
   have t6:p9 (q6.F tb tc)=(h3':Nat):=by rw[t5];rfl
   have t7:IntKind.i64.wrap (((h3':Nat):Int)+1)=((h3'+1:Nat):Int):=by rw[j8 (by omega) (by omega)];rfl
   simp only[t6,t7];refine⟨⟨t1,by omega,by rw[t5];rfl⟩,⟨t1,by omega⟩,_,λfp its it h=>c4c (h3 _ _ _ h) ha3.hgt (by rw[hkn,hc17];rfl) hb hs hq7,(by and_intros <;> first|trivial|rfl|(rw[j8 (by omega) (by omega)];first|rfl|omega))⟩
  ·refine⟨q3,λfp its it h=>b9q (h3 _ _ _ h) λe=>?_,(by and_intros <;> first|trivial|rfl|(rw[j8 (by omega) (by omega)];first|rfl|omega))⟩;rw[hkn]at e;have e:((k3.n:Nat):Int)=17:=e;rw[e]at hc;exact absurd hc (by decide)
  intro q5 h5;obtain⟨g1,g2,g3,g4,g5⟩:=b7W (h5 _ _ _ hpre);have g6:p9 (q5.F tb (tc+6))=(its.length:Nat):=by rw[g3];rfl
  have g7:IntKind.i64.wrap (((its.length:Nat):Int)+1)=((its.length+1:Nat):Int):=by rw[j8 (by omega) (by omega)];rfl
  simp only[g6,g7];refine⟨⟨g1,by omega,by rw[g3];rfl⟩,⟨g1,by omega⟩,⟨⟨q5.D,q5.S,j7 q5.F tb (tc+6) (.int .i64 (its.length+1:Nat))⟩,λfp its2 it2 h=>?_,rfl,trivial⟩⟩;obtain⟨_,_,k3,_,k5⟩:=b7W (h5 _ _ _ h)
  have:its2.length=its.length:=by
   rw[g3]at k3;simp only[Value.int.injEq,true_and,Int.natCast_inj]at k3;exact k3.symm
  rw[this]at k5;exact k5
noncomputable section
theorem isRT.same{q q':RM}{tb tc:Nat}{fp:List Nat}{its:List (Int×Bx)}(h:isRT q tb tc fp its)(hs:∀ c,q.D c->q'.D c/\q'.S c=q.S c/\∀ k,q'.F c k=q.F c k):isRT q' tb tc fp its:=by
 rcases h with⟨h1,h2,h3,h4,h5,h6,h7⟩|⟨h',k,ha,h1,h2,h3,h4,h5⟩
 ·obtain⟨s1,s2,s3⟩:=hs tb h3;exact .inl ⟨h1,h2,s1,by rw[s2];exact h4,by rw[s3];exact h5,by rw[s3];exact h6,by rw[s3];exact h7⟩
 ·obtain⟨s1,s2,s3⟩:=hs tb ha.D;exact .inr ⟨h',k,⟨s1,by rw[s2];exact ha.S,by rw[s3];exact ha.hgt,by rw[s3];exact ha.ref,D8 (λk _=>s3 _) ha.box,ha.tr.same λb hb=>hs b (ha.tr.D b hb),ha.nd,ha.tfp⟩,h1,h2,h3,h4,by rw[s3];exact h5⟩
theorem isRT.D{q:RM}{tb tc:Nat}{fp:List Nat}{its:List (Int×Bx)}(h:isRT q tb tc fp its):q.D tb/\∀ b∈fp,q.D b:=by
 rcases h with⟨h1,h2,h3,h4,h5,h6,h7⟩|⟨h',k,ha,h1,h2,h3,h4,h5⟩
 ·exact⟨h3,by rw[h2];simp⟩
 ·exact⟨ha.D,by rw[h2];exact ha.tr.D⟩
def inP(q:RM)(tb tc mb mc xb xc:Nat)(v:Int)(q':RM):Prop:=∀ fp its,isRT q tb tc fp its->its.length<=100->∃ fp',isRT q' tb tc fp' (its++[(v,⟨zI (q.F mb mc),zI (q.F mb (mc+1)),zI (q.F xb xc),zI (q.F xb (xc+1))⟩)])
def inO(q:RM)(tb tc mb mc l xb xc l1:Nat):Prop:=(l=2/\l1=2)/\a3N q mb mc/\a3N q xb xc/\∃ fp its,isRT q tb tc fp its/\its.length<=100
def GFi:Ctx:=⟨⟨tys,[]⟩,[(119,a3m (q7 Unit ⟨()⟩ a9Q) ())]⟩
theorem gFi:B9 prog GFi:=⟨⟨D6,FlatsOk.nil⟩,l8.cons c4a l8.nil,by kernel_rfl⟩
def X5:G9:=⟨GFi,[(120,q7 RM ⟨default⟩ b3w)],[(177,0)],[],[]⟩
theorem x5:C0 prog X5:=⟨gFi,y9.cons c7U y9.nil⟩
def inM(q:RM)(b mb mc xb xc:Nat)(v:Int):RM:=a0z ⟨L4 q.D b,E5 q.S b 5,D7 q.F b (rz tys 177)⟩ mb mc xb xc b 0 (.iface 3 (.int .i64 v))
theorem b4c{q:RM}{tb tc mb mc l xb xc l1 b:Nat}(ho:inO q tb tc mb mc l xb xc l1)(hb:¬q.D b):a7G ⟨L4 q.D b,E5 q.S b 5,D7 q.F b (rz tys 177)⟩ mb mc l xb xc l1 b 0:=by
 obtain⟨hl,⟨d1,s1,a0,a1⟩,⟨d2,s2,b0,b1⟩,_⟩:=ho;have n1:mb≠b:=λe=>hb (e▸d1)
 have n2:xb≠b:=λe=>hb (e▸d2)
 have f1:∀ c,D7 q.F b (rz tys 177) mb c=q.F mb c:=λc=>by simp only[D7];rw[if_neg n1]
 have f2:∀ c,D7 q.F b (rz tys 177) xb c=q.F xb c:=λc=>by simp only[D7];rw[if_neg n2]
 refine⟨hl,a3N.mk' (.inr d1) ?_ (by show fz (D7 q.F b _ mb mc) _;rw[f1];exact a0) (by show fz (D7 q.F b _ mb (mc+1)) _;rw[f1];exact a1),a3N.mk' (.inr d2) ?_ (by show fz (D7 q.F b _ xb xc) _;rw[f2];exact b0) (by show fz (D7 q.F b _ xb (xc+1)) _;rw[f2];exact b1),⟨n1,n2⟩, .inl rfl,by simp[E5]⟩
 ·show mc+2<=E5 q.S b 5 mb;simp only[E5];rw[if_neg n1];exact s1
 ·show xc+2<=E5 q.S b 5 xb;simp only[E5];rw[if_neg n2];exact s2
theorem b7S{q:RM}{tb tc mb mc l xb xc l1 b:Nat}{v:Int}(ho:inO q tb tc mb mc l xb xc l1)(hb:¬q.D b){fp:List Nat}{its:List (Int×Bx)}(ht:isRT q tb tc fp its)(hl:its.length<=100) :
  a5n (inM q b mb mc xb xc v) tb tc b 0 fp its (v,⟨zI (q.F mb mc),zI (q.F mb (mc+1)),zI (q.F xb xc),zI (q.F xb (xc+1))⟩):=by
 obtain⟨⟨g1,g2,g3⟩,gb,gv⟩:=b1e (v:=.iface 3 (.int .i64 v)) (b4c ho hb);obtain⟨_,⟨d1,_⟩,⟨d2,_⟩,_⟩:=ho;have n1:mb≠b:=λe=>hb (e▸d1)
 have n2:xb≠b:=λe=>hb (e▸d2)
 have f1:∀ c,D7 q.F b (rz tys 177) mb c=q.F mb c:=λc=>by simp only[D7];rw[if_neg n1]
 have f2:∀ c,D7 q.F b (rz tys 177) xb c=q.F xb c:=λc=>by simp only[D7];rw[if_neg n2]
 simp only[f1,f2]at gb;refine⟨ht.same λc hc=>?_,⟨by rw[inM,g1];exact .inl rfl,by rw[inM,g2];simp[E5],gv,gb⟩,λe=>hb (ht.D.2 _ e),λe=>hb (e▸ht.D.1),hl⟩;have hne:c≠b:=λe=>hb (e▸hc)
 refine⟨by rw[inM,g1];exact .inr hc,?_,λk=>?_⟩
 ·rw[inM,g2];simp only[E5];rw[if_neg hne]
 ·rw[inM,g3 c k (λe=>hne e.1)];simp only[D7];rw[if_neg hne]
def a6N:List SV->RRd (RM)
 | [.pb n tb tc, .slb n1 mb mc l k, .slb n2 xb xc l1 k1, .ifc t (.int .i64 v)]=>.read n λo0=>(match J4 o0 with
  | some (ts,q)=>.ret ⟨[.pb 0 tb tc, .slb 0 mb mc l k, .slb 0 xb xc l1 k1, .ifc 3 (.int .i64 v)],[(0,rwO ts q)],some (n=n1/\n=n2/\3=t/\(inO q tb tc mb mc l xb xc l1)),λi=>inP q tb tc mb mc xb xc v i,λi=>⟨[],[], .tup [],[(0,rwO ts (i))],[],none⟩⟩
  | none=>.fail)
 | _=>.fail
theorem b3E(R:Option Ob->SV->Prop)(ts:List Nat)(q:RM)(tb tc mb mc l k xb xc l1 k1:Nat)(v:Int){T1}(t1:T1=λ(i:Nat)=>(RM.mk (RM.D (a0z (RM.mk (L4 (RM.D q) i) (K8 (RM.D q) (RM.S q) i (TI.size b6K)) (J5 (RM.D q) (RM.F q) i (rz (Env.T (Ctx.E (G9.G X5))) 177))) mb mc xb xc i 0 (Value.iface 3 (Value.int .i64 v)))) (K8 (RM.D q) q.2
 i 5) (j7 (j7 (j7 (j7 (j7 (J5 (RM.D q) q.3 i (rz tys 177)) i 1 (J5 (RM.D q) q.3 i (rz tys 177) mb mc)) i 3 (J5 (RM.D q) q.3 i (rz tys 177) xb xc)) i 2 (J5 (RM.D q) q.3 i (rz tys 177) mb (mc+1))) i 4 (J5 (RM.D q) q.3 i (rz
 tys 177) xb (xc+1))) i 0 (Value.iface 3 (Value.int .i64 v))))):O9 X5 1 [] [] (p7 f114) (A8 f114.ntmps [.pb 0 tb tc, .slb 0 mb mc l k, .slb 0 xb xc l1 k1, .ifc 3 (.int .i64 v)] [(0,rwO ts q)] 1) (B5 X5.G.E.T f114.results.toList λS v=>R (Go.Sx.look S.H 0) v)=(
 ∀(i:Nat),¬q.1 i->(0=0/\0=0/\a7G (RM.mk (L4 (RM.D q) i) (K8 (RM.D q) q.2 i 5) (J5 (RM.D q) q.3 i (rz tys 177))) mb mc l xb xc l1 i 0)/\∀(i_1:RM),(0=0/\rtO (T1 i) tb tc i 0)/\(rtP (T1 i) tb tc i 0 i_1->R (Option.some
 (Ob.mk true 0 (b9.raw ts (RM.D i_1) i_1.2 i_1.3) 0)) (SV.tup []))):=by subst t1;kernel_rfl
theorem b9Q:A5 prog 114 (q7 (RM) ⟨default⟩ a6N):=by
 refine E4 x5 func114 rfl (by kernel_rfl) λargs=>?_
 unfold a6N;split;rotate_left;trivial;rename_i n tb tc n1 mb mc l k n2 xb xc l1 k1 t v;intro o0;try dsimp only
 split;rotate_left;trivial;rename_i ts q hm0;intro ho;replace ho:n=n1/\n=n2/\3=t/\(inO q tb tc mb mc l xb xc l1):=ho;obtain⟨heq0,heq1,heq2,ho⟩:=ho;subst heq0;subst heq1;subst heq2;refine⟨?_,Nat.succ_pos _,ts,λ(i:RM)=>i,λ(i:RM)=>.tup [],λ_=>rfl,?_,_,_,(b3E (K0 1 ts (λ(i:RM)=>inP q tb tc mb mc xb xc v i) (λ(i:RM)=>i) (λ(i:RM)=>.tup [])) ts q tb tc mb mc l k xb xc l1 k1 v rfl).mpr ?_⟩
 ·refine l9 rfl ⟨λ_=>rfl,?_,⟨trivial,C6 hm0,trivial⟩⟩;simp[y5,z6,A4,z7,z5,nth,a9]
 ·intro i _;rfl
 ·obtain⟨fp,its,ht,hl⟩:=ho.2.2.2;simp only[true_and,eq_self];intro b hb;simp only[R1 hb,R3 hb];refine⟨b4c ho hb,λq'=>⟨⟨fp,its,_,b7S ho hb ht hl⟩,λhP=>⟨q',λfp2 its2 ht2 hl2=>hP _ _ _ (b7S ho hb ht2 hl2),rfl,trivial⟩⟩⟩
end
end Go.Proofs.Tryz.Sx

namespace Go.Sx
def a4V(o:Ob)(e es:Nat):Bool:=match o.rw with
 | true=>Nat.beq o.elem e&&Nat.beq o.es es
 | false=>false
theorem Z9{σ:Sig}{o:Ob}{e es:Nat}{c':b9}(h:a4V o e es=true)(hc:L9 σ o.c c'):obR σ o ⟨true,e,c',es⟩:=by
 obtain⟨rw,el,c,es'⟩:=o;unfold a4V at h
 cases rw with
 | false=>cases h
 | true =>
  simp only[bA9]at h;exact⟨eB9 h.1,eB9 h.2,hc⟩
end Go.Sx

namespace Go.Proofs.Tryz.Sx
open Go Go.Sx Go.Proofs Go.Fl Go.Geo
set_option maxRecDepth 100000
open Go.IntKind (wrap)
noncomputable section
def nbI(v:Int):Int:=if v<=255 then 1 else if v<=65535 then 2 else 4
def b4L:PF:=fun
 | [.int .u32 v]=>some (.int .u8 (nbI v),none)
 | _=>none
theorem b9T(R:SV->Prop)(v:Int):F7 G0 0 [] [] (p7 f125) (A8 f125.ntmps [.int .u32 v] [] 0) (B5 G0.E.T f125.results.toList λ_ v=>R v)=(
(decide (v<=(255:Int))=true->R (SV.int .u8 (1:Int)))/\(decide (v<=(255:Int))=false->(decide (v<=(65535:Int))=true->R (SV.int .u8 (2:Int)))/\(decide (v<=(65535:Int))=false->R (SV.int .u8 (4:Int))))):=by kernel_rfl
theorem c8a:E1 prog 125 b4L:=by
 refine E9 g0 func125 rfl (by kernel_rfl) ?_;intro args v p h hp;unfold b4L at h;split at h
 ·rename_i v;injection h with h;injection h with h1 h2;subst h1;subst h2
  clear hp;refine⟨rfl,_,_,(b9T _ v).mpr ?_⟩;simp only[eqv,A4];unfold nbI;grind
 ·cases h
theorem a5P(v:Int):wrap .u8 v=v % 256:=rfl
theorem c6C{k:IntKind}{v:Int}{n:Nat}(h:n<=k.bits):shr k v (n:Int)=v / 2 ^ n:=by
 unfold shr;rw[tN9,Nat.min_eq_left h,Int.fdiv_eq_ediv_of_nonneg _ (Int.le_of_lt (Int.pow_pos (by decide)))]
def byI(v:Int)(j:Nat):Int:=v / 256 ^ j % 256
theorem c0u(v:Int):wrap .u8 v=byI v 0:=by rw[a5P];simp[byI]
theorem a2c{k:IntKind}(v:Int)(j n:Nat)(hn:n=8*j)(h:n<=k.bits):wrap .u8 (shr k v (n:Int))=byI v j:=by
 rw[a5P,c6C h,hn,Int.pow_mul];rfl
theorem Z0(v:Int)(j:Nat):0<=byI v j/\byI v j<256:=⟨Int.emod_nonneg _ (by decide),Int.emod_lt_of_pos _ (by decide)⟩
def pB(F:Nat->Nat->Value)(b c:Nat)(v:Int)(j:Nat):Nat->Nat->Value:=j7 F b (c+j) (.int .u8 (byI v j))
def p2R(q:RM)(b c:Nat)(v:Int):RM:=⟨q.D,q.S,pB (pB q.F b c v 0) b c v 1⟩
def p4R(q:RM)(b c:Nat)(v:Int):RM:=⟨q.D,q.S,pB (pB (pB (pB q.F b c v 0) b c v 1) b c v 2) b c v 3⟩
def a8f:List SV->RRd (Unit)
 | [.agg [], .slb n b c l k, .int .u32 v]=>.read n λo0=>(match J4 o0 with
  | some (ts,q)=>.ret ⟨[.agg [], .slb 0 b c l k, .int .u32 v],[(0,rwO ts q)],some (((0<=v/\v<4294967296)/\(4<=l/\q.D b/\c+4<=q.S b)/\C9 .u8 (q.F b (c+3)))),λ_i=>True,λ_i=>⟨[],[], .tup [],[(0,rwO ts (p4R q b c v))],[],none⟩⟩
  | none=>.fail)
 | _=>.fail
theorem b9H(R : Option Ob -> SV -> Prop)(ts : List Nat)(q : RM)(b c l k : Nat)(v : Int) : O9 X0 1 [] [] (p7 f121) (A8 f121.ntmps [.agg [], .slb 0 b c l k, .int .u32 v] [(0, rwO ts q)] 1) (B5 X0.G.E.T f121.results.toList λS v => R (Go.Sx.look S.H 0) v) = (
((0 : Int) <= 3 /\ 3 < (↑l : Int)) /\ (q.1 b /\ c + 3 < q.2 b /\ C9 .u8 (q.3 b (c + 3))) /\ ((0 : Int) <= 0 /\ 0 < (↑l : Int)) /\ (q.1 b /\ c + 0 + 1 <= q.2 b) /\ (0 : Int) <= 8 /\
((0 : Int) <= 1 /\ 1 < (↑l : Int)) /\ (q.1 b /\ c + 1 + 1 <= q.2 b) /\ (0 : Int) <= 16 /\ ((0 : Int) <= 2 /\ 2 < (↑l : Int)) /\ (q.1 b /\ c + 2 + 1 <= q.2 b) /\ (0 : Int) <= 24 /\ ((0 :
 Int) <= (3 : Int) /\ 3 < (↑l : Int)) /\ (q.1 b /\ c + 3 + 1 <= q.2 b) /\ R (Option.some (Ob.mk true 0 (b9.raw ts (RM.D q) q.2 (j7 (j7 (j7 (j7 q.3 b (c + 0)
(Value.int .u8 (wrap .u8 v))) b (c + 1) (Value.int .u8 (wrap .u8 (shr IntKind.u32 v (8 : Int))))) b (c + 2) (Value.int .u8 (wrap .u8 (shr IntKind.u32 v (16 : Int))))) b (c +
3) (Value.int .u8 (wrap .u8 (shr IntKind.u32 v (24 : Int)))))) 0)) (SV.tup [])) := by kernel_rfl
theorem c1b:A5 prog 121 (q7 (Unit) ⟨()⟩ a8f):=by
 refine E4 x0 func121 rfl (by kernel_rfl) λargs=>?_
 unfold a8f;split;rotate_left;trivial;rename_i n b c l k v;intro o0;try dsimp only
 split;rotate_left;trivial;rename_i ts q hm0;intro ho;replace ho:((0<=v/\v<4294967296)/\(4<=l/\q.D b/\c+4<=q.S b)/\C9 .u8 (q.F b (c+3))):=ho;refine⟨?_,Nat.succ_pos _,ts,λ(_i:Unit)=>p4R q b c v,λ(_i:Unit)=>.tup [],λ_=>rfl,?_,_,_,(b9H (K0 1 ts (λ(_i:Unit)=>True) (λ(_i:Unit)=>p4R q b c v) (λ(_i:Unit)=>.tup [])) ts q b c l k v).mpr ?_⟩
 ·refine l9 rfl ⟨λ_=>rfl,?_,⟨trivial,C6 hm0,trivial⟩⟩;simp[y5,z6,A4,z7,z5,nth,a9]
 ·intro _i _;rfl
 ·obtain⟨⟨v0,v1⟩,⟨hl,hD,hS⟩,hi⟩:=ho;have b1:wrap .u8 (shr .u32 v 8)=byI v 1:=a2c (k:=.u32) v 1 8 rfl (by decide);have b2:wrap .u8 (shr .u32 v 16)=byI v 2:=a2c (k:=.u32) v 2 16 rfl (by decide);have b3:wrap .u8 (shr .u32 v 24)=byI v 3:=a2c (k:=.u32) v 3 24 rfl (by decide);simp only[c0u v,b1,b2,b3];simp only[true_and,Int.reduceLE,Int.le_refl]
  and_intros
  all_goals first|omega|exact hD|exact hi|exact⟨(),trivial,rfl,trivial⟩
def b8l:List SV->RRd (Unit)
 | [.agg [], .slb n b c l k, .int .u16 v]=>.read n λo0=>(match J4 o0 with
  | some (ts,q)=>.ret ⟨[.agg [], .slb 0 b c l k, .int .u16 v],[(0,rwO ts q)],some (((0<=v/\v<65536)/\(2<=l/\q.D b/\c+2<=q.S b)/\C9 .u8 (q.F b (c+1)))),λ_i=>True,λ_i=>⟨[],[], .tup [],[(0,rwO ts (p2R q b c v))],[],none⟩⟩
  | none=>.fail)
 | _=>.fail
theorem b9L(R:Option Ob->SV->Prop)(ts:List Nat)(q:RM)(b c l k:Nat)(v:Int):O9 X0 1 [] [] (p7 f132) (A8 f132.ntmps [.agg [], .slb 0 b c l k, .int .u16 v] [(0,rwO ts q)] 1) (B5 X0.G.E.T f132.results.toList λS v=>R (Go.Sx.look S.H 0) v)=(
((0:Int)<=1/\1<(↑l:Int))/\(q.1 b/\c+1<q.2 b/\C9 .u8 (q.3 b (c+1)))/\((0:Int)<=0/\0<(↑l:Int))/\(q.1 b/\c+0+1<=q.2 b)/\(0:Int)<=8/\
((0:Int)<=1/\1<(↑l:Int))/\(q.1 b/\c+1+1<=q.2 b)/\R (Option.some (Ob.mk true 0 (b9.raw ts (RM.D q) q.2 (j7 (j7 q.3 b (c+0) (Value.int .u8
(wrap .u8 v))) b (c+1) (Value.int .u8 (wrap .u8 (shr IntKind.u16 v (8:Int)))))) 0)) (SV.tup [])):=by kernel_rfl
theorem c8R:A5 prog 132 (q7 (Unit) ⟨()⟩ b8l):=by
 refine E4 x0 func132 rfl (by kernel_rfl) λargs=>?_
 unfold b8l;split;rotate_left;trivial;rename_i n b c l k v;intro o0;try dsimp only
 split;rotate_left;trivial;rename_i ts q hm0;intro ho;replace ho:((0<=v/\v<65536)/\(2<=l/\q.D b/\c+2<=q.S b)/\C9 .u8 (q.F b (c+1))):=ho;refine⟨?_,Nat.succ_pos _,ts,λ(_i:Unit)=>p2R q b c v,λ(_i:Unit)=>.tup [],λ_=>rfl,?_,_,_,(b9L (K0 1 ts (λ(_i:Unit)=>True) (λ(_i:Unit)=>p2R q b c v) (λ(_i:Unit)=>.tup [])) ts q b c l k v).mpr ?_⟩
 ·refine l9 rfl ⟨λ_=>rfl,?_,⟨trivial,C6 hm0,trivial⟩⟩;simp[y5,z6,A4,z7,z5,nth,a9]
 ·intro _i _;rfl
 ·obtain⟨⟨v0,v1⟩,⟨hl,hD,hS⟩,hi⟩:=ho;have b1:wrap .u8 (shr .u16 v 8)=byI v 1:=a2c (k:=.u16) v 1 8 rfl (by decide);simp only[c0u v,b1];simp only[true_and,Int.reduceLE,Int.le_refl]
  and_intros
  all_goals first|omega|exact hD|exact hi|exact⟨(),trivial,rfl,trivial⟩
def b7k:List SV->RdM
 | [.agg [], .slc n 0 8 8, .int .u64 x]=>.read n λo0=>(match a4V o0 221 0 with
  | true=>(match y6 .u8 o0.c with
  | some (m0,g)=>.ret ⟨[.agg [], .slc 0 0 8 8, .int .u64 x],[(0,⟨true,221, .ints .u8 m0 g,0⟩)], .tup [],[(0,⟨true,221, .ints .u8 8 (byI x),0⟩)],[],some (m0=8/\0<=x/\x<18446744073709551616)⟩
  | none=>.fail)
  | false=>.fail)
 | _=>.fail
theorem b9C(x:Int)(g:Nat->Int){w9:HC}(e9:w9=⟨[.agg [], .slc 0 0 8 8, .int .u64 x],[(0,⟨true,221, .ints .u8 (8) g,0⟩)], .tup [],[(0,⟨true,221, .ints .u8 8 (byI x),0⟩)],[],some (8=8/\0<=x/\x<18446744073709551616)⟩){T1}(t1:T1=(((0:Int)<=7/\(7:Int)<8)/\1<=
 8)):F7 G0 1 [] [] (p7 f136) (A8 f136.ntmps w9.args w9.heap 1) (B5 G0.E.T f136.results.toList λS v=>C8 1 w9 S v)=(
 T1/\8<=8/\(((0:Int)<=0/\(0:Int)<8)/\1<=8)/\1<=8/\(0:Int)<=8/\(((0:Int)<=1/\(1:Int)<8)/\1<=8)/\2<=8/\(0:Int)<=16/\(((0:Int)<=2/\(2:Int)<8)/\1<=8)/\3<=8/\(0:Int)<=24/\(((0:Int)<=3/\(3:Int) <
 8)/\1<=8)/\4<=8/\(0:Int)<=32/\(((0:Int)<=4/\(4:Int)<8)/\1<=8)/\5<=8/\(0:Int)<=40/\(((0:Int)<=5/\(5:Int)<8)/\1<=8)/\6<=8/\(0:Int)<=48/\(((0:Int)<=6/\(6:Int)<8)/\1<=8)/\7<=8/\(0:Int)<=56/\T1/\
 8<=8/\True/\True/\(221=221/\0=0/\8<=8/\∀(i:Nat),i<8->upd (upd (upd (upd (upd (upd (upd (upd g 0 (wrap .u8 x)) 1 (wrap .u8 (shr IntKind.u64 x (8:Int)))) 2 (wrap .u8 (shr IntKind.u64 x (16:Int)))) 3
 (wrap .u8 (shr IntKind.u64 x (24:Int)))) 4 (wrap .u8 (shr IntKind.u64 x (32:Int)))) 5 (wrap .u8 (shr IntKind.u64 x (40:Int)))) 6 (wrap .u8 (shr IntKind.u64 x (48:Int)))) 7 (wrap .u8 (shr IntKind.u64 x
 (56:Int))) i=byI x i)/\True):=by subst e9 t1;kernel_rfl
theorem c9V:A9 prog 136 (A7 b7k):=by
 refine y7 g0 func136 rfl (by kernel_rfl) λargs=>?_
 unfold b7k;split;rotate_left;trivial;rename_i n x;intro o0;try dsimp only
 split;rotate_left;trivial;rename_i hrw0;try dsimp only
 split;rotate_left;trivial;rename_i m0 g hm0;intro ho;replace ho:m0=8/\0<=x/\x<18446744073709551616:=ho;obtain⟨hsz0,ho⟩:=ho;subst hsz0;refine⟨?_,_,_,(b9C x g rfl rfl).mpr ?_⟩
 ·refine l9 rfl ⟨?_,⟨trivial,Z9 hrw0 ((q9 hm0).1),trivial⟩⟩;simp[y5,z6,A4,z7,z5,nth,a9]
 ·have b1:wrap .u8 (shr .u64 x 8)=byI x 1:=a2c (k:=.u64) x 1 8 rfl (by decide);have b2:wrap .u8 (shr .u64 x 16)=byI x 2:=a2c (k:=.u64) x 2 16 rfl (by decide);have b3:wrap .u8 (shr .u64 x 24)=byI x 3:=a2c (k:=.u64) x 3 24 rfl (by decide);have b4:wrap .u8 (shr .u64 x 32)=byI x 4:=a2c (k:=.u64) x 4 32 rfl (by decide);have b5:wrap .u8 (shr .u64 x 40)=byI x 5:=a2c (k:=.u64) x 5 40 rfl (by decide);have b6:wrap .u8 (shr .u64 x 48)=byI x 6:=a2c (k:=.u64) x 6 48 rfl (by decide)
  have b7:wrap .u8 (shr .u64 x 56)=byI x 7:=a2c (k:=.u64) x 7 56 rfl (by decide);simp only[c0u x,b1,b2,b3,b4,b5,b6,b7]
  and_intros
  all_goals first|omega|trivial|decide|skip
  intro i hi
  match i,hi with
  | 0,_=>rfl
  | 1,_=>rfl
  | 2,_=>rfl
  | 3,_=>rfl
  | 4,_=>rfl
  | 5,_=>rfl
  | 6,_=>rfl
  | 7,_=>rfl
end
def I0(v:Value):Prop:=v=.int .u8 (p9 v)/\0<=p9 v/\p9 v<256
theorem I0.mk'{x:Int}(h:0<=x/\x<256):I0 (.int .u8 x):=⟨rfl,h.1,h.2⟩
theorem I0.i{v:Value}(h:I0 v):C9 .u8 v:=h.1
structure byO (q:RM) (b c l k:Nat):Prop where
 D:q.D b
 le:l<=k
 S:c+k<=q.S b
 is:∀ j,j<l->I0 (q.F b (c+j))
structure DI where
 q:RM
 b:Nat
 c:Nat
 l:Nat
 k:Nat
instance:Inhabited DI:=⟨⟨default,0,0,0,0⟩⟩
structure apd (q:RM) (b c l:Nat) (us:List Int) (i:DI):Prop where
 o:byO i.q i.b i.c i.l i.k
 n:i.l=l+us.length
 old:∀ j,j<l->i.q.F i.b (i.c+j)=q.F b (c+j)
 new:∀ j x,us[j]? = some x->i.q.F i.b (i.c+(l+j))=.int .u8 x
 keep:∀ x,q.D x->i.q.D x/\i.q.S x=q.S x/\(x≠b->∀ y,i.q.F x y=q.F x y)
 nw:i.b=b∨¬q.D i.b
theorem apd.trans{q:RM}{b c l:Nat}{us us':List Int}{i i':DI}(h:apd q b c l us i)(h':apd i.q i.b i.c i.l us' i'):apd q b c l (us++us') i' where
 o:=h'.o
 n:=by rw[h'.n,h.n,List.length_append];omega
 old:=λj hj=>by rw[h'.old j (by rw[h.n];omega),h.old j hj]
 new:=λj x hx=>by
  have hn:=h.n;by_cases hc:j<us.length
  ·rw[List.getElem?_append_left hc]at hx;rw[h'.old (l+j) (by omega)];exact h.new j x hx
  ·rw[List.getElem?_append_right (by omega)]at hx;have:=h'.new _ x hx;rw[hn]at this;rw[show l+j=l+us.length+(j-us.length) by omega];exact this
 keep:=λx hx=>by
  obtain⟨h1,h2,h3⟩:=h.keep x hx;obtain⟨h4,h5,h6⟩:=h'.keep x h1;refine⟨h4,h5.trans h2,λhne y=>?_⟩
  have hxb:x≠i.b:=λe=>by
   rcases h.nw with e2|e2
   ·exact hne (e.trans e2)
   ·exact e2 (e▸hx)
  rw[h6 hxb y,h3 hne y]
 nw:=by
  rcases h'.nw with e|e
  ·rcases h.nw with e2|e2
   ·exact .inl (e.trans e2)
   ·exact .inr (e▸e2)
  ·exact .inr λhx=>e (h.keep _ hx).1
theorem K5{q:RM}{b c l k m:Nat}(hO:byO q b c l k){us:List Int}(hm:m=us.length)(hu:∀ x∈us,0<=x/\x<256){vs:List Value}(hv:vs=us.map (Value.int .u8)){i:ApI}(hp:R0 q.D q.S q.F 1 b c l k m vs i) :
  apd q b c l us ⟨⟨i.D,i.S,i.F⟩,i.b,i.c,l+m,i.k⟩:=by
 subst hm hv
 have hget:∀ j,j<us.length->(us.map (Value.int .u8)).getD j (.bool false)=.int .u8 (us.getD j 0):=λj hj=>by
  simp[List.getD_eq_getElem?_getD,List.getElem?_eq_getElem hj]
 have hby:∀ j,j<us.length->0<=us.getD j 0/\us.getD j 0<256:=λj hj=>by
  rw[List.getD_eq_getElem?_getD,List.getElem?_eq_getElem hj,Option.getD_some];exact hu _ (List.getElem_mem hj)
 have main:∀(D':Nat->Prop)(S':Nat->Nat)(F':Nat->Nat->Value)(b' c' k':Nat),(∀ j,j<l->F' b' (c'+j)=q.F b (c+j))->(∀ j,j<us.length->F' b' (c'+(l+j))=.int .u8 (us.getD j 0))->D' b'->l+us.length<=k'->c'+k'<=S' b'->
   (∀ x,q.D x->D' x/\S' x=q.S x/\(x≠b->∀ y,F' x y=q.F x y))->(b'=b∨¬q.D b')->apd q b c l us ⟨⟨D',S',F'⟩,b',c',l+us.length,k'⟩:=by
  intro D' S' F' b' c' k' m1 m2 m3 m4 m5 m6 m7;refine⟨⟨m3,m4,m5,λj hj=>?_⟩,rfl,m1,λj x hx=>?_,m6,m7⟩
  ·have hj:j<l+us.length:=hj;show I0 (F' b' (c'+j));by_cases hc:j<l
   ·rw[m1 j hc];exact hO.is j hc
   ·have:=m2 (j-l) (by omega);rw[show l+(j-l)=j by omega]at this;rw[this];exact I0.mk' (hby _ (by omega))
  ·obtain⟨h1,h2⟩:=List.getElem?_eq_some_iff.1 hx;refine(m2 j h1).trans ?_;rw[List.getD_eq_getElem?_getD,hx];rfl
 have hS:=hO.S;rcases hp with⟨h1,h2,h3,h4,h5,h6,h7⟩|⟨h1,h2,h3,h4,h5,h6,h7,z,h8⟩
 ·rw[h2,h3,h4,h5,h6,h7];simp only[Nat.mul_one];refine main _ _ _ _ _ _ (λj hj=>a0R (by omega)) (λj hj=>?_) hO.D h1 hS (λx hx=>⟨hx,rfl,λhne y=>a0R (.inl hne)⟩) (.inl rfl);rw[a3S,if_pos ⟨rfl,by omega,by simp;omega⟩,show c+(l+j)-(c+l)=j by omega];exact hget j hj
 ·rw[h3,h6,h7,h8];simp only[Nat.mul_one];refine main _ _ _ _ _ _ (λj hj=>?_) (λj hj=>?_) (.inl rfl) h4 (by simp[E5]) (λx hx=>?_) (.inr h2)
  ·simp only[D7,if_true,a5C];rw[if_pos (by omega)];congr 1;omega
  ·simp only[D7,if_true,a5C];rw[if_neg (by omega),if_pos (by simp;omega),show 0+(l+j)-l=j by omega];exact hget j hj
  ·have hne:x≠i.b:=λe=>h2 (e▸hx)
   exact⟨.inr hx,by simp only[E5];rw[if_neg hne],λ_ y=>by simp only[D7];rw[if_neg hne]⟩
theorem L7{q:RM}{b c l k m:Nat}(hO:byO q b c l k)(hl:l<=1000000000)(hm:m<=1000):appO q.D q.S 1 1 b c l k m:=by
 have h1:=hO.le;have h2:=hO.S;exact⟨λh=>⟨hO.D,by omega⟩,λh=>⟨hO.D,by omega⟩,by omega,by simp only[maxLen];omega⟩
theorem apd.put{q:RM}{b c l:Nat}{us us':List Int}{i:DI}(h:apd q b c l us i)(hlen:us'.length=us.length)(hu:∀ x∈us',0<=x/\x<256){q':RM}(hD:q'.D=i.q.D)(hS:q'.S=i.q.S)
  (hF:∀ x y,(x≠i.b∨y<i.c+l∨i.c+l+us.length<=y)->q'.F x y=i.q.F x y) (hN:∀ j x,us'[j]? = some x->q'.F i.b (i.c+(l+j))=.int .u8 x):apd q b c l us' ⟨q',i.b,i.c,i.l,i.k⟩ where
 o:=by
  refine⟨by rw[hD];exact h.o.D,h.o.le,by rw[hS];exact h.o.S,λj hj=>?_⟩;have hj:j<i.l:=hj;have hn:=h.n;show I0 (q'.F i.b (i.c+j));by_cases hc:j<l
  ·rw[hF _ _ (by omega)];exact h.o.is j hj
  ·have hlt:j-l<us'.length:=by omega
   have:=hN (j-l) _ (List.getElem?_eq_getElem hlt);rw[show l+(j-l)=j by omega]at this;rw[this];exact I0.mk' (hu _ (List.getElem_mem hlt))
 n:=by rw[hlen];exact h.n
 old:=λj hj=>by
  show q'.F i.b (i.c+j)=_;rw[hF _ _ (by omega)];exact h.old j hj
 new:=hN
 keep:=λx hx=>by
  obtain⟨h1,h2,h3⟩:=h.keep x hx;refine⟨by show q'.D x;rw[hD];exact h1,by show q'.S x=_;rw[hS];exact h2,λhne y=>?_⟩
  have hxb:x≠i.b:=λe=>by
   rcases h.nw with e2|e2
   ·exact hne (e.trans e2)
   ·exact e2 (e▸hx)
  show q'.F x y=_;rw[hF _ _ (.inl hxb)];exact h3 hne y
 nw:=h.nw
def byL(v:Int)(n:Nat):List Int:=(List.range n).map (byI v)
theorem a2H(v:Int)(n:Nat):∀ x∈byL v n,0<=x/\x<256:=λx hx=>by
 obtain⟨j,_,rfl⟩:=List.mem_map.1 hx;exact Z0 v j
theorem G4(v:Int)(n:Nat):(byL v n).length=n:=by simp[byL]
theorem b4W{v:Int}{n j:Nat}{x:Int}(h:(byL v n)[j]? = some x):j<n/\x=byI v j:=by
 obtain⟨h1,h2⟩:=List.getElem?_eq_some_iff.1 h;rw[G4]at h1;exact⟨h1,by rw[<-h2];simp[byL]⟩
open Int (toNat)
open Go.IntKind (wrap)
noncomputable section
def X6:G9:=⟨G0,[(121,q7 Unit ⟨()⟩ a8f),(132,q7 Unit ⟨()⟩ b8l)],[],[],[(185,0)]⟩
theorem x6:C0 prog X6:=⟨g0,y9.cons c1b (y9.cons c8R y9.nil)⟩
theorem c3D{q:RM}{b c l:Nat}{i:DI}{v:Int}(h:apd q b c l [0,0] i){t:Nat}(ht:t=l):apd q b c l (byL v 2) ⟨p2R i.q i.b (i.c+t) (wrap .u16 v),i.b,i.c,i.l,i.k⟩:=by
 subst ht;refine h.put (us':=byL v 2) rfl (a2H _ _) rfl rfl (λx y hxy=>?_) λj x hx=>?_
 ·simp only[List.length_cons,List.length_nil]at hxy;show pB _ _ _ _ _ x y=_;unfold pB;rw[g8 (by omega),g8 (by omega)]
 ·obtain⟨hj,rfl⟩:=b4W hx
  have e:∀ j,j<2->byI (wrap .u16 v) j=byI v j:=λj hj=>by
   have hw:wrap .u16 v=v % 65536:=rfl;rw[hw]
   match j,hj with
   | 0,_=>simp only[byI,Int.pow_zero,Int.ediv_one];omega
   | 1,_=>simp only[byI,Int.pow_one];omega
  show pB _ _ _ _ _ i.b _=_;unfold pB
  match j,hj with
  | 0,_=>rw[g8 (by omega),e 0 (by omega)];exact A6
  | 1,_=>rw[e 1 (by omega),Nat.add_assoc];exact A6
theorem c3J{q:RM}{b c l:Nat}{i:DI}{v:Int}(h:apd q b c l [0,0,0,0] i){t:Nat}(ht:t=l):apd q b c l (byL v 4) ⟨p4R i.q i.b (i.c+t) v,i.b,i.c,i.l,i.k⟩:=by
 subst ht;refine h.put (us':=byL v 4) rfl (a2H _ _) rfl rfl (λx y hxy=>?_) λj x hx=>?_
 ·simp only[List.length_cons,List.length_nil]at hxy;show pB _ _ _ _ _ x y=_;unfold pB;rw[g8 (by omega),g8 (by omega),g8 (by omega),g8 (by omega)]
 ·obtain⟨hj,rfl⟩:=b4W hx;show pB _ _ _ _ _ i.b _=_;unfold pB
  match j,hj with
  | 0,_=>rw[g8 (by omega),g8 (by omega),g8 (by omega)];exact A6
  | 1,_=>rw[g8 (by omega),g8 (by omega),Nat.add_assoc];exact A6
  | 2,_=>rw[g8 (by omega),Nat.add_assoc];exact A6
  | 3,_=>rw[Nat.add_assoc];exact A6
def a5V:List SV->RRd (DI)
 | [.slb n b c l k, .int .u32 v, .int .u8 w]=>.read n λo0=>(match J4 o0 with
  | some (ts,q)=>.ret ⟨[.slb 0 b c l k, .int .u32 v, .int .u8 w],[(0,rwO ts q)],some (((byO q b c l k/\l<=1000000000)/\(0<=v/\v<4294967296)/\(w=1∨w=2∨w=4))),λi=>apd q b c l (byL v w.toNat) i,λi=>⟨[],[], .slb 0 i.b i.c i.l i.k,[(0,rwO ts (i.q))],[],none⟩⟩
  | none=>.fail)
 | _=>.fail
theorem b5h(R:Option Ob->SV->Prop)(ts:List Nat)(q:RM)(b c l k:Nat)(v w:Int){T1}(t1:T1=(wrap .i64 ((↑(l+4):Int)-4))){T2}(t2:T2=(wrap .i64 ((↑(l+2):Int)-2))){T3}(t3:T3=(wrap IntKind.u16 v)):O9 X6 1 [] [] (p7 f126) (A8 f126.ntmps [.slb 0 b c l k, .int .u32 v, .int .u8 w] [(0,rwO ts q)] 1) (B5 X6.G.E.T f126.results.toList λS v=>R (Go.Sx.look S.H 0) v)=(
 ((w==(1:Int))=true->∀(i:ApI),appO (RM.D q) q.2 1 1 b c l k 1/\(R0 (RM.D q) q.2 q.3 1 b c l k 1 [Value.int .u8 (wrap .u8 v)] i->R (Option.some (Ob.mk true 0 (b9.raw ts (ApI.D i) i.5 i.6) 0)) (SV.slb 0 i.1 i.2 (l+1) i.3)))/\
 ((w==(1:Int))=false->((w==(2:Int))=true->∀(i:ApI),appO (RM.D q) q.2 1 1 b c l k 2/\(R0 (RM.D q) q.2 q.3 1 b c l k 2 [Value.int .u8 (0:Int),Value.int .u8 (0:Int)] i->∀(_:Unit),((0:Int)<=wrap .i64 ((↑(l+2) :
 Int)-2)/\toNat T2<=l+2/\toNat T2<i.3)/\(((0:Int)<=wrap IntKind.u16 v/\wrap IntKind.u16 v<(65536:Int))/\(2<=l+2-toNat T2/\i.4 i.1/\i.2+toNat T2*1+2<=i.5 i.1)/\C9 .u8 (i.6 i.1 (i.2 +
 toNat T2*1+1)))/\true=true/\(True->R (Option.some (Ob.mk true 0 (b9.raw ts (RM.D (p2R (RM.mk (ApI.D i) (ApI.S i) (ApI.F i)) (ApI.b i) (ApI.c i+toNat T2*TI.size ty5) T3)) i.5 (pB (pB i.6 i.1 (i.2+toNat T2*1) T3 0) i.1
 (i.2+toNat T2*1) T3 1)) 0)) (SV.slb 0 i.1 i.2 (l+2) i.3))))/\((w==(2:Int))=false->∀(i:ApI),appO (RM.D q) q.2 1 1 b c l k 4/\(R0 (RM.D q) q.2 q.3 1 b c l k 4 [Value.int .u8 (0:Int),Value.int .u8 (0:Int),Value.int .u8 (0
 : Int),Value.int .u8 (0:Int)] i->∀(_:Unit),((0:Int)<=wrap .i64 ((↑(l+4):Int)-4)/\toNat T1<=l+4/\toNat T1<i.3)/\(((0:Int)<=v/\v<(4294967296:Int))/\(4<=l+4-toNat T1/\i.4 i.1/\i.2+toNat
 T1*1+4<=i.5 i.1)/\C9 .u8 (i.6 i.1 (i.2+toNat T1*1+3)))/\true=true/\(True->R (Option.some (Ob.mk true 0 (b9.raw ts (RM.D (p4R (RM.mk (ApI.D i) (ApI.S i) (ApI.F i)) (ApI.b i) (ApI.c i+toNat T1*TI.size ty5) v)) i.5 (pB
 (pB (pB (pB i.6 i.1 (i.2+toNat T1*1) v 0) i.1 (i.2+toNat T1*1) v 1) i.1 (i.2+toNat T1*1) v 2) i.1 (i.2+toNat (wrap .i64 ((↑(l+4):Int)-(4:Int)))*1) v 3)) 0)) (SV.slb 0 i.1 i.2 (l+4) i.3)))))):=by subst t1 t2 t3;kernel_rfl
theorem b6G:A5 prog 126 (q7 (DI) ⟨default⟩ a5V):=by
 refine E4 x6 func126 rfl (by kernel_rfl) λargs=>?_
 unfold a5V;split;rotate_left;trivial;rename_i n b c l k v w;intro o0;try dsimp only
 split;rotate_left;trivial;rename_i ts q hm0;intro ho;replace ho:((byO q b c l k/\l<=1000000000)/\(0<=v/\v<4294967296)/\(w=1∨w=2∨w=4)):=ho;refine⟨?_,Nat.succ_pos _,ts,λ(i:DI)=>i.q,λ(i:DI)=>.slb 0 i.b i.c i.l i.k,λ_=>rfl,?_,_,_,(b5h (K0 1 ts (λ(i:DI)=>apd q b c l (byL v w.toNat) i) (λ(i:DI)=>i.q) (λ(i:DI)=>.slb 0 i.b i.c i.l i.k)) ts q b c l k v w rfl rfl rfl).mpr ?_⟩
 ·refine l9 rfl ⟨λ_=>rfl,?_,⟨trivial,C6 hm0,trivial⟩⟩;simp[y5,z6,A4,z7,z5,nth,a9]
 ·intro i _;rfl
 ·obtain⟨⟨hO,hl⟩,hv,hw⟩:=ho;simp only[true_and,eq_self,Nat.mul_one,true_implies];refine⟨λh1=>?_,λh1=>⟨λh2=>?_,λh2=>?_⟩⟩
  ·have h1:w=1:=by simpa using h1
   subst h1;refine λi=>⟨L7 hO hl (by omega),λhp=>⟨⟨⟨i.D,i.S,i.F⟩,i.b,i.c,l+1,i.k⟩,?_,rfl,⟨trivial,rfl,rfl,rfl,rfl⟩⟩⟩
   refine K5 hO rfl (a2H _ _) ?_ hp;show _=[Value.int .u8 (byI v 0)];rw[c0u]
  ·have h2:w=2:=by simpa using h2
   subst h2;intro i;refine⟨L7 hO hl (by omega),λhp=>?_⟩;have ha:=K5 hO (us:=[0,0]) rfl (by decide) rfl hp;have hw2:IntKind.i64.wrap (((l+2:Nat):Int)-2)=((l:Nat):Int):=by rw[j8 (by omega) (by omega)];omega
   have hk:l+2<=i.k:=ha.o.le;have hS:i.c+i.k<=i.S i.b:=ha.o.S;have hD:i.D i.b:=ha.o.D;have hby:=ha.o.is (l+1) (by show l+1<l+2;omega);have hr:(0:Int)<=wrap .u16 v/\wrap .u16 v<65536:=⟨Int.emod_nonneg _ (by decide),Int.emod_lt_of_pos _ (by decide)⟩;simp only[hw2,tN9,hr,hD,true_and,and_true];intro _
   and_intros
   all_goals first|omega|exact hby.i|exact⟨⟨_,_,_,_,_⟩,c3D ha rfl,rfl,⟨trivial,rfl,rfl,rfl,rfl⟩⟩
  ·have h3:w=4:=by
    rcases hw with rfl|rfl|rfl
    ·exact absurd h1 (by decide)
    ·exact absurd h2 (by decide)
    ·rfl
   subst h3;intro i;refine⟨L7 hO hl (by omega),λhp=>?_⟩;have ha:=K5 hO (us:=[0,0,0,0]) rfl (by decide) rfl hp;have hw2:IntKind.i64.wrap (((l+4:Nat):Int)-4)=((l:Nat):Int):=by rw[j8 (by omega) (by omega)];omega
   have hk:l+4<=i.k:=ha.o.le;have hS:i.c+i.k<=i.S i.b:=ha.o.S;have hD:i.D i.b:=ha.o.D;have hby:=ha.o.is (l+3) (by show l+3<l+4;omega);simp only[hw2,tN9,hD,true_and];intro _
   and_intros
   all_goals first|omega|exact hby.i|exact⟨⟨_,_,_,_,_⟩,c3J ha rfl,rfl,⟨trivial,rfl,rfl,rfl,rfl⟩⟩
def GB:Ctx:=⟨⟨tys,[]⟩,[(110,z3 b1g),(136,A7 b7k)]⟩
theorem gB:B9 prog GB:=⟨⟨D6,FlatsOk.nil⟩,l8.cons (.pure bits) (l8.cons c9V l8.nil),by kernel_rfl⟩
def X7:G9:=⟨GB,[],[],[],[(185,0)]⟩
theorem x7:C0 prog X7:=⟨gB,y9.nil⟩
def a9w:List SV->RRd (DI)
 | [.slb n b c l k, .flt .f64 x]=>.read n λo0=>(match J4 o0 with
  | some (ts,q)=>.ret ⟨[.slb 0 b c l k, .flt .f64 x],[(0,rwO ts q)],some (((byO q b c l k/\l<=1000000000)/\x<18446744073709551616)),λi=>apd q b c l (byL (x:Int) 8) i,λi=>⟨[],[], .slb 0 i.b i.c i.l i.k,[(0,rwO ts (i.q))],[],none⟩⟩
  | none=>.fail)
 | _=>.fail
theorem b5L(R:Option Ob->SV->Prop)(ts:List Nat)(q:RM)(b c l k:Nat)(x:Nat){T1}(t1:T1=(↑x:Int)):O9 X7 1 [] [] (p7 f131) (A8 f131.ntmps [.slb 0 b c l k, .flt .f64 x] [(0,rwO ts q)] 1) (B5 X7.G.E.T f131.results.toList λS v=>R (Go.Sx.look S.H 0) v)=(
 (8=8/\0<=T1/\T1<18446744073709551616)/\true=true/\0<8/\∀(i:ApI),(8<=8/\appO (RM.D q) q.2 1 1 b c l k 8)/\(R0 (RM.D q) q.2 q.3 1 b c l k 8 [Value.int .u8 (byI T1 0),Value.int .u8 (byI T1 1),Value.int .u8 (byI T1 2),Value.int
 .u8 (byI T1 3),Value.int .u8 (byI T1 4),Value.int .u8 (byI T1 5),Value.int .u8 (byI T1 6),Value.int .u8 (byI T1 7)] i->R (Option.some (Ob.mk true 0 (b9.raw ts (ApI.D i) i.5 i.6) 0)) (SV.slb 0 i.1 i.2 (l+8) i.3))):=by subst t1;kernel_rfl
theorem c4z:A5 prog 131 (q7 (DI) ⟨default⟩ a9w):=by
 refine E4 x7 func131 rfl (by kernel_rfl) λargs=>?_
 unfold a9w;split;rotate_left;trivial;rename_i n b c l k x;intro o0;try dsimp only
 split;rotate_left;trivial;rename_i ts q hm0;intro ho;replace ho:((byO q b c l k/\l<=1000000000)/\x<18446744073709551616):=ho;refine⟨?_,Nat.succ_pos _,ts,λ(i:DI)=>i.q,λ(i:DI)=>.slb 0 i.b i.c i.l i.k,λ_=>rfl,?_,_,_,(b5L (K0 1 ts (λ(i:DI)=>apd q b c l (byL (x:Int) 8) i) (λ(i:DI)=>i.q) (λ(i:DI)=>.slb 0 i.b i.c i.l i.k)) ts q b c l k x rfl).mpr ?_⟩
 ·refine l9 rfl ⟨λ_=>rfl,?_,⟨trivial,C6 hm0,trivial⟩⟩;simp[y5,z6,C5,z7,z5,nth,a9]
 ·intro i _;rfl
 ·obtain⟨⟨hO,hl⟩,hx⟩:=ho;simp only[true_and,eq_self];refine⟨⟨by omega,by omega⟩,by omega,λi=>⟨⟨by omega,L7 hO hl (by omega)⟩,λhp=>⟨⟨⟨i.D,i.S,i.F⟩,i.b,i.c,l+8,i.k⟩,?_,rfl,⟨trivial,rfl,rfl,rfl,rfl⟩⟩⟩⟩;exact K5 hO (us:=byL (x:Int) 8) rfl (a2H _ _) rfl hp
end
def leN(g:Nat->Int)(p:Nat):Nat->Int
 | 0=>0
 | n+1=>g p+256*leN g (p+1) n
theorem N9{g g':Nat->Int}:∀ {n p:Nat},(∀ j,j<n->g' (p+j)=g (p+j))->leN g' p n=leN g p n
 | 0,_,_=>rfl
 | n+1,p,h=>by
  have h0:=h 0 (by omega);rw[Nat.add_zero]at h0;show g' p+256*leN g' (p+1) n=g p+256*leN g (p+1) n
  have h1:leN g' (p+1) n=leN g (p+1) n:=N9 λj hj=>by
   have:=h (j+1) (by omega);rw[show p+1+j=p+(j+1) by omega];exact this
  rw[h0,h1]
theorem b4M(v:Int):byI v 0=v % 256:=by simp[byI]
theorem c2a{g:Nat->Int}{v:Int}{p:Nat}(h:∀ j,j<1->g (p+j)=byI v j)(h0:0<=v)(h1:v<256):leN g p 1=v:=by
 have e0:=h 0 (by omega);simp only[Nat.add_zero,b4M]at e0;simp only[leN,e0];omega
theorem c2k{g:Nat->Int}{v:Int}{p:Nat}(h:∀ j,j<2->g (p+j)=byI v j)(h0:0<=v)(h1:v<65536):leN g p 2=v:=by
 have e0:=h 0 (by omega);have e1:g (p+1)=v / 256 % 256:=h 1 (by omega);simp only[Nat.add_zero,b4M]at e0;simp only[leN,e0,e1];omega
theorem b1Q{g:Nat->Int}{v:Int}{p:Nat}(h:∀ j,j<4->g (p+j)=byI v j)(h0:0<=v)(h1:v<4294967296):leN g p 4=v:=by
 have e0:=h 0 (by omega);have e1:g (p+1)=v / 256 % 256:=h 1 (by omega);have e2:g (p+1+1)=v / 65536 % 256:=h 2 (by omega);have e3:g (p+1+1+1)=v / 16777216 % 256:=h 3 (by omega);simp only[Nat.add_zero,b4M]at e0;simp only[leN,e0,e1,e2,e3];omega
theorem c7l{g:Nat->Int}{v:Int}{p:Nat}(h:∀ j,j<8->g (p+j)=byI v j)(h0:0<=v)(h1:v<18446744073709551616):leN g p 8=v:=by
 have e0:=h 0 (by omega);have e1:g (p+1)=v / 256 % 256:=h 1 (by omega);have e2:g (p+1+1)=v / 65536 % 256:=h 2 (by omega);have e3:g (p+1+1+1)=v / 16777216 % 256:=h 3 (by omega);have e4:g (p+1+1+1+1)=v / 4294967296 % 256:=h 4 (by omega);have e5:g (p+1+1+1+1+1)=v / 1099511627776 % 256:=h 5 (by omega);have e6:g (p+1+1+1+1+1+1)=v / 281474976710656 % 256:=h 6 (by omega);have e7:g (p+1+1+1+1+1+1+1)=v / 72057594037927936 % 256:=h 7 (by omega);simp only[Nat.add_zero,b4M]at e0;simp only[leN,e0,e1,e2,e3,e4,e5,e6,e7];omega
def fl8(g:Nat->Int)(p:Nat)(n:Int):Prop:=∃ x:Nat,leN g p 8=(x:Int)/\FI x n/\n.natAbs<=4194304
def a2o(g:Nat->Int)(a:Nat)(B:Bx):Prop:=fl8 g a B.x0/\fl8 g (a+8) B.y0/\fl8 g (a+16) B.x1/\fl8 g (a+24) B.y1
structure EK where
 a:Nat
 e:Nat
 its:List (Int×Bx)
 B:Bx
def a0t(g:Nat->Int):Nat->Nat->Nat->List (Int×Bx)->Bx->Prop
 | 0,a,e,its,B=>a2o g a B/\g (a+32)=(its.length:Nat)/\(∀ it∈its,E0 B it.2)/\∃ w:Nat,(w=1∨w=2∨w=4)/\g (a+33)=(w:Nat)/\a+34+w*its.length<=e/\∀ j it,its[j]? = some it->leN g (a+34+w*j) w=it.1
 | h+1,a,e,its,B=>a2o g a B/\(∀ it∈its,E0 B it.2)/\∃ ks:List EK,its=ks.flatMap (·.its)/\g (a+32)=(ks.length:Nat)/\a+33+4*ks.length<=e/\
   ∀ j k,ks[j]? = some k->leN g (a+33+4*j) 4=(k.a:Nat)/\a+33+4*ks.length<=k.a/\k.e<=e/\a0t g h k.a k.e k.its k.B
theorem a2C{g g':Nat->Int}{p:Nat}{n:Int}(h:fl8 g p n)(hg:∀ j,j<8->g' (p+j)=g (p+j)):fl8 g' p n:=by
 obtain⟨x,h1,h2⟩:=h;exact⟨x,by rw[N9 hg];exact h1,h2⟩
theorem a1i{g g':Nat->Int}{a:Nat}{B:Bx}(h:a2o g a B)(hg:∀ j,j<32->g' (a+j)=g (a+j)):a2o g' a B:=by
 obtain⟨h1,h2,h3,h4⟩:=h;refine⟨a2C h1 λj hj=>hg j (by omega),a2C h2 λj hj=>?_,a2C h3 λj hj=>?_,a2C h4 λj hj=>?_⟩
 ·rw[Nat.add_assoc];exact hg _ (by omega)
 ·rw[Nat.add_assoc];exact hg _ (by omega)
 ·rw[Nat.add_assoc];exact hg _ (by omega)
theorem a2l{g g':Nat->Int}:∀ {h a e:Nat} {its:List (Int×Bx)} {B:Bx},a0t g h a e its B->(∀ p,a<=p->p<e->g' p=g p)->a0t g' h a e its B
 | 0,a,e,its,B,⟨h1,h2,h2b,w,h3,h4,h5,h6⟩,hg=>by
  refine⟨a1i h1 λj hj=>hg _ (by omega) (by omega),by rw[hg _ (by omega) (by omega)];exact h2,h2b,w,h3,by rw[hg _ (by omega) (by omega)];exact h4,h5,λj it hj=>?_⟩;have hlt:=(List.getElem?_eq_some_iff.1 hj).1;have hm:w*(j+1)<=w*its.length:=Nat.mul_le_mul_left w hlt;rw[Nat.mul_add,Nat.mul_one]at hm;rw[N9 λi hi=>hg _ (by omega) (by omega)];exact h6 j it hj
 | h+1,a,e,its,B,⟨h1,h2,ks,h3,h4,h5,h6⟩,hg=>by
  refine⟨a1i h1 λj hj=>hg _ (by omega) (by omega),h2,ks,h3,by rw[hg _ (by omega) (by omega)];exact h4,h5,λj k hj=>?_⟩;obtain⟨k1,k2,k3,k4⟩:=h6 j k hj;have hlt:=(List.getElem?_eq_some_iff.1 hj).1;exact⟨by rw[N9 λi hi=>hg _ (by omega) (by omega)];exact k1,k2,k3,a2l k4 λp p1 p2=>hg p (by omega) (by omega)⟩
theorem isTr.has{q:RM}:∀ {h:Nat} {k:Kid},isTr q h k->∀ it∈k.its,E0 k.B it.2
 | 0,k,⟨_,_,_,h4⟩,it,hit=>h4.1 _ (List.mem_map.2 ⟨it,hit,rfl⟩)
 | h+1,k,⟨ks,_,_,_,h4,_,h6,h7⟩,it,hit=>by
  rw[h4]at hit;obtain⟨x,hx,hit⟩:=List.mem_flatMap.1 hit;exact a1o (h6.1 _ (List.mem_map.2 ⟨x,hx,rfl⟩)) ((h7 x hx).1.has it hit)
theorem isTr.cnt{q:RM}:∀ {h:Nat} {k:Kid},isTr q h k->k.n<=k.its.length
 | 0,k,⟨_,h2,_,_⟩=>Nat.le_of_eq h2
 | h+1,k,⟨ks,h1,_,_,h4,_,_,h7⟩=>by
  rw[h1,h4]
  have key:∀ l:List Kid,(∀ x∈l,1<=x.its.length)->l.length<=(l.flatMap (·.its)).length:=by
   intro l
   induction l with
   | nil=>intro _;simp
   | cons x r ih =>
    intro hl;have h5:=hl x (by simp);have h6:=ih λy hy=>hl y (by simp[hy])
    simp only[List.flatMap_cons,List.length_append,List.length_cons];omega
  exact key ks λx hx=>Nat.le_trans (h7 x hx).2.1 (h7 x hx).1.cnt
structure a0b (q:RM) (rb rc h:Nat) (k:Kid) (b:Nat):Prop where
 D:q.D rb
 S:rc+5<=q.S rb
 ref:q.F rb rc=.iface 207 (.pointer (some ⟨k.b,0,none⟩))
 box:isBox q.F rb rc k.B
 tr:isTr q h k
 n:1<=k.n
 rk:k.b≠rb
 nd:k.fp.Nodup
 br:b≠rb
 bf:b∉k.fp
 it:∀ x∈k.its,0<=x.1/\x.1<4294967296
theorem a0b.keep{q:RM}{rb rc h:Nat}{k:Kid}{b c l:Nat}{us:List Int}{i:DI}(ha:a0b q rb rc h k b)(hp:apd q b c l us i):a0b i.q rb rc h k i.b:=by
 have hr:=hp.keep _ ha.D;have hrF:=hr.2.2 (Ne.symm ha.br)
 have hne:∀ x,q.D x->x≠b->i.b≠x:=λx hx hxb e=>by
  rcases hp.nw with h1|h1
  ·exact hxb (e.symm.trans h1)
  ·exact h1 (e▸hx)
 refine⟨hr.1,by rw[hr.2.1];exact ha.S,by rw[hrF];exact ha.ref,D8 (λk _=>hrF _) ha.box,ha.tr.same λx hx=>?_,ha.n,ha.rk,ha.nd,hne _ ha.D (Ne.symm ha.br),λhm=>hne _ (ha.tr.D _ hm) (λe=>ha.bf (e▸hm)) rfl,ha.it⟩;have h1:=hp.keep x (ha.tr.D x hx);exact⟨h1.1,h1.2.1,h1.2.2 λe=>ha.bf (e▸hx)⟩
def bG(i:DI)(p:Nat):Int:=p9 (i.q.F i.b (i.c+p))
def b3F(q:RM)(rb rc b c l h:Nat)(i:DI):Prop:=∀ k,a0b q rb rc h k b->l+102*((h+1)*k.its.length)<=100000000->∃ us,apd q b c l us i/\us.length<=102*((h+1)*k.its.length)/\a0t (bG i) h l i.l k.its k.B
def b5N(q:RM)(rb rc b c l kk h:Nat):Prop:=byO q b c l kk/\∃ k,a0b q rb rc h k b/\l+102*((h+1)*k.its.length)<=100000000
noncomputable def ndN(q:RM)(nb:Nat):Nat:=(B3 q nb).length
noncomputable def hdL(q:RM)(rb rc:Nat):List Int:=byL (j9 (q.F rb (rc+1)):Nat) 8++byL (j9 (q.F rb (rc+2)):Nat) 8++byL (j9 (q.F rb (rc+3)):Nat) 8++byL (j9 (q.F rb (rc+4)):Nat) 8++[((ndN q (kb (q.F rb rc)):Nat):Int)]
def itI(q:RM)(nb t:Nat):Int:=p9 (K9 (q.F nb (1+5*t)))
structure C1 where
 i:DI
 j:Nat
 w:Int
structure C3 where
 i:DI
 j:Nat
 g:Nat->Int
def wOk(w:Int):Prop:=w=1∨w=2∨w=4
noncomputable def c1P(q:RM)(rb rc b c l:Nat)(p:C1):Prop:=apd q b c l (hdL q rb rc) p.i/\p.j<=ndN q (kb (q.F rb rc))/\wOk p.w/\∀ t,t<p.j->nbI (itI q (kb (q.F rb rc)) t)<=p.w
noncomputable def c2P(q:RM)(rb rc b c l:Nat)(p:C1):Prop:=apd q b c l (hdL q rb rc++[p.w]++(List.range p.j).flatMap λt=>byL (itI q (kb (q.F rb rc)) t) p.w.toNat) p.i/\p.j<=ndN q (kb (q.F rb rc))/\wOk p.w/\∀ t,t<ndN q (kb (q.F rb rc))->nbI (itI q (kb (q.F rb rc)) t)<=p.w
noncomputable def c3P(q:RM)(rb rc b c l:Nat)(p:C3):Prop:=apd q b c l (hdL q rb rc++List.replicate (4*p.j) 0) p.i/\p.j<=ndN q (kb (q.F rb rc))/\∀ t,t<p.j->p.g t=((l+(33+4*t):Nat):Int)
def c4K(q:RM)(b c l h:Nat)(p:C3)(k:Kid):Prop:=∃ us,apd q b c l us p.i/\a2o (bG p.i) l k.B/\bG p.i (l+32)=(k.n:Nat)/\33+4*k.n<=us.length/\
  ∃ A B:List Kid,A.length=p.j/\k.its=(A++B).flatMap (·.its)/\G1 q k.b ((A++B).map F3)/\(∀ x∈A++B,isTr q h x/\1<=x.n/\x.fp.Nodup/\k.b∉x.fp/\∀ y∈x.fp,y∈k.fp)/\us.length<=33+4*k.n+102*((h+1)*(A.flatMap (·.its)).length)/\
   ∀ t x,A[t]? = some x->∃ a e,leN (bG p.i) (l+33+4*t) 4=(a:Nat)/\l+33+4*k.n<=a/\e<=p.i.l/\a0t (bG p.i) h a e x.its x.B
noncomputable def c4P(q:RM)(rb rc b c l h:Nat)(p:C3):Prop:=p.j<=ndN q (kb (q.F rb rc))/\(∀ t,t<ndN q (kb (q.F rb rc))->p.g t=((l+(33+4*t):Nat):Int))/\
 ∀ k,a0b q rb rc (h+1) k b->l+102*((h+2)*k.its.length)<=100000000->c4K q b c l h p k
theorem c0h{α:Type}{A X C:List α}{j:Nat}(h:j<X.length):(A++X++C)[A.length+j]? = X[j]? := by
 rw[List.append_assoc,List.getElem?_append_right (by omega),List.getElem?_append_left (by omega)];congr 1;omega
theorem a0c{f:Nat->List Int}{w:Nat}(h:∀ t,(f t).length=w):∀ n,((List.range n).flatMap f).length=w*n
 | 0=>by simp
 | n+1=>by rw[List.range_succ,List.flatMap_append,List.length_append,a0c h n];simp[h,Nat.mul_succ]
theorem a7d{f:Nat->List Int}{w:Nat}(h:∀ t,(f t).length=w){t s:Nat}(hs:s<w):∀ {n:Nat},t<n->((List.range n).flatMap f)[w*t+s]? = (f t)[s]?
 | 0,ht=>absurd ht (Nat.not_lt_zero t)
 | n+1,ht=>by
  rw[List.range_succ,List.flatMap_append];by_cases c:t<n
  ·rw[List.getElem?_append_left (by rw[a0c h];have:=Nat.mul_le_mul_left w c;rw[Nat.mul_succ]at this;omega)];exact a7d h hs c
  ·have:t=n:=by omega
   subst this;rw[List.getElem?_append_right (by rw[a0c h];omega),a0c h];simp
section
variable {q:RM} {rb rc h b c l:Nat} {k:Kid}
theorem a1c{us:List Int}{i:DI}(hp:apd q b c l us i){j:Nat}{x:Int}(hx:us[j]? = some x):bG i (l+j)=x:=by
 unfold bG;rw[hp.new j x hx];rfl
theorem V4:(hdL q rb rc).length=33:=by
 simp[hdL,G4]
theorem a0b.node(ha:a0b q rb rc h k b):G1 q k.b (B3 q k.b)/\ndN q k.b=k.n/\kb (q.F rb rc)=k.b/\isRef (q.F rb rc)/\k.n<=17:=by
 obtain⟨l',h1,h2,h3⟩:=ha.tr.nd;have hn:G1 q k.b (B3 q k.b):=by rw[h1.of];exact h1
 have hl:ndN q k.b=k.n:=by unfold ndN;rw[h1.of];exact h2
 exact⟨hn,hl,by rw[ha.ref];rfl,by rw[ha.ref];rfl,by rw[<-hl];exact hn.le⟩
theorem a0b.off(ha:a0b q rb rc h k b){us:List Int}{i:DI}(hp:apd q b c l us i):(i.q.D k.b/\i.q.S k.b=86/\∀ y,i.q.F k.b y=q.F k.b y)/\i.q.D rb/\rc+5<=i.q.S rb/\∀ y,i.q.F rb y=q.F rb y:=by
 obtain⟨n1,_⟩:=ha.node;have h1:=hp.keep _ n1.D;have h2:=hp.keep _ ha.D;exact⟨⟨h1.1,h1.2.1.trans n1.S,h1.2.2 λe=>ha.bf (e▸ha.tr.fp0)⟩,h2.1,by rw[h2.2.1];exact ha.S,h2.2.2 (Ne.symm ha.br)⟩
theorem a0b.cnt(ha:a0b q rb rc h k b){us:List Int}{i:DI}(hp:apd q b c l us i):i.q.F k.b 0=.int .i64 (k.n:Nat)/\p9 (i.q.F k.b 0)=(k.n:Nat):=by
 obtain⟨n1,n2,_⟩:=ha.node;have:i.q.F k.b 0=.int .i64 (k.n:Nat):=by rw[(ha.off hp).1.2.2,n1.n];rw[<-n2];rfl
 exact⟨this,by rw[this];rfl⟩
theorem fz.bits{v:Value}{n:Int}(h:fz v n):j9 v<18446744073709551616:=h.2.1.1.1
theorem b4q{us:List Int}{i:DI}(hp:apd q b c l us i){A C:List Int}{x:Nat}{n:Int}(hu:us=A++byL (x:Int) 8++C)(hx:FI x n)(hn:n.natAbs<=4194304):fl8 (bG i) (l+A.length) n:=by
 refine⟨x,c7l (λj hj=>?_) (by omega) (by have:=hx.1.1;omega),hx,hn⟩;rw[Nat.add_assoc];refine a1c hp ?_;rw[hu,c0h (by rw[G4];exact hj)];simp[byL,hj]
theorem b6C{i:DI}{r:List Int}(hp:apd q b c l (hdL q rb rc++r) i){B:Bx}(hb:isBox q.F rb rc B):a2o (bG i) l B/\bG i (l+32)=((ndN q (kb (q.F rb rc)):Nat):Int):=by
 obtain⟨h1,h2,h3,h4⟩:=hb;refine⟨⟨?_,?_,?_,?_⟩,?_⟩
 ·have:=b4q hp (A:=[]) (x:=j9 (q.F rb (rc+1))) (C:=byL (j9 (q.F rb (rc+2)):Nat) 8++byL (j9 (q.F rb (rc+3)):Nat) 8++byL (j9 (q.F rb (rc+4)):Nat) 8++[((ndN q (kb (q.F rb rc)):Nat):Int)]++r) (by simp[hdL,List.append_assoc]) h1.2.1 h1.2.2;simpa using this
 ·have:=b4q hp (A:=byL (j9 (q.F rb (rc+1)):Nat) 8) (x:=j9 (q.F rb (rc+2))) (C:=byL (j9 (q.F rb (rc+3)):Nat) 8++byL (j9 (q.F rb (rc+4)):Nat) 8++[((ndN q (kb (q.F rb rc)):Nat):Int)]++r) (by simp[hdL,List.append_assoc]) h2.2.1 h2.2.2;simpa [G4]using this
 ·have:=b4q hp (A:=byL (j9 (q.F rb (rc+1)):Nat) 8++byL (j9 (q.F rb (rc+2)):Nat) 8) (x:=j9 (q.F rb (rc+3))) (C:=byL (j9 (q.F rb (rc+4)):Nat) 8++[((ndN q (kb (q.F rb rc)):Nat):Int)]++r) (by simp[hdL,List.append_assoc]) h3.2.1 h3.2.2;simpa [G4]using this
 ·have:=b4q hp (A:=byL (j9 (q.F rb (rc+1)):Nat) 8++byL (j9 (q.F rb (rc+2)):Nat) 8++byL (j9 (q.F rb (rc+3)):Nat) 8) (x:=j9 (q.F rb (rc+4))) (C:=[((ndN q (kb (q.F rb rc)):Nat):Int)]++r) (by simp[hdL,List.append_assoc]) h4.2.1 h4.2.2;simpa [G4]using this
 ·refine a1c hp ?_;rw[List.getElem?_append_left (by rw[V4];omega)];unfold hdL;rw[List.getElem?_append_right (by simp[G4])];simp[G4]
theorem b3f(v:Int):wOk (nbI v):=by unfold wOk nbI;split <;> (try split) <;> simp
theorem wOk.r{w:Int}(h:wOk w):0<=w/\w<256:=by unfold wOk at h;omega
theorem b3U(ha:a0b q rb rc 0 k b){t:Nat}{it:Int×Bx}(ht:k.its[t]? = some it):q.F k.b (1+5*t)=.iface 3 (.int .i64 it.1)/\itI q k.b t=it.1:=by
 obtain⟨_,_,a3,_⟩:=ha.tr;have:=a3.v t (b0L it) (by rw[List.getElem?_map,ht];rfl);exact⟨this,by unfold itI;rw[this];rfl⟩
theorem b8U(ha:a0b q rb rc 0 k b){p:C1}(hp:c2P q rb rc b c l p)(hj:p.j=ndN q (kb (q.F rb rc))):∃ us,apd q b c l us p.i/\us.length<=102*((0+1)*k.its.length)/\a0t (bG p.i) 0 l p.i.l k.its k.B:=by
 obtain⟨h1,_,hw,h3⟩:=hp;obtain⟨n1,n2,n3,n4,n5⟩:=ha.node;rw[n3]at h1 h3 hj;have hkl:k.n=k.its.length:=ha.tr.2.1;have hn:=ha.n;rw[n2]at hj h3;obtain⟨w,hwe⟩:∃ w:Nat,p.w=(w:Int):=⟨p.w.toNat,by rcases hw with e|e|e <;> rw[e] <;> rfl⟩;have hw2:w=1∨w=2∨w=4:=by unfold wOk at hw;omega
 rw[hwe,tN9]at h1;have hflen:∀ t,((λt=>byL (itI q k.b t) w) t).length=w:=λt=>G4 _ _
 have hlen:((List.range p.j).flatMap λt=>byL (itI q k.b t) w).length=w*p.j:=a0c hflen p.j;have h1e:apd q b c l (hdL q rb rc++([(w:Int)]++(List.range p.j).flatMap λt=>byL (itI q k.b t) w)) p.i:=by rw[<-List.append_assoc];exact h1
 obtain⟨e1,e2⟩:=b6C h1e ha.box
 have hul:(hdL q rb rc++[(w:Int)]++(List.range p.j).flatMap λt=>byL (itI q k.b t) w).length=34+w*p.j:=by
  rw[List.length_append,List.length_append,V4,hlen];simp
 have hil:=h1.n;rw[hul]at hil;refine⟨_,h1,?_,e1,by rw[e2,n3,n2,hkl],ha.tr.has,w,hw2,?_,?_,λt it ht=>?_⟩
 ·rw[hul,hj];rcases hw2 with e|e|e <;> rw[e] <;> omega
 ·rw[show l+33=l+(hdL q rb rc).length by rw[V4]];refine a1c h1 ?_;rw[List.append_assoc,List.getElem?_append_right (Nat.le_refl _)];simp
 ·rw[<-hkl,<-hj];omega
 ·obtain⟨i1,i2⟩:=b3U ha ht;have htl:=(List.getElem?_eq_some_iff.1 ht).1;have hr:=ha.it it (List.mem_of_getElem? ht);have hb:=h3 t (by omega);rw[i2,hwe]at hb
  have get:∀ s,s<w->bG p.i (l+34+w*t+s)=byI it.1 s:=λs hs=>by
   rw[show l+34+w*t+s=l+(34+(w*t+s)) by omega];refine a1c h1 ?_;rw[List.getElem?_append_right (by rw[List.length_append,V4];simp)];rw[List.length_append,V4];rw[show 34+(w*t+s)-(33+[(w:Int)].length)=w*t+s by simp];rw[a7d hflen hs (by omega),i2];simp[byL,hs]
  unfold nbI at hb;rcases hw2 with e|e|e
  ·subst e;exact c2a get hr.1 (by split at hb <;> (try split at hb) <;> omega)
  ·subst e;exact c2k get hr.1 (by split at hb <;> (try split at hb) <;> omega)
  ·subst e;exact b1Q get hr.1 hr.2
end
section
variable {q:RM} {rb rc h b c l:Nat} {k:Kid}
theorem b6Z(ha:a0b q rb rc (h+1) k b){p:C3}(hp:apd q b c l (hdL q rb rc++List.replicate (4*p.j) 0) p.i)(hj:p.j=k.n){p':C3}(h1:p'.i=p.i)(h2:p'.j=0):c4K q b c l h p' k:=by
 obtain⟨n1,n2,n3,n4,n5⟩:=ha.node;obtain⟨ks,a1,a2,a3,a4,a5,a6,a7⟩:=ha.tr;obtain⟨e1,e2⟩:=b6C hp ha.box
 have hfp:∀ x∈ks,x.fp.Nodup/\k.b∉x.fp/\∀ y∈x.fp,y∈k.fp:=λx hx=>by
  have hnd:=ha.nd;rw[a3]at hnd ⊢;obtain⟨h1,h2⟩:=List.nodup_cons.1 hnd;have hin:∀ y∈x.fp,y∈ks.flatMap (·.fp):=λy hy=>List.mem_flatMap.2 ⟨x,hx,hy⟩
  refine⟨?_,λe=>h1 (hin _ e),λy hy=>List.mem_cons_of_mem _ (hin y hy)⟩;obtain⟨A,B,rfl⟩:=List.append_of_mem hx;rw[List.flatMap_append,List.flatMap_cons,List.nodup_append,List.nodup_append]at h2;exact h2.2.1.1
 have hlen:(hdL q rb rc++List.replicate (4*p.j) 0).length=33+4*k.n:=by rw[List.length_append,V4,List.length_replicate,hj]
 rw[c4K,h1];exact⟨_,hp,e1,by rw[e2,n3,n2],by omega,[],ks,h2.symm,a4,a5,λx hx=>⟨(a7 x hx).1,(a7 x hx).2.1,hfp x hx⟩,by rw[hlen];omega,λt x hx=>by simp at hx⟩
theorem b0U{us:List Int}{i:DI}(hp:apd q b c l us i){s:Nat}(hs:s+4<=us.length)(v:Int):∃ us',us'.length=us.length/\apd q b c l us' ⟨p4R i.q i.b (i.c+(l+s)) v,i.b,i.c,i.l,i.k⟩/\
  (∀ j,j<4->bG ⟨p4R i.q i.b (i.c+(l+s)) v,i.b,i.c,i.l,i.k⟩ (l+s+j)=byI v j)/\∀ p,(p<l+s∨l+s+4<=p)->bG ⟨p4R i.q i.b (i.c+(l+s)) v,i.b,i.c,i.l,i.k⟩ p=bG i p:=by
 have off:∀ x y,(x≠i.b∨y<i.c+(l+s)∨i.c+(l+s)+4<=y)->(p4R i.q i.b (i.c+(l+s)) v).F x y=i.q.F x y:=λx y hxy=>by
  show pB _ _ _ _ _ x y=_;unfold pB;rw[g8 (by omega),g8 (by omega),g8 (by omega),g8 (by omega)]
 have at4:∀ j,j<4->(p4R i.q i.b (i.c+(l+s)) v).F i.b (i.c+(l+s)+j)=.int .u8 (byI v j):=λj hj=>by
  show pB _ _ _ _ _ i.b _=_;unfold pB
  match j,hj with
  | 0,_=>rw[g8 (by omega),g8 (by omega),g8 (by omega)];exact A6
  | 1,_=>rw[g8 (by omega),g8 (by omega)];exact A6
  | 2,_=>rw[g8 (by omega)];exact A6
  | 3,_=>exact A6
 have hn:=hp.n
 have hby:∀ j,j<us.length->I0 ((p4R i.q i.b (i.c+(l+s)) v).F i.b (i.c+(l+j))):=λj hj=>by
  by_cases hc:s<=j/\j<s+4
  ·have:=at4 (j-s) (by omega);rw[show i.c+(l+s)+(j-s)=i.c+(l+j) by omega]at this;rw[this];exact I0.mk' (Z0 _ _)
  ·rw[off _ _ (by omega)];exact hp.o.is (l+j) (by omega)
 refine⟨(List.range us.length).map λj=>p9 ((p4R i.q i.b (i.c+(l+s)) v).F i.b (i.c+(l+j))),by simp,hp.put (by simp) (λx hx=>?_) rfl rfl (λx y hxy=>off x y (by omega)) (λj x hx=>?_),λj hj=>?_,λp hpp=>?_⟩
 ·obtain⟨j,hj,rfl⟩:=List.mem_map.1 hx;exact⟨(hby j (by simpa using hj)).2.1,(hby j (by simpa using hj)).2.2⟩
 ·obtain⟨h1,h2⟩:=List.getElem?_eq_some_iff.1 hx;have hj:j<us.length:=by simpa using h1
  have:x=p9 ((p4R i.q i.b (i.c+(l+s)) v).F i.b (i.c+(l+j))):=by rw[<-h2];simp
  rw[this];exact(hby j hj).1
 ·unfold bG;show p9 ((p4R i.q i.b (i.c+(l+s)) v).F i.b (i.c+(l+s+j)))=_;have:=at4 j hj;rw[show i.c+(l+s)+j=i.c+(l+s+j) by omega]at this;rw[this];rfl
 ·unfold bG;show p9 ((p4R i.q i.b (i.c+(l+s)) v).F i.b (i.c+p))=p9 (i.q.F i.b (i.c+p));rw[off _ _ (by omega)]
theorem a0b.kid(ha:a0b q rb rc (h+1) k b){A B:List Kid}{x:Kid}(hits:k.its=(A++x :: B).flatMap (·.its))(hnd:G1 q k.b ((A++x :: B).map F3))(hk:isTr q h x/\1<=x.n/\x.fp.Nodup/\k.b∉x.fp/\∀ y∈x.fp,y∈k.fp):a0b q k.b (1+A.length*5) h x b:=by
 have hget:((A++x :: B).map F3)[A.length]? = some (F3 x):=by simp
 have hv:=hnd.v _ _ hget;have hb:=hnd.B _ _ hget;rw[Nat.mul_comm]at hv hb;have hle:=hnd.le;have hS:=hnd.S;simp only[List.length_map,List.length_append,List.length_cons]at hle;obtain⟨k1,k2,k3,k4,k5⟩:=hk;refine⟨hnd.D,by omega,hv,hb,k1,k2,λe=>k4 (e▸k1.fp0),k3,λe=>ha.bf (e▸ha.tr.fp0),λe=>ha.bf (k5 _ e),λy hy=>ha.it y ?_⟩;rw[hits];exact List.mem_flatMap.2 ⟨x,by simp,hy⟩
theorem b3X(ha:a0b q rb rc (h+1) k b)(hbd:l+102*((h+2)*k.its.length)<=100000000){p:C3}(hp:c4K q b c l h p k)(hj:p.j<k.n) :
  l+33+4*p.j+4<=p.i.l/\p.i.l<=100000000/\byO p.i.q p.i.b p.i.c p.i.l p.i.k/\
  b5N (p4R p.i.q p.i.b (p.i.c+(l+(33+4*p.j))) (p.i.l:Nat)) k.b (1+p.j*5) p.i.b p.i.c p.i.l p.i.k h/\
  ∀ i',b3F (p4R p.i.q p.i.b (p.i.c+(l+(33+4*p.j))) (p.i.l:Nat)) k.b (1+p.j*5) p.i.b p.i.c p.i.l h i'->c4K q b c l h ⟨i',p.j+1,p.g⟩ k:=by
 obtain⟨us,u1,u2,u3,u4,A,B0,b1,b2,b3,b4,b5,b6⟩:=hp;have hn:=u1.n;obtain⟨n1,n2,n3,n4,n5⟩:=ha.node
 have hABn:(A++B0).length=k.n:=by
  have:=b3.of;unfold ndN at n2;rw[this,List.length_map]at n2;exact n2
 obtain⟨x,B,rfl⟩:∃ x B,B0=x :: B:=by
  cases B0 with
  | nil=>rw[List.append_nil]at hABn;omega
  | cons x B=>exact⟨x,B,rfl⟩
 have hkid:=ha.kid b2 b3 (b4 x (by simp));rw[b1]at hkid;have hcnt:=ha.tr.cnt
 have hits:k.its.length=(A.flatMap (·.its)).length+x.its.length+(B.flatMap (·.its)).length:=by
  rw[b2];simp only[List.flatMap_append,List.flatMap_cons,List.length_append];omega
 have m1:(h+2)*k.its.length=(h+1)*k.its.length+k.its.length:=by rw[show h+2=(h+1)+1 from rfl,Nat.add_mul,Nat.one_mul]
 have m2:(h+1)*k.its.length=(h+1)*(A.flatMap (·.its)).length+(h+1)*x.its.length+(h+1)*(B.flatMap (·.its)).length:=by rw[hits,Nat.mul_add,Nat.mul_add]
 have hn1:=ha.n;obtain⟨us2,v1,v2,v3,v4⟩:=b0U u1 (s:=33+4*p.j) (by omega) (p.i.l:Nat);have hb2:=(hkid.keep v2);refine⟨by omega,by omega,u1.o,⟨v2.o,x,hb2,by omega⟩,λi' hi'=>?_⟩;obtain⟨us3,w1,w2,w3⟩:=hi' x hb2 (by omega);have hall:=v2.trans w1;have hn3:=w1.n
 have old:∀ pp,pp<p.i.l->bG i' pp=bG ⟨p4R p.i.q p.i.b (p.i.c+(l+(33+4*p.j))) (p.i.l:Nat),p.i.b,p.i.c,p.i.l,p.i.k⟩ pp:=λpp hpp=>by
  unfold bG;rw[w1.old pp hpp]
 have old2:∀ pp,pp<p.i.l->(pp<l+(33+4*p.j)∨l+(33+4*p.j)+4<=pp)->bG i' pp=bG p.i pp:=λpp h1 h2=>(old pp h1).trans (v4 pp h2)
 refine⟨us2++us3,hall,a1i u2 λj hj=>old2 _ (by omega) (by omega),by rw[show bG i' (l+32)=bG p.i (l+32)from old2 _ (by omega) (by omega)];exact u3,by rw[List.length_append];omega,A++[x],B,by simp[b1],by rw[b2];simp,by rw[List.append_assoc];exact b3,by rw[List.append_assoc];exact b4,?_,λt y ht=>?_⟩
 ·rw[List.length_append,List.flatMap_append,List.length_append,Nat.mul_add];simp only[List.flatMap_cons,List.flatMap_nil,List.append_nil];omega
 ·by_cases hc:t<A.length
  ·rw[List.getElem?_append_left hc]at ht;obtain⟨a,e,a1,a2,a3,a4⟩:=b6 t y ht;refine⟨a,e,?_,a2,by show e<=i'.l;omega,a2l a4 λpp p1 p2=>old2 pp (by omega) (by omega)⟩;rw[N9 λj hj=>old2 _ (by omega) (by omega)];exact a1
  ·have htl:t=A.length:=by
    have:=(List.getElem?_eq_some_iff.1 ht).1;simp at this;omega
   subst htl;simp at ht;subst ht;refine⟨p.i.l,i'.l,?_,by omega,Nat.le_refl _,w3⟩;rw[b1];refine b1Q (λj hj=>?_) (by omega) (by omega);rw[Nat.add_assoc l 33];exact(old _ (by omega)).trans (v3 j hj)
theorem c4n(ha:a0b q rb rc (h+1) k b){p:C3}(hp:c4K q b c l h p k)(hj:p.j=k.n):∃ us,apd q b c l us p.i/\us.length<=102*((h+1+1)*k.its.length)/\a0t (bG p.i) (h+1) l p.i.l k.its k.B:=by
 obtain⟨us,u1,u2,u3,u4,A,B,b1,b2,b3,b4,b5,b6⟩:=hp;have hn:=u1.n;obtain⟨n1,n2,n3,n4,n5⟩:=ha.node
 have hABn:(A++B).length=k.n:=by
  have:=b3.of;unfold ndN at n2;rw[this,List.length_map]at n2;exact n2
 have hB:B=[]:=by
  rw[List.length_append]at hABn;exact List.length_eq_zero_iff.1 (by omega)
 subst hB;rw[List.append_nil]at b2 b3 hABn;have hcnt:=ha.tr.cnt;have m1:(h+1+1)*k.its.length=(h+1)*k.its.length+k.its.length:=by rw[Nat.add_mul (h+1),Nat.one_mul]
 rw[<-b2]at b5;have hn1:=ha.n
 have hch:∃ ks:List EK,ks.length=A.length/\∀ t x,A[t]? = some x->∃ kk,ks[t]? = some kk/\kk.its=x.its/\kk.B=x.B/\leN (bG p.i) (l+33+4*t) 4=(kk.a:Nat)/\l+33+4*k.n<=kk.a/\kk.e<=p.i.l/\a0t (bG p.i) h kk.a kk.e x.its x.B:=by
  clear b1 b2 b3 b4 b5 hABn hj
  have:∀(A:List Kid)(s:Nat),(∀ t x,A[t]? = some x->∃ a e,leN (bG p.i) (l+33+4*(s+t)) 4=(a:Nat)/\l+33+4*k.n<=a/\e<=p.i.l/\a0t (bG p.i) h a e x.its x.B)->
    ∃ ks:List EK,ks.length=A.length/\∀ t x,A[t]? = some x->∃ kk,ks[t]? = some kk/\kk.its=x.its/\kk.B=x.B/\leN (bG p.i) (l+33+4*(s+t)) 4=(kk.a:Nat)/\l+33+4*k.n<=kk.a/\kk.e<=p.i.l/\a0t (bG p.i) h kk.a kk.e x.its x.B:=by
   intro A
   induction A with
   | nil=>intro s _;exact⟨[],rfl,λt x ht=>by simp at ht⟩
   | cons x r ih =>
    intro s hs;obtain⟨a,e,c1,c2,c3,c4⟩:=hs 0 x rfl
    obtain⟨ks,d1,d2⟩:=ih (s+1) λt y ht=>by
     have:=hs (t+1) y (by simpa using ht);rw[show s+1+t=s+(t+1) by omega];exact this
    refine⟨⟨a,e,x.its,x.B⟩ :: ks,by simp[d1],λt y ht=>?_⟩
    cases t with
    | zero=>simp at ht;subst ht;exact⟨_,rfl,rfl,rfl,c1,c2,c3,c4⟩
    | succ t =>
     obtain⟨kk,f1,f2⟩:=d2 t y (by simpa using ht);rw[show s+1+t=s+(t+1) by omega]at f2;exact⟨kk,by simpa using f1,f2⟩
  obtain⟨ks,g1,g2⟩:=this A 0 λt x ht=>by rw[Nat.zero_add];exact b6 t x ht
  exact⟨ks,g1,λt x ht=>by have:=g2 t x ht;rw[Nat.zero_add]at this;exact this⟩
 obtain⟨ks,g1,g2⟩:=hch;refine⟨us,u1,by omega,u2,ha.tr.has,ks,?_,by rw[u3,g1,hABn],by rw[g1,hABn];omega,λt kk ht=>?_⟩
 ·rw[b2]
  have:∀(A:List Kid)(ks:List EK),ks.length=A.length->(∀(t:Nat)(x:Kid),A[t]? = some x->∃ kk:EK,ks[t]? = some kk/\kk.its=x.its)->A.flatMap (·.its)=ks.flatMap (·.its):=by
   intro A
   induction A with
   | nil=>intro ks hl _;cases ks with|nil=>rfl|cons a r=>simp at hl
   | cons x r ih =>
    intro ks hl hs
    cases ks with
    | nil=>simp at hl
    | cons kk rr =>
     obtain⟨k0,e1,e2⟩:=hs 0 x rfl;simp at e1;subst e1;simp only[List.flatMap_cons]
     rw[e2,ih rr (by simpa using hl) λt y ht=>by
      have:=hs (t+1) y (by simpa using ht)
      simpa using this]
  exact this A ks g1 λt x ht=>by obtain⟨kk,e1,e2,_⟩:=g2 t x ht;exact⟨kk,e1,e2⟩
 ·have htl:t<A.length:=by
   have:=(List.getElem?_eq_some_iff.1 ht).1;omega
  obtain⟨k0,e1,e2,e3,e4,e5,e6,e7⟩:=g2 t _ (List.getElem?_eq_getElem htl);rw[ht]at e1;cases e1;exact⟨e4,by rw[g1,hABn];exact e5,e6,by rw[e2,e3];exact e7⟩
end
open Int (toNat)
open Go.IntKind (wrap)
noncomputable section
def b7o(rb rc nb:Nat)(hh:Int)(i:DI)(r:Slots):Slots:=(0, .pb 0 rb rc) :: (1, .slb 0 i.b i.c i.l i.k) :: (2, .int .i64 hh) :: (7, .pb 0 nb 0) :: r
def hdC(ts:List Nat)(q:RM)(rb rc b c l:Nat)(hh:Int):Nat×Fam:=(7,⟨DI,λi=>⟨155,b7o rb rc (kb (q.F rb rc)) hh i [],[(0,rwO ts i.q)],1⟩,λi=>apd q b c l (hdL q rb rc) i,λ_=>0⟩)
def c1L(ts:List Nat)(q:RM)(rb rc b c l:Nat)(hh:Int):S9:=⟨⟨C1,λp=>⟨155,b7o rb rc (kb (q.F rb rc)) hh p.i [(8, .int .u8 p.w),(9, .int .i64 p.j)],[(0,rwO ts p.i.q)],1⟩,λp=>hh=0/\c1P q rb rc b c l p,λp=>ndN q (kb (q.F rb rc))-p.j⟩,λ_=>[]⟩
def c2L(ts:List Nat)(q:RM)(rb rc b c l:Nat)(hh:Int):S9:=⟨⟨C1,λp=>⟨155,b7o rb rc (kb (q.F rb rc)) hh p.i [(8, .int .u8 p.w),(11, .int .i64 p.j)],[(0,rwO ts p.i.q)],1⟩,λp=>hh=0/\c2P q rb rc b c l p,λp=>ndN q (kb (q.F rb rc))-p.j⟩,λ_=>[]⟩
def c7S(q:RM)(rb rc:Nat)(g:Nat->Int):Ob:=⟨true,3, .ints .i64 (ndN q (kb (q.F rb rc))) g,1⟩
def c3L(ts:List Nat)(q:RM)(rb rc b c l:Nat)(hh:Int):S9:=⟨⟨C3,λp=>⟨155,b7o rb rc (kb (q.F rb rc)) hh p.i [(12, .slcc 1 (ndN q (kb (q.F rb rc)))),(13, .int .i64 p.j)],[(0,rwO ts p.i.q),(1,c7S q rb rc p.g)],2⟩,λp=>hh≠0/\c3P q rb rc b c l p,λp=>ndN q (kb (q.F rb rc))-p.j⟩,λ_=>[]⟩
def c4L(ts:List Nat)(q:RM)(rb rc b c l:Nat)(hh:Int):S9:=⟨⟨C3,λp=>⟨155,b7o rb rc (kb (q.F rb rc)) hh p.i [(12, .slcc 1 (ndN q (kb (q.F rb rc)))),(14, .int .i64 p.j)],[(0,rwO ts p.i.q),(1,c7S q rb rc p.g)],2⟩,λp=>hh≠0/\c4P q rb rc b c l (hh.toNat-1) p,λp=>ndN q (kb (q.F rb rc))-p.j⟩,λ_=>[]⟩
def b3k(K:Nat):List SV->RRd DI
 | [.pb n rb rc, .slb n1 b c l kk, .int .i64 hh]=>.read n λo0=>(match J4 o0 with
  | some (ts,q)=>.ret ⟨[.pb 0 rb rc, .slb 0 b c l kk, .int .i64 hh],[(0,rwO ts q)],some (n=n1/\((0<=hh/\hh<(K:Int)/\hh<1000)/\b5N q rb rc b c l kk hh.toNat)),λi=>b3F q rb rc b c l hh.toNat i,λi=>⟨[],[], .slb 0 i.b i.c i.l i.k,[(0,rwO ts (i.q))],[],none⟩⟩
  | none=>.fail)
 | _=>.fail
def GCb:Ctx:=⟨⟨tys,[]⟩,[(125,z3 b4L)]⟩
theorem gCb:B9 prog GCb:=⟨⟨D6,FlatsOk.nil⟩,l8.cons (.pure c8a) l8.nil,by kernel_rfl⟩
def X8(H:Nat):G9:=⟨GCb,[(122,q7 DI ⟨default⟩ (b3k H)),(121,q7 Unit ⟨()⟩ a8f),(126,q7 DI ⟨default⟩ a5V),(131,q7 DI ⟨default⟩ a9w)],[],[],[(185,0)]⟩
theorem x8(H:Nat)(ih:A5 prog 122 (q7 DI ⟨default⟩ (b3k H))):C0 prog (X8 H):=⟨gCb,y9.cons ih (y9.cons c1b (y9.cons b6G (y9.cons c4z y9.nil)))⟩
def c2v(K:Nat):List SV->RRd (DI)
 | [.pb n rb rc, .slb n1 b c l kk, .int .i64 hh]=>.read n λo0=>(match J4 o0 with
  | some (ts,q)=>.ret ⟨[.pb 0 rb rc, .slb 0 b c l kk, .int .i64 hh],[(0,rwO ts q)],some (n=n1/\((0<=hh/\hh<(K:Int)/\hh<1000)/\b5N q rb rc b c l kk hh.toNat)),λi=>b3F q rb rc b c l hh.toNat i,λi=>⟨[],[], .slb 0 i.b i.c i.l i.k,[(0,rwO ts (i.q))],[],none⟩⟩
  | none=>.fail)
 | _=>.fail
theorem c0F(R:Option Ob->SV->Prop)(H:Nat)(ts:List Nat)(q:RM)(rb rc b c l kk:Nat)(hh:Int){T1}(t1:T1=(kb (q.3 rb rc))){T2}(t2:T2=λ(i:C3)=>(RM.mk (RM.D (p4R (RM.mk (RM.D (DI.q (C3.i i))) (RM.S (DI.q (C3.i i))) (RM.F (DI.q (C3.i i)))) (DI.b (C3.i i)) (DI.c (C3.i i)+toNat (C3.g i (0+toNat (↑(C3.j i):Int)*TI.size ty3)) *
 TI.size ty5) (wrap IntKind.u32 (↑(DI.l (C3.i i)):Int)))) (DI.q (C3.i i)).2 (pB (pB (pB (pB (DI.q (C3.i i)).3 (DI.b (C3.i i)) (DI.c (C3.i i)+toNat (i.3 (0+toNat (↑(C3.j i):Int)*1))*1) (wrap IntKind.u32 (↑(DI.l
 (C3.i i)):Int)) 0) (DI.b (C3.i i)) (DI.c (C3.i i)+toNat (i.3 (0+toNat (↑(C3.j i):Int)*1))*1) (wrap IntKind.u32 (↑(DI.l (C3.i i)):Int)) 1) (DI.b (C3.i i)) (DI.c (C3.i i)+toNat (i.3 (0+toNat (↑(C3.j i):Int)
 * 1))*1) (wrap IntKind.u32 (↑(DI.l (C3.i i)):Int)) 2) (DI.b (C3.i i)) (DI.c (C3.i i)+toNat (i.3 (0+toNat (↑(C3.j i):Int)*1))*1) (wrap IntKind.u32 (↑(DI.l (C3.i i)):Int)) 3))){T3}(t3:T3=λ(i:C1)=>((DI.q (C1.i
 i)).3 T1 (1+toNat (↑(C1.j i):Int)*5+0))){T4}(t4:T4=(True/\kb (q.3 rb rc)=kb (q.3 rb rc)/\0=0)){T5}(t5:T5=λ(i:C1)=>(DI.q (C1.i i))){T6}(t6:T6=λ(i:C3)=>(↑(C3.j i):Int)){T7}(t7:T7=(True/\rb=rb/\rc=rc)){T8}(t8:T8=fun
 (i:C3)=>(DI.q (C3.i i))){T9}(t9:T9=(K9 (q.3 rb (rc+0)))){T10}(t10:T10=λ(i:C1)=>(↑(C1.j i):Int)){T11}(t11:T11=λ(i:C1) (pq:C1)=>(True/\DI.b (C1.i i)=DI.b (C1.i pq)/\DI.c (C1.i i)=DI.c (C1.i pq)/\DI.l (C1.i i)=DI.l (C1.i pq)/\DI.k
 (C1.i i)=DI.k (C1.i pq))){T12}(t12:T12=λ(i:C1)=>(wrap IntKind.u32 (p9 (K9 (T3 i))))){T13}(t13:T13=λ(i:C1) (pq:C1)=>(0=0/\0=0/\ts=ts/\(T5 i).3=(DI.q (C1.i pq)).3/\(T5 i).2=(DI.q (C1.i pq)).2/\RM.D (T5 i)=RM.D
 (DI.q (C1.i pq)))){T14}(t14:T14=λ(i:DI)=>(RM.mk (RM.D (DI.q i)) (DI.q i).2 (DI.q i).3)){T15}(t15:T15=λ(i:C3)=>(0+toNat (T6 i)*1)){T16}(t16:T16=λ(pq:C3)=>(DI.q (C3.i pq))){T17}(t17:T17=λ(j:DI)=>((DI.q j).3 T1 0)){T18}(t18:T18=fun
 (i:DI)=>(byO (T14 i) (DI.b i) (DI.c i) (DI.l i) (DI.k i)/\DI.l i<=1000000000)){T19}(t19:T19=λ(pq:C1)=>(hh=(0:Int)/\c1P q rb rc b c l pq)){T20}(t20:T20=(True/\ndN q T1=ndN q T1)){T21}(t21:T21=λ(i:C3)=>((0<=(T6 i)/\(T6 i)<(↑(ndN q
 T1):Int))/\1<=ndN q T1)){T22}(t22:T22=λ(pq:C1)=>(DI.q (C1.i pq))){T23}(t23:T23=(hh-(1:Int))){T24}(t24:T24=λ(i:C1)=>((T5 i).1 T1/\0<(T5 i).2 T1/\C9 .i64 ((T5 i).3 T1 0))){T25}(t25:T25=λ(i:C3)=>((T8 i).1 T1/\0<(T8 i).2 T1/\
 C9 .i64 ((T8 i).3 T1 0))){T26}(t26:T26=λ(i:C3)=>(DI.b (C3.i i))){T27}(t27:T27=λ(i:C3)=>(DI.l (C3.i i))):O9 (X8 H) 1 [(10,c1L ts q rb rc b c l hh),(17,c2L ts q rb rc b c l hh),(23,c3L ts q rb rc b c l hh),(28,c4L ts q rb rc b c l hh)] [hdC ts q rb rc b c l hh] (p7 f122) (A8 f122.ntmps [.pb 0 rb rc, .slb 0 b c l kk, .int .i64 hh] [(0,rwO ts q)] 1) (B5 (X8 H).G.E.T f122.results.toList λS v=>R (Go.Sx.look S.H 0) v)=(
 (q.1 rb/\rc+0<q.2 rb)/\(a2O 207 (q.3 rb (rc+0))/\a1w T9)/\((0:Int)<=0/\(0:Int)<2)/\(q.1 rb/\rc+1+0<q.2 rb/\A0 .f64 (q.3 rb (rc+1+0)))/\∀(i:DI),((byO (RM.mk (RM.D q) q.2 q.3) b c l kk/\l<=1000000000)/\j9
 (q.3 rb (rc+1+0))<18446744073709551616)/\(apd (RM.mk (RM.D q) q.2 q.3) b c l (byL (↑(j9 (q.3 rb (rc+1+0))):Int) 8) i->((0:Int)<=1/\(1:Int)<2)/\((DI.q i).1 rb/\rc+1+1<(DI.q i).2 rb/\A0 .f64 ((DI.q i).3 rb (rc+1 +
 1)))/\∀(i_1:DI),((T18 i)/\j9 ((DI.q i).3 rb (rc+1+1))<18446744073709551616)/\(apd (T14 i) (DI.b i) (DI.c i) (DI.l i) (byL (↑(j9 ((DI.q i).3 rb (rc+1+1))):Int) 8) i_1->((0:Int)<=0/\(0:Int)<(2:Int))/\((DI.q i_1).1 rb
 /\rc+3+0<(DI.q i_1).2 rb/\A0 .f64 ((DI.q i_1).3 rb (rc+3+0)))/\∀(i:DI),((byO (RM.mk (RM.D (DI.q i_1)) (DI.q i_1).2 (DI.q i_1).3) (DI.b i_1) (DI.c i_1) (DI.l i_1) (DI.k i_1)/\DI.l i_1<=1000000000)/\j9 ((DI.q i_1).3 rb (rc+3 +
 0))<18446744073709551616)/\(apd (RM.mk (RM.D (DI.q i_1)) (DI.q i_1).2 (DI.q i_1).3) (DI.b i_1) (DI.c i_1) (DI.l i_1) (byL (↑(j9 ((DI.q i_1).3 rb (rc+3+0))):Int) 8) i->((0:Int)<=1/\(1:Int)<2)/\((DI.q i).1 rb/\rc+3+1<(DI.q
 i).2 rb/\A0 .f64 ((DI.q i).3 rb (rc+3+1)))/\∀(i_2:DI),((T18 i)/\j9 ((DI.q i).3 rb (rc+3+1))<18446744073709551616)/\(apd (T14 i) (DI.b i) (DI.c i) (DI.l i) (byL (↑(j9 ((DI.q i).3 rb (rc+3+1))):Int) 8) i_2->(((DI.q
 i_2).1 (ptB T9)/\ptC T9+0<(DI.q i_2).2 (ptB T9)/\C9 .i64 ((DI.q i_2).3 (ptB T9) (ptC T9+0)))/\∀(i:ApI),appO (RM.D (DI.q i_2)) (DI.q i_2).2 1 1 (DI.b i_2) (DI.c i_2) (DI.l i_2) (DI.k i_2) 1/\(R0 (RM.D (DI.q i_2)) (DI.q i_2).2 (DI.q
 i_2).3 1 (DI.b i_2) (DI.c i_2) (DI.l i_2) (DI.k i_2) 1 [Value.int .u8 (wrap .u8 (p9 ((DI.q i_2).3 (ptB T9) (ptC T9+0))))] i->∃(pq:DI),apd q b c l (hdL q rb rc) pq/\(T7/\(True/\i.1=DI.b pq/\i.2=DI.c pq/\DI.l i_2+1=DI.l pq
 /\i.3=DI.k pq)/\hh=hh/\(True/\ptB T9=kb (q.3 rb rc)/\ptC T9=0)/\True)/\True/\(0=0/\0=0/\ts=ts/\i.6=(DI.q pq).3/\i.5=(DI.q pq).2/\ApI.D i=RM.D (DI.q pq))/\True))/\∀(j:DI),apd q b c l (hdL q rb rc) j->((hh==(0 :
 Int))=true->(∃(pq:C1),(T19 pq)/\(T7/\(True/\DI.b j=DI.b (C1.i pq)/\DI.c j=DI.c (C1.i pq)/\DI.l j=DI.l (C1.i pq)/\DI.k j=DI.k (C1.i pq))/\hh=hh/\T4/\(1:Int)=C1.w pq/\0=(↑(C1.j pq):Int)/\True)/\True/\(0=0/\0=0
 /\ts=ts/\(DI.q j).3=(T22 pq).3/\(DI.q j).2=(T22 pq).2/\RM.D (DI.q j)=RM.D (T22 pq))/\True)/\∀(i:C1),hh=(0:Int)/\c1P q rb rc b c l i->(T24 i)/\(decide ((T10 i)<p9 ((T5 i).3 T1 0))=true->(0<=(T10 i)/\(T10 i)<(17 :
 Int))/\((T5 i).1 T1/\1+toNat (T10 i)*5+0<(T5 i).2 T1)/\(a2O 3 (T3 i)/\C9 .i64 (K9 (T3 i)))/\(decide (C1.w i<nbI (T12 i))=true->∃(pq:C1),(T19 pq)/\ndN q T1-C1.j pq<ndN q T1-C1.j i/\(T7/\(T11 i pq)/\hh=hh/\
 T4/\nbI (T12 i)=C1.w pq/\wrap .i64 ((T10 i)+(1:Int))=(↑(C1.j pq):Int)/\True)/\True/\(T13 i pq)/\True)/\(decide (C1.w i<nbI (T12 i))=false->∃(pq:C1),(T19 pq)/\ndN q T1-C1.j pq<ndN q T1-C1.j i/\(T7/\(T11 i pq)
 /\hh=hh/\T4/\C1.w i=C1.w pq/\wrap .i64 ((T10 i)+1)=(↑(C1.j pq):Int)/\True)/\True/\(T13 i pq)/\True))/\(decide ((T10 i)<p9 ((T5 i).3 T1 0))=false->∀(i_3:ApI),appO (RM.D (T5 i)) (T5 i).2 1 1 (DI.b (C1.i i)) (DI.c
 (C1.i i)) (DI.l (C1.i i)) (DI.k (C1.i i)) 1/\(R0 (RM.D (T5 i)) (T5 i).2 (T5 i).3 1 (DI.b (C1.i i)) (DI.c (C1.i i)) (DI.l (C1.i i)) (DI.k (C1.i i)) 1 [Value.int .u8 (C1.w i)] i_3->(∃(pq:C1),(hh=(0:Int)/\c2P q rb rc b c l pq)/\(T7/\(True
 /\i_3.1=DI.b (C1.i pq)/\i_3.2=DI.c (C1.i pq)/\DI.l (C1.i i)+1=DI.l (C1.i pq)/\i_3.3=DI.k (C1.i pq))/\hh=hh/\T4/\C1.w i=C1.w pq/\(0:Int)=(↑(C1.j pq):Int)/\True)/\True/\(0=0/\0=0/\ts=ts/\i_3.6=(T22 pq).3/\i_3.5
 = (T22 pq).2/\ApI.D i_3=RM.D (T22 pq))/\True)/\∀(i:C1),hh=(0:Int)/\c2P q rb rc b c l i->(T24 i)/\(decide ((T10 i)<p9 ((T5 i).3 T1 0))=true->(0<=(T10 i)/\(T10 i)<17)/\((T5 i).1 T1/\1+toNat (T10 i)*5+0<(T5 i).2
 T1)/\(a2O 3 (T3 i)/\C9 .i64 (K9 (T3 i)))/\∀(i_4:DI),((byO (RM.mk (RM.D (T5 i)) (T5 i).2 (T5 i).3) (DI.b (C1.i i)) (DI.c (C1.i i)) (DI.l (C1.i i)) (DI.k (C1.i i))/\DI.l (C1.i i)<=1000000000)/\((0:Int)<=wrap IntKind.u32 (p9
 (K9 (T3 i)))/\wrap IntKind.u32 (p9 (K9 (T3 i)))<(4294967296:Int))/\(C1.w i=(1:Int)∨C1.w i=(2:Int)∨C1.w i=(4:Int)))/\(apd (RM.mk (RM.D (T5 i)) (T5 i).2 (T5 i).3) (DI.b (C1.i i)) (DI.c (C1.i i)) (DI.l (C1.i i)) (byL
 (T12 i) (toNat (C1.w i))) i_4->∃(pq:C1),(hh=(0:Int)/\c2P q rb rc b c l pq)/\ndN q T1-C1.j pq<ndN q T1-C1.j i/\(T7/\(True/\DI.b i_4=DI.b (C1.i pq)/\DI.c i_4=DI.c (C1.i pq)/\DI.l i_4=DI.l (C1.i pq)/\DI.k i_4=DI.k
 (C1.i pq))/\hh=hh/\T4/\C1.w i=C1.w pq/\wrap .i64 ((T10 i)+1)=(↑(C1.j pq):Int)/\True)/\True/\(0=0/\0=0/\ts=ts/\(DI.q i_4).3=(T22 pq).3/\(DI.q i_4).2=(T22 pq).2/\RM.D (DI.q i_4)=RM.D (T22 pq))/\True))/\
 (decide ((T10 i)<p9 ((T5 i).3 T1 0))=false->R (Option.some (Ob.mk true 0 (b9.raw ts (RM.D (T5 i)) (T5 i).2 (T5 i).3) 0)) (SV.slb 0 (DI.b (C1.i i)) (DI.c (C1.i i)) (DI.l (C1.i i)) (DI.k (C1.i i)))))))/\((hh==(0:Int))=false->((DI.q
 j).1 T1/\0<(DI.q j).2 T1/\C9 .i64 (T17 j))/\(p9 (T17 j)=p9 (T17 j)/\(0:Int)<=p9 (T17 j)/\p9 (T17 j)<=(9223372036854775807:Int)/\p9 (T17 j)*(8:Int)<=140737488355328)/\(∃(pq:C3),(hh≠(0:Int)/\c3P q rb rc b c l
 pq)/\(T7/\(True/\DI.b j=DI.b (C3.i pq)/\DI.c j=DI.c (C3.i pq)/\DI.l j=DI.l (C3.i pq)/\DI.k j=DI.k (C3.i pq))/\hh=hh/\T4/\(True/\toNat (p9 (T17 j))=ndN q T1)/\0=(↑(C3.j pq):Int)/\True)/\True/\(0=0/\0=0/\ts =
 ts/\(DI.q j).3=(T16 pq).3/\(DI.q j).2=(T16 pq).2/\RM.D (DI.q j)=RM.D (T16 pq))/\True/\(3=3/\1=1/\ndN q T1<=toNat (p9 (T17 j))*1/\∀(i:Nat),i<ndN q T1->(0:Int)=pq.3 i)/\True)/\∀(i:C3),hh≠(0:Int)/\c3P q
 rb rc b c l i->(T25 i)/\(decide ((T6 i)<p9 ((T8 i).3 T1 0))=true->(T21 i)/\0+toNat (T6 i)*1+1<=ndN q T1/\∀(i_3:ApI),appO (RM.D (T8 i)) (T8 i).2 1 1 (T26 i) (DI.c (C3.i i)) (T27 i) (DI.k (C3.i i)) 4/\(R0 (RM.D (T8 i)) (T8
 i).2 (T8 i).3 1 (T26 i) (DI.c (C3.i i)) (T27 i) (DI.k (C3.i i)) 4 [Value.int .u8 (0:Int),Value.int .u8 (0:Int),Value.int .u8 (0:Int),Value.int .u8 (0:Int)] i_3->∃(pq:C3),(hh≠(0:Int)/\c3P q rb rc b c l pq)/\ndN q T1-C3.j pq <
 ndN q T1-C3.j i/\(T7/\(True/\i_3.1=DI.b (C3.i pq)/\i_3.2=DI.c (C3.i pq)/\DI.l (C3.i i)+4=DI.l (C3.i pq)/\i_3.3=DI.k (C3.i pq))/\hh=hh/\T4/\T20/\wrap .i64 ((T6 i)+1)=(↑(C3.j pq):Int)/\True)/\True/\(0=0/\0 =
 0/\ts=ts/\i_3.6=(T16 pq).3/\i_3.5=(T16 pq).2/\ApI.D i_3=RM.D (T16 pq))/\True/\(3=3/\1=1/\ndN q T1<=ndN q T1/\∀(i_4:Nat),i_4<ndN q T1->upd (C3.g i) (T15 i) (↑(T27 i):Int) i_4=pq.3 i_4)/\True))/\(decide ((T6 i)<p9
 ((T8 i).3 T1 0))=false->(∃(pq:C3),(hh≠(0:Int)/\c4P q rb rc b c l (toNat hh-1) pq)/\(T7/\(True/\DI.b (C3.i i)=DI.b (C3.i pq)/\DI.c (C3.i i)=DI.c (C3.i pq)/\DI.l (C3.i i)=DI.l (C3.i pq)/\DI.k (C3.i i)=DI.k (C3.i pq))/\
 hh=hh/\T4/\T20/\0=(↑(C3.j pq):Int)/\True)/\True/\(0=0/\0=0/\ts=ts/\(T8 i).3=(T16 pq).3/\(T8 i).2=(T16 pq).2/\RM.D (T8 i)=RM.D (T16 pq))/\True/\(3=3/\1=1/\ndN q T1<=ndN q T1/\∀(i_3:Nat),i_3<ndN q T1->i.3
 i_3=pq.3 i_3)/\True)/\∀(i:C3),hh≠(0:Int)/\c4P q rb rc b c l (toNat hh-1) i->(T25 i)/\(decide ((T6 i)<p9 ((T8 i).3 T1 0))=true->∀(_:Unit),(T21 i)/\0+toNat (T6 i)*1+1<=ndN q T1/\((0:Int)<=i.3 (T15 i)/\
 toNat (i.3 (T15 i))<=DI.l (C3.i i)/\toNat (i.3 (T15 i))<DI.k (C3.i i))/\(((0:Int)<=wrap IntKind.u32 (↑(T27 i):Int)/\wrap IntKind.u32 (↑(T27 i):Int)<4294967296)/\(4<=DI.l (C3.i i)-toNat (i.3 (T15 i))/\
 (T8 i).1 (T26 i)/\DI.c (C3.i i)+toNat (i.3 (T15 i))*1+4<=(RM.mk (RM.D (T8 i)) (RM.S (T8 i)) (RM.F (T8 i))).2 (T26 i))/\C9 .u8 ((RM.mk (RM.D (T8 i)) (RM.S (T8 i)) (RM.F (T8 i))).3 (T26 i) (DI.c (C3.i i)+toNat (i.3 (T15 i))*1 +
 3)))/\true=true/\(True->((0:Int)<=(T6 i)/\(T6 i)<17)/\∀(i_4:DI),(0=0/\((0:Int)<=wrap .i64 T23/\wrap .i64 T23<(↑H:Int)/\wrap .i64 T23<(1000:Int))/\b5N (T2 i) T1 (1+toNat (T6 i)*5) (T26
 i) (DI.c (C3.i i)) (T27 i) (DI.k (C3.i i)) (toNat (wrap .i64 T23)))/\(b3F (T2 i) T1 (1+toNat (T6 i)*5) (T26 i) (DI.c (C3.i i)) (T27 i) (toNat (wrap .i64 T23)) i_4->∃(pq:C3),(hh≠(0:Int)/\c4P q rb rc b c l
 (toNat hh-1) pq)/\ndN q T1-C3.j pq<ndN q T1-C3.j i/\(T7/\(True/\DI.b i_4=DI.b (C3.i pq)/\DI.c i_4=DI.c (C3.i pq)/\DI.l i_4=DI.l (C3.i pq)/\DI.k i_4=DI.k (C3.i pq))/\hh=hh/\T4/\T20/\wrap .i64 ((T6 i)+1) =
 (↑(C3.j pq):Int)/\True)/\True/\(0=0/\0=0/\ts=ts/\(DI.q i_4).3=(T16 pq).3/\(DI.q i_4).2=(T16 pq).2/\RM.D (DI.q i_4)=RM.D (T16 pq))/\True/\(3=3/\1=1/\ndN q T1<=ndN q T1/\∀(i_5:Nat),i_5<ndN q T1->i.3 i_5=pq.3
 i_5)/\True)))/\(decide ((T6 i)<p9 ((T8 i).3 T1 0))=false->R (Option.some (Ob.mk true 0 (b9.raw ts (RM.D (T8 i)) (T8 i).2 (T8 i).3) 0)) (SV.slb 0 (T26 i) (DI.c (C3.i i)) (T27 i) (DI.k (C3.i i))))))))))):=by subst t1 t2 t3 t4 t5 t6 t7 t8 t9 t10 t11 t12 t13 t14 t15 t16 t17 t18 t19 t20 t21 t22 t23 t24 t25 t26 t27;kernel_rfl
theorem c9F(H:Nat)(ih:A5 prog 122 (q7 DI ⟨default⟩ (b3k H))):A5 prog 122 (q7 (DI) ⟨default⟩ (c2v (H+1))):=by
 refine E4 (x8 H ih) func122 rfl (by kernel_rfl) λargs=>?_
 unfold c2v;split;rotate_left;trivial;rename_i n rb rc n1 b c l kk hh;intro o0;try dsimp only
 split;rotate_left;trivial;rename_i ts q hm0;intro ho;replace ho:n=n1/\((0<=hh/\hh<((H+1):Int)/\hh<1000)/\b5N q rb rc b c l kk hh.toNat):=ho;obtain⟨heq0,ho⟩:=ho;subst heq0;refine⟨?_,Nat.succ_pos _,ts,λ(i:DI)=>i.q,λ(i:DI)=>.slb 0 i.b i.c i.l i.k,λ_=>rfl,?_,_,_,(c0F (K0 1 ts (λ(i:DI)=>b3F q rb rc b c l hh.toNat i) (λ(i:DI)=>i.q) (λ(i:DI)=>.slb 0 i.b i.c i.l i.k)) H ts q rb rc b c l kk hh rfl rfl rfl rfl rfl rfl rfl rfl rfl rfl rfl rfl rfl rfl rfl rfl rfl rfl rfl rfl rfl rfl rfl rfl rfl rfl rfl).mpr ?_⟩
 ·refine l9 rfl ⟨λ_=>rfl,?_,⟨trivial,C6 hm0,trivial⟩⟩;simp[y5,z6,A4,z7,z5,nth,a9]
 ·intro i _;rfl
 ·obtain⟨⟨hh0,hhK,hh1000⟩,hO,k,ha,hbd⟩:=ho;obtain⟨n1,n2,n3,n4,n5⟩:=ha.node;obtain⟨f1,f2,f3,f4⟩:=n4.facts;have hS:=ha.S;have hN86:=n1.S;have hle1:=hO.le;have hpos:=ha.tr.cnt;have hn1:=ha.n
  have hbig:l+102*k.its.length<=100000000:=by
   have:(hh.toNat+1)*k.its.length=hh.toNat*k.its.length+k.its.length:=by rw[Nat.add_mul,Nat.one_mul]
   omega
  simp only[true_and,and_true,eq_self,tN9,Nat.mul_one,decide_eq_true_eq,decide_eq_false_iff_not,true_implies,Int.reduceLE,Int.reduceLT,Int.le_refl];simp only[Nat.add_zero,f3,f4,n3];obtain⟨x0,x1,x2,x3⟩:=ha.box;refine⟨⟨ha.D,by omega⟩,⟨f1,f2⟩,⟨ha.D,by omega,x0.flt⟩,λi1=>⟨⟨⟨hO,by omega⟩,x0.bits⟩,λp1=>?_⟩⟩;obtain⟨⟨a1,a2,a3⟩,a4,a5,a6⟩:=ha.off p1;have l1:=p1.n;rw[G4]at l1;simp only[a6];refine⟨⟨a4,by omega,x1.flt⟩,λi2=>⟨⟨⟨p1.o,by omega⟩,x1.bits⟩,λp2=>?_⟩⟩;have p12:=p1.trans p2;obtain⟨⟨b1,b2,b3⟩,b4,b5,b6⟩:=ha.off p12;have l2:=p2.n;rw[G4]at l2;simp only[b6]
  refine⟨⟨b4,by omega,x2.flt⟩,λi3=>⟨⟨⟨p2.o,by omega⟩,x2.bits⟩,λp3=>?_⟩⟩;have p123:=p12.trans p3;obtain⟨⟨c1,c2,c3⟩,c4,c5,c6⟩:=ha.off p123;have l3:=p3.n;rw[G4]at l3;simp only[c6];refine⟨⟨c4,by omega,x3.flt⟩,λi4=>⟨⟨⟨p3.o,by omega⟩,x3.bits⟩,λp4=>?_⟩⟩;have p1234:=p123.trans p4;obtain⟨⟨d1,d2,d3⟩,d4,d5,d6⟩:=ha.off p1234;obtain⟨e1,e2⟩:=ha.cnt p1234;have l4:=p4.n;rw[G4]at l4;simp only[e2];refine⟨⟨⟨d1,by omega,by rw[e1];rfl⟩,λi5=>⟨L7 p4.o (by omega) (by omega),λhp=>?_⟩⟩,?_⟩
  ·have hw:wrap .u8 ((k.n:Nat):Int)=((k.n:Nat):Int):=by rw[a5P];omega
   rw[hw]at hp;have p5:=K5 p4.o (us:=[((k.n:Nat):Int)]) rfl (by intro x hx;simp at hx;omega) rfl hp;have p6:=p1234.trans p5
   have hh:apd q b c l (hdL q rb rc) ⟨⟨i5.D,i5.S,i5.F⟩,i5.b,i5.c,i4.l+1,i5.k⟩:=by
    have:hdL q rb rc=byL (j9 (q.F rb (rc+1)):Nat) 8++byL (j9 (q.F rb (rc+2)):Nat) 8++byL (j9 (q.F rb (rc+3)):Nat) 8++byL (j9 (q.F rb (rc+4)):Nat) 8++[((k.n:Nat):Int)]:=by
     unfold hdL;rw[n3,n2]
    rw[this];exact p6
   exact⟨_,hh,(by and_intros <;> first|trivial|rfl|(rw[j8 (by omega) (by omega)];first|rfl|omega))⟩
  clear e1 e2 p1 p2 p3 p4 p12 p123 p1234 a1 a2 a3 a4 a5 a6 b1 b2 b3 b4 b5 b6 c1 c2 c3 c4 c5 c6 d1 d2 d3 d4 d5 d6 l1 l2 l3 l4;intro j hj;have hjn:=hj.n;rw[V4]at hjn;obtain⟨⟨a1,a2,a3⟩,a4,a5,a6⟩:=ha.off hj;obtain⟨e1,e2⟩:=ha.cnt hj;have e0:p9 (q.F k.b 0)=(k.n:Nat):=by rw[n1.n];show ((ndN q k.b:Nat):Int)=_;rw[n2]
  refine⟨λh0=>?_,λh0=>?_⟩
  ·have h0:hh=0:=by simpa using h0
   subst h0;have ha0:a0b q rb rc 0 k b:=ha;have hkl:k.n=k.its.length:=ha0.tr.2.1
   have item:∀ t,t<k.n->∃ it,k.its[t]? = some it/\q.F k.b (1+t*5)=.iface 3 (.int .i64 it.1)/\itI q k.b t=it.1/\0<=it.1/\it.1<4294967296:=λt ht=>by
    have hg:=List.getElem?_eq_getElem (by omega:t<k.its.length);obtain⟨g1,g2⟩:=b3U ha0 hg;rw[Nat.mul_comm]at g1;exact⟨_,hg,g1,g2,ha0.it _ (List.mem_of_getElem? hg)⟩
   have hw32:∀ v:Int,0<=v->v<4294967296->wrap .u32 v=v:=λv v0 v1=>by
    show v % 4294967296=v;omega
   refine⟨⟨⟨j,0,1⟩,⟨rfl,hj,Nat.zero_le _, .inl rfl,λt ht=>absurd ht (Nat.not_lt_zero t)⟩,(by and_intros <;> first|trivial|rfl|(rw[j8 (by omega) (by omega)];first|rfl|omega))⟩,?_⟩;rintro p ⟨_,p1,p2,p3,p4⟩;obtain⟨⟨b1,b2,b3⟩,b4,b5,b6⟩:=ha.off p1;obtain⟨g1,g2⟩:=ha.cnt p1;have hpn:=p1.n;rw[V4]at hpn;rw[n3]at p2 p4;rw[n2]at p2;simp only[b3,e0,n2];refine⟨⟨b1,by omega,by rw[n1.n];rfl⟩,λhlt=>?_,λhge=>?_⟩
   ·obtain⟨it,i1,i2,i3,i4,i5⟩:=item p.j (by omega);have hj1:p.j+1<=ndN q (kb (q.F rb rc)):=by rw[n3,n2];omega
    simp only[i2,K9,p9,hw32 _ i4 i5];refine⟨⟨by omega,by omega⟩,⟨b1,by omega⟩,⟨rfl,rfl⟩,λhw=>⟨⟨p.i,p.j+1,nbI it.1⟩,⟨trivial,p1,hj1,b3f _,λt ht=>?_⟩,?_,(by and_intros <;> first|trivial|rfl|(rw[j8 (by omega) (by omega)];first|rfl|omega))⟩,λhw=>⟨⟨p.i,p.j+1,p.w⟩,⟨trivial,p1,hj1,p3,λt ht=>?_⟩,?_,(by and_intros <;> first|trivial|rfl|(rw[j8 (by omega) (by omega)];first|rfl|omega))⟩⟩
    ·rw[n3];show nbI (itI q k.b t)<=nbI it.1;rcases Nat.lt_or_ge t p.j with c|c
     ·have:=p4 t c;omega
     ·have:t=p.j:=by have ht:t<p.j+1:=ht;omega
      subst this;rw[i3];exact Int.le_refl _
    ·show k.n-(p.j+1)<k.n-p.j;omega
    ·rw[n3];show nbI (itI q k.b t)<=p.w;rcases Nat.lt_or_ge t p.j with c|c
     ·exact p4 t c
     ·have:t=p.j:=by have ht:t<p.j+1:=ht;omega
      subst this;rw[i3];omega
    ·show k.n-(p.j+1)<k.n-p.j;omega
   ·have hpj:p.j=k.n:=by omega
    refine λi3=>⟨L7 p1.o (by omega) (by omega),λhp=>⟨?_,?_⟩⟩
    ·have p5:=K5 p1.o (us:=[p.w]) rfl (by intro x hx;simp at hx;subst hx;exact p3.r) rfl hp;have p6:=p1.trans p5;refine⟨⟨⟨⟨i3.D,i3.S,i3.F⟩,i3.b,i3.c,p.i.l+1,i3.k⟩,0,p.w⟩,⟨trivial,?_,Nat.zero_le _,p3,λt ht=>?_⟩,(by and_intros <;> first|trivial|rfl|(rw[j8 (by omega) (by omega)];first|rfl|omega))⟩
     ·simpa using p6
     ·rw[n3];rw[n3,n2]at ht;exact p4 t (by omega)
    rintro p' ⟨_,q1,q2,q3,q4⟩;obtain⟨⟨b1,b2,b3⟩,b4,b5,b6⟩:=ha.off q1;obtain⟨g1,g2⟩:=ha.cnt q1;have hpn:=q1.n;have hfl:((List.range p'.j).flatMap λt=>byL (itI q (kb (q.F rb rc)) t) p'.w.toNat).length=p'.w.toNat*p'.j:=a0c (λt=>G4 _ _) p'.j;rw[List.length_append,List.length_append,V4,hfl]at hpn;have hw4:p'.w.toNat<=4:=by unfold wOk at q3;omega
    have hmul:p'.w.toNat*p'.j<=4*p'.j:=Nat.mul_le_mul_right _ hw4;rw[n3,n2]at q2;simp only[List.length_cons,List.length_nil]at hpn;simp only[b3,e0];refine⟨⟨b1,by omega,by rw[n1.n];rfl⟩,λhlt=>?_,λhge=>?_⟩
    ·obtain⟨it,i1,i2,i3,i4,i5⟩:=item p'.j (by omega);have hj1:p'.j+1<=ndN q (kb (q.F rb rc)):=by rw[n3,n2];omega
     simp only[i2,K9,p9,hw32 _ i4 i5];refine⟨⟨by omega,by omega⟩,⟨b1,by omega⟩,⟨rfl,rfl⟩,λi4'=>⟨⟨⟨q1.o,by omega⟩,⟨i4,i5⟩,q3⟩,λhp=>⟨⟨i4',p'.j+1,p'.w⟩,⟨trivial,?_,hj1,q3,q4⟩,?_,(by and_intros <;> first|trivial|rfl|(rw[j8 (by omega) (by omega)];first|rfl|omega))⟩⟩⟩
     ·have:=q1.trans hp;rw[List.range_succ,List.flatMap_append];simp only[List.flatMap_cons,List.flatMap_nil,List.append_nil];rw[n3]at this ⊢;rw[i3,<-List.append_assoc];exact this
     ·show k.n-(p'.j+1)<k.n-p'.j;omega
    ·have hpj2:p'.j=ndN q (kb (q.F rb rc)):=by rw[n3,n2];omega
     refine⟨p'.i,λk2 ha2 hb2=>b8U ha2 ⟨q1,by rw[hpj2];exact Nat.le_refl _,q3,q4⟩ hpj2,rfl,⟨trivial,rfl,rfl,rfl,rfl⟩⟩
  ·have h0:hh≠0:=by simpa using h0
   obtain⟨h,rfl⟩:∃ h:Nat,hh=((h+1:Nat):Int):=⟨hh.toNat-1,by omega⟩;have ha1:a0b q rb rc (h+1) k b:=ha;have hbd1:l+102*((h+2)*k.its.length)<=100000000:=hbd;have hw:IntKind.i64.wrap (((h+1:Nat):Int)-1)=((h:Nat):Int):=by rw[j8 (by omega) (by omega)];omega
   simp only[hw,tN9,Nat.add_sub_cancel,a3,e0,n2];refine⟨⟨a1,by omega,by rw[n1.n];rfl⟩,⟨by omega,by omega,by omega⟩,⟨⟨j,0,λ_=>0⟩,⟨h0,by simpa using hj,Nat.zero_le _,λt ht=>absurd ht (Nat.not_lt_zero t)⟩,?_⟩,?_⟩
   ·and_intros <;> first|trivial|rfl|(rw[n3];exact n2.symm)|(rw[n3,n2];omega)|(intro i hi;rfl)|skip
    exact Nat.le_refl _
   rintro p ⟨_,p1,p2,p3⟩;obtain⟨⟨b1,b2,b3⟩,b4,b5,b6⟩:=ha.off p1;have hpn:=p1.n;rw[List.length_append,V4,List.length_replicate]at hpn;rw[n3,n2]at p2;simp only[b3,e0];refine⟨⟨b1,by omega,by rw[n1.n];rfl⟩,λhlt=>?_,λhge=>?_⟩
   ·refine⟨⟨⟨by omega,by omega⟩,by omega⟩,by omega,λi3=>⟨L7 p1.o (by omega) (by omega),λhp=>?_⟩⟩;have p5:=K5 p1.o (us:=[0,0,0,0]) rfl (by decide) rfl hp;have p6:=p1.trans p5;refine⟨⟨⟨⟨i3.D,i3.S,i3.F⟩,i3.b,i3.c,p.i.l+4,i3.k⟩,p.j+1,upd p.g (0+p.j) (p.i.l:Nat)⟩,⟨h0,?_,by show p.j+1<=_;rw[n3,n2];omega,λt ht=>?_⟩,by show k.n-(p.j+1)<k.n-p.j;omega,⟨⟨rfl,rfl,rfl,rfl⟩,?_⟩,⟨rfl,rfl,rfl⟩,Nat.le_refl _,λi hi=>rfl⟩
    ·have:hdL q rb rc++List.replicate (4*(p.j+1)) 0=hdL q rb rc++List.replicate (4*p.j) 0++[0,0,0,0]:=by
      rw[List.append_assoc,Nat.mul_add,<-List.replicate_append_replicate];rfl
     show apd q b c l (hdL q rb rc++List.replicate (4*(p.j+1)) 0) _;rw[this];exact p6
    ·have ht:t<p.j+1:=ht;show upd p.g (0+p.j) (p.i.l:Nat) t=_;rw[Nat.zero_add];by_cases c:t=p.j
     ·subst c;unfold upd;simp;omega
     ·have:=p3 t (by omega);unfold upd;simp[c];omega
    ·rw[j8 (by omega) (by omega)];rfl
   ·have hpj:p.j=k.n:=by omega
    refine⟨⟨⟨p.i,0,p.g⟩,⟨h0,Nat.zero_le _,λt ht=>p3 t (by rw[n3,n2]at ht;omega),λk2 ha2 _=>b6Z ha2 p1 ?_ rfl rfl⟩,⟨⟨rfl,rfl,rfl,rfl⟩,rfl⟩,⟨rfl,rfl,rfl⟩,Nat.le_refl _,λi hi=>rfl⟩,?_⟩
    ·obtain⟨_,m2,m3,_⟩:=ha2.node;rw[hpj,<-n2,<-m2,<-n3,<-m3]
    rintro p' ⟨_,q1,q2,q3⟩;have hK:=q3 k ha1 hbd1;obtain⟨us,u1,_⟩:=id hK;obtain⟨⟨b1,b2,b3⟩,b4,b5,b6⟩:=ha.off u1;rw[n3,n2]at q1 q2;simp only[b3,e0];refine⟨⟨b1,by omega,by rw[n1.n];rfl⟩,λhlt=>?_,λhge=>?_⟩
    ·obtain⟨s1,s2,s3,s4,s5⟩:=b3X ha1 hbd1 hK (by omega);have s6:=s3.le;have s7:=s3.S;have hg:=q2 p'.j (by omega)
     have hu:wrap .u32 ((p'.i.l:Nat):Int)=((p'.i.l:Nat):Int):=by
      show ((p'.i.l:Nat):Int) % 4294967296=_;omega
     have hby:=(s3.is (l+(33+4*p'.j)+3) (by omega)).i;rw[<-Nat.add_assoc]at hby;have t1:(0:Int)<=(p'.j:Int)/\(p'.j:Int)<(k.n:Int):=by omega
     have t2:(0:Int)<=(p'.j:Int)/\(p'.j:Int)<17:=by omega
     simp only[Nat.zero_add,hg,hu,tN9];refine λ_=>⟨⟨t1,by omega⟩,by omega,⟨by omega,by omega,by omega⟩,⟨⟨by omega,by omega⟩,⟨by omega,s3.D,by omega⟩,hby⟩,t2,λi4=>⟨⟨⟨by omega,by omega,by omega⟩,s4⟩,λhc=>⟨⟨i4,p'.j+1,p'.g⟩,⟨h0,by show p'.j+1<=_;rw[n3,n2];omega,by rw[n3,n2];exact q2,λk2 ha2 hb2=>(b3X ha2 hb2 (q3 k2 ha2 hb2) ?_).2.2.2.2 i4 ?_⟩,by show k.n-(p'.j+1)<k.n-p'.j;omega,⟨⟨rfl,rfl,rfl,rfl⟩,?_⟩,⟨rfl,rfl,rfl⟩,Nat.le_refl _,λi hi=>rfl⟩⟩⟩
     ·obtain⟨_,m2,m3,_⟩:=ha2.node;rw[<-m2,<-m3,n3,n2];omega
     ·obtain⟨_,m2,m3,_⟩:=ha2.node;rw[<-m3,n3];exact hc
     ·rw[j8 (by omega) (by omega)];rfl
    ·have hpj2:p'.j=k.n:=by omega
     refine⟨p'.i,λk2 ha2 hb2=>c4n ha2 (q3 k2 ha2 hb2) ?_,rfl,⟨trivial,rfl,rfl,rfl,rfl⟩⟩;obtain⟨_,m2,m3,_⟩:=ha2.node;rw[<-m2,<-m3,n3,n2];exact hpj2
end
theorem b6J:A5 prog 122 (q7 DI ⟨default⟩ (b3k 0)):=by
 refine a1W x0 func122 rfl (by kernel_rfl) λargs=>?_
 unfold b3k;split;rotate_left;trivial;rename_i n rb rc n1 b c l kk hh;intro o0;try dsimp only
 split;rotate_left;trivial;intro ho;exfalso;obtain⟨_,⟨h1,h2,_⟩,_⟩:=ho;omega
theorem b9f:∀ H,A5 prog 122 (q7 DI ⟨default⟩ (b3k H))
 | 0=>b6J
 | H+1=>c9F H (b9f H)
structure a3B (q:RM) (tb tc b l:Nat) (fp:List Nat) (its:List (Int×Bx)):Prop where
 t:isRT q tb tc fp its
 bf:b∉fp
 bt:b≠tb
 le:its.length<=100
 l:l<=1000
 it:∀ x∈its,0<=x.1/\x.1<4294967296
def a4t(q:RM)(tb tc b c l:Nat)(i:DI):Prop:=∀ fp its,a3B q tb tc b l fp its->∃ us,apd q b c l us i/\i.l<=2000000/\(its=[]->us=[])/\
 (its≠[]->∃ h its' B,its'.Perm its/\h<=100/\bG i l=((h:Nat):Int)/\l+1<=i.l/\a0t (bG i) h (l+1) i.l its' B)
noncomputable def X9:G9:=⟨G0,[(122,q7 DI ⟨default⟩ (b3k 200))],[],[],[(185,0)]⟩
theorem x9:C0 prog X9:=⟨g0,y9.cons (b9f 200) y9.nil⟩
theorem b9M{q:RM}{b c l k:Nat}(hO:byO q b c l k):apd q b c l [] ⟨q,b,c,l,k⟩ :=
 ⟨hO,rfl,λ_ _=>rfl,λj x hx=>by simp at hx,λx hx=>⟨hx,rfl,λ_ _=>rfl⟩, .inl rfl⟩
section
variable {q:RM} {tb tc b c l kk:Nat} {fp:List Nat} {its:List (Int×Bx)}
theorem c0e(hp:a3B q tb tc b l fp its):q.D tb/\tc+8<=q.S tb/\a8V (q.F tb (tc+1)):=by
 rcases hp.t with⟨_,_,h1,h2,_,h4,_⟩|⟨_,k,ha,_⟩
 ·exact⟨h1,h2, .inl h4⟩
 ·exact⟨ha.D,ha.S, .inr ⟨_,_,ha.ref⟩⟩
theorem b9D(hO:byO q b c l kk)(hn:U2 (q.F tb (tc+1))=true):a4t q tb tc b c l ⟨q,b,c,l,kk⟩:=by
 intro fp its hp;rcases hp.t with⟨h1,_⟩|⟨_,k,ha,_⟩
 ·exact⟨[],b9M hO,by have:=hp.l;show l<=2000000;omega,λ_=>rfl,λh=>absurd h1 h⟩
 ·rw[ha.ref]at hn;exact absurd hn (λe=>nomatch e)
theorem b4x(hp:a3B q tb tc b l fp its)(hn:U2 (q.F tb (tc+1))=false):∃(h:Nat)(k:Kid),q.F tb tc=.int .i64 (h:Nat)/\h<=100/\a0b q tb (tc+1) h k b/\k.its.Perm its/\k.its.length<=100/\its≠[]:=by
 rcases hp.t with⟨_,_,_,_,_,t4,_⟩|⟨h',k,ha,hk,rfl,hpm,hh,hc⟩
 ·rw[t4]at hn;exact absurd hn (λe=>nomatch e)
 ·have hl:=hpm.length_eq;have hle:=hp.le;have hS:=ha.S;have hcnt:=ha.tr.cnt;refine⟨h',k,ha.hgt,by omega,⟨ha.D,by omega,ha.ref,ha.box,ha.tr,hk.1,λe=>ha.tfp (e▸ha.tr.fp0),ha.nd,hp.bt,hp.bf,λx hx=>hp.it x (hpm.mem_iff.1 hx)⟩,hpm,by omega,λe=>?_⟩;have h0:its.length=0:=by rw[e];rfl
  omega
theorem b1s{h:Nat}{k:Kid}(hp:a3B q tb tc b l fp its)(hh:h<=100)(hk:k.its.length<=100):l+1+102*((h+1)*k.its.length)<=2000000:=by
 have h1:(h+1)*k.its.length<=101*100:=Nat.mul_le_mul (by omega) hk;have:=hp.l;omega
theorem c0Z{h:Nat}(hh:q.F tb tc=.int .i64 (h:Nat))(hn:U2 (q.F tb (tc+1))=false){i1 i:DI}(h1:apd q b c l [((h:Nat):Int)] i1)(h2:b3F i1.q tb (tc+1) i1.b i1.c (l+1) h i):a4t q tb tc b c l i:=by
 intro fp its hp;obtain⟨h',k,e1,e2,e3,e4,e5,e6⟩:=b4x hp hn
 have e:h=h':=by
  rw[e1]at hh;simp only[Value.int.injEq,true_and,Int.natCast_inj]at hh;exact hh.symm
 subst e;have hb:=b1s hp e2 e5;obtain⟨us,u1,u2,u3⟩:=h2 k (e3.keep h1) (by omega);have hl1:i1.l=l+1:=h1.n;have hall:=h1.trans (i':=i) (us':=us) (by rw[hl1];exact u1);have hn2:=u1.n;refine⟨_,hall,by omega,λe=>absurd e e6,λ_=>⟨h,k.its,k.B,e4,e2,?_,by omega,u3⟩⟩;have:=a1c hall (j:=0) (x:=((h:Nat):Int)) rfl;simpa using this
end
noncomputable def b2I:List SV->RRd (DI)
 | [.pb n tb tc, .slb n1 b c l kk]=>.read n λo0=>(match J4 o0 with
  | some (ts,q)=>.ret ⟨[.pb 0 tb tc, .slb 0 b c l kk],[(0,rwO ts q)],some (n=n1/\(byO q b c l kk/\∃ fp its,a3B q tb tc b l fp its)),λi=>a4t q tb tc b c l i,λi=>⟨[],[], .slb 0 i.b i.c i.l i.k,[(0,rwO ts (i.q))],[],none⟩⟩
  | none=>.fail)
 | _=>.fail
theorem b7z(R:Option Ob->SV->Prop)(ts:List Nat)(q:RM)(tb tc b c l kk:Nat){T1}(t1:T1=λ(i:ApI)=>(i.6 tb (tc+0))):O9 X9 1 [] [] (p7 f116) (A8 f116.ntmps [.pb 0 tb tc, .slb 0 b c l kk] [(0,rwO ts q)] 1) (B5 X9.G.E.T f116.results.toList λS v=>R (Go.Sx.look S.H 0) v)=(
 (q.1 tb/\tc+1+0<q.2 tb)/\a8V (q.3 tb (tc+1+0))/\(U2 (q.3 tb (tc+1+0))=true->R (Option.some (Ob.mk true 0 (b9.raw ts (RM.D q) q.2 q.3) 0)) (SV.slb 0 b c l kk))/\(U2 (q.3 tb (tc+1+0))=false->(q.1 tb/\tc+0<q.2 tb
 /\C9 .i64 (q.3 tb (tc+0)))/\∀(i:ApI),appO (RM.D q) q.2 1 1 b c l kk 1/\(R0 (RM.D q) q.2 q.3 1 b c l kk 1 [Value.int .u8 (IntKind.wrap .u8 (p9 (q.3 tb (tc+0))))] i->∀(i_1:DI),(i.4 tb/\tc+0<i.5 tb/\C9 .i64 (T1 i))/\(0 =
 0/\((0:Int)<=p9 (T1 i)/\p9 (T1 i)<(200:Int)/\p9 (T1 i)<(1000:Int))/\b5N (RM.mk (ApI.D i) i.5 i.6) tb (tc+1) i.1 i.2 (l+1) i.3 (Int.toNat (p9 (T1 i))))/\true=true/\(b3F (RM.mk (ApI.D i) i.5 i.6) tb (tc+1) i.1 i.2 (l
 + 1) (Int.toNat (p9 (T1 i))) i_1->R (Option.some (Ob.mk true 0 (b9.raw ts (RM.D (DI.q i_1)) (DI.q i_1).2 (DI.q i_1).3) 0)) (SV.slb 0 (DI.b i_1) (DI.c i_1) (DI.l i_1) (DI.k i_1)))))):=by subst t1;kernel_rfl
theorem c5k:A5 prog 116 (q7 (DI) ⟨default⟩ b2I):=by
 refine E4 x9 func116 rfl (by kernel_rfl) λargs=>?_
 unfold b2I;split;rotate_left;trivial;rename_i n tb tc n1 b c l kk;intro o0;try dsimp only
 split;rotate_left;trivial;rename_i ts q hm0;intro ho;replace ho:n=n1/\(byO q b c l kk/\∃ fp its,a3B q tb tc b l fp its):=ho;obtain⟨heq0,ho⟩:=ho;subst heq0;refine⟨?_,Nat.succ_pos _,ts,λ(i:DI)=>i.q,λ(i:DI)=>.slb 0 i.b i.c i.l i.k,λ_=>rfl,?_,_,_,(b7z (K0 1 ts (λ(i:DI)=>a4t q tb tc b c l i) (λ(i:DI)=>i.q) (λ(i:DI)=>.slb 0 i.b i.c i.l i.k)) ts q tb tc b c l kk rfl).mpr ?_⟩
 ·refine l9 rfl ⟨λ_=>rfl,?_,⟨trivial,C6 hm0,trivial⟩⟩;simp[y5,z6,z7,z5,nth,a9]
 ·intro i _;rfl
 ·obtain⟨hO,fp,its,hp⟩:=ho;obtain⟨r1,r2,r3⟩:=c0e hp;simp only[true_and,eq_self];simp only[Nat.add_zero];refine⟨⟨r1,by omega⟩,r3,λhn=>⟨⟨q,b,c,l,kk⟩,b9D hO hn,rfl,⟨trivial,rfl,rfl,rfl,rfl⟩⟩,λhn=>?_⟩;obtain⟨h,k,e1,e2,e3,e4,e5,e6⟩:=b4x hp hn;have hl:=hp.l;have e7:p9 (q.F tb tc)=(h:Nat):=by rw[e1];rfl
  have e8:IntKind.wrap .u8 ((h:Nat):Int)=((h:Nat):Int):=by rw[a5P];omega
  simp only[e7,e8];refine⟨⟨r1,by omega,by rw[e1];rfl⟩,λi=>⟨L7 hO (by omega) (by omega),λha=>?_⟩⟩;have p1:=K5 hO (us:=[((h:Nat):Int)]) rfl (by intro x hx;simp at hx;omega) rfl ha;obtain⟨k1,k2,k3⟩:=p1.keep _ r1;have k4:i.F tb tc=.int .i64 (h:Nat):=(k3 (Ne.symm hp.bt) tc).trans e1;have k5:p9 (i.F tb tc)=(h:Nat):=by rw[k4];rfl
  have k1:i.D tb:=k1;have k2:i.S tb=q.S tb:=k2;have hb:=b1s hp e2 e5;simp only[k5,tN9];refine λi'=>⟨⟨k1,by omega,by rw[k4];rfl⟩,⟨⟨by omega,by omega,by omega⟩,⟨p1.o,k,e3.keep p1,by omega⟩⟩,λhc=>⟨i',c0Z e1 hn p1 hc,rfl,⟨trivial,rfl,rfl,rfl,rfl⟩⟩⟩
def a4o:b9->Option (Bool×Bool×Bool×Int×Nat×Nat×Nat×Nat×Nm×Nat)
 | .cells [a,b,c, .int .u8 k, .nili, .flt .f64 x, .flt .f64 y, .flt .f64 z, .flt .f64 w, .slcc p n]=>match a.toB with
  | some a=>match b.toB with
   | some b=>match c.toB with
    | some c=>some (a,b,c,k,x,y,z,w,p,n)
    | none=>none
   | none=>none
  | none=>none
 | _=>none
def a0D(cl cw cv:Bool)(k:Int)(x y z w:Nat)(p:Nm)(n:Nat):b9:=.cells [.bool cl, .bool cw, .bool cv, .int .u8 k, .nili, .flt .f64 x, .flt .f64 y, .flt .f64 z, .flt .f64 w, .slcc p n]
theorem U8{σ:Sig}{c:b9}{cl cw cv:Bool}{k:Int}{x y z w:Nat}{p q:Nm}{n:Nat}(h:a4o c=some (cl,cw,cv,k,x,y,z,w,p,n))(hs:L5 (σ q) p):L9 σ c (a0D cl cw cv k x y z w q n):=by
 unfold a4o at h;split at h
 ·split at h
  ·rename_i ha;split at h
   ·rename_i hb;split at h
    ·rename_i hc;simp only[oI9,pI9]at h;obtain⟨rfl,rfl,rfl,rfl,rfl,rfl,rfl,rfl,rfl,rfl⟩:=h;show y5 σ _ _;simp[y5,z6,A4,C5,H5 ha,H5 hb,H5 hc,hs]
    ·cases h
   ·cases h
  ·cases h
 ·cases h
noncomputable def a7m:List SV->RdM
 | []=>.ret ⟨[],[], .ptr 0 0,[],[(0,⟨true,148, .cells [.int .u8 2, .int .i64 64],0⟩)],some (True)⟩
 | _=>.fail
theorem b3e{w9:HC}(e9:w9=⟨[],[], .ptr 0 0,[],[(0,⟨true,148, .cells [.int .u8 2, .int .i64 64],0⟩)],some (True)⟩):F7 G0 0 [] [] (p7 f97) (A8 f97.ntmps w9.args w9.heap 0) (B5 G0.E.T f97.results.toList λS v=>C8 0 w9 S v)=(
 (True/\0=0)/\True/\(148=148/\0=0/\(2:Int)=2/\(64:Int)=64/\True)/\True):=by subst e9;kernel_rfl
theorem c0a:A9 prog 97 (A7 a7m):=by
 refine y7 g0 func97 rfl (by kernel_rfl) λargs=>?_
 unfold a7m;split;rotate_left;trivial
 skip
 intro ho;replace ho:True:=ho;refine⟨?_,_,_,(b3e rfl).mpr ?_⟩
 ·refine l9 rfl ⟨?_,trivial⟩;simp[y5]
 ·simp
def b1F:b9->Option (Int×Int)
 | .cells [.int .u8 k, .int .i64 m]=>some (k,m)
 | _=>none
def b3l(k m:Int):b9:=.cells [.int .u8 k, .int .i64 m]
theorem a2Y{σ:Sig}{c:b9}{k m:Int}(h:b1F c=some (k,m)):L9 σ c (b3l k m):=by
 unfold b1F at h;split at h
 ·simp only[oI9,pI9]at h;obtain⟨rfl,rfl⟩:=h;show y5 σ _ _;simp[y5,z6,A4]
 ·cases h
open Int (toNat)
def c2Y(cl cw cv:Bool)(k:Int)(d:Nm)(m:Nat)(x y z w:Nat)(p:Nm)(n:Nat):b9:=.cells [.bool cl, .bool cw, .bool cv, .int .u8 k, .ifc 185 (.slcc d m), .flt .f64 x, .flt .f64 y, .flt .f64 z, .flt .f64 w, .slcc p n]
def byG(q:RM)(b c j:Nat):Int:=p9 (q.F b (c+j))
theorem b8D{q:RM}{b c l kk:Nat}(hO:byO q b c l kk)(v:Int):∀ j,j<l->I0 ((p4R q b (c+1) v).F b (c+j)):=λj hj=>by
 show I0 (pB _ _ _ _ _ b (c+j));unfold pB;by_cases h4:j=4
 ·subst h4;rw[show c+4=c+1+3 by omega,A6];exact I0.mk' (Z0 _ _)
 rw[g8 (by omega)];by_cases h3:j=3
 ·subst h3;rw[show c+3=c+1+2 by omega,A6];exact I0.mk' (Z0 _ _)
 rw[g8 (by omega)];by_cases h2:j=2
 ·subst h2;rw[show c+2=c+1+1 by omega,A6];exact I0.mk' (Z0 _ _)
 rw[g8 (by omega)];by_cases h1:j=1
 ·subst h1;rw[show c+1=c+1+0 by omega,A6];exact I0.mk' (Z0 _ _)
 rw[g8 (by omega)];exact hO.is j hj
noncomputable def X10:G9:=⟨G0,[(121,q7 Unit ⟨()⟩ a8f)],[],[],[]⟩
theorem x10:C0 prog X10:=⟨g0,y9.cons c1b y9.nil⟩
noncomputable def b9b:List SV->RRd (Unit)
 | [.ptr s 0, .slb nn b c l kk]=>.read nn λo0=>(match J4 o0 with
  | some (ts,q)=>.read s λo1=>(match a4V o1 150 0 with
  | true=>(match a4o o1.c with
  | some (cl,cw,cv,k,x,y,z,w,p,n)=>.read p λo2=>(match z9 .f64 o2.c with
  | some (m2,g)=>.ret ⟨[.ptr 1 0, .slb 0 b c l kk],[(0,rwO ts q),(1,⟨true,150,a0D cl cw cv k x y z w 2 n,0⟩),(2,⟨false,100, .flts .f64 m2 g,0⟩)],some (m2=2*n/\(byO q b c l kk/\5<=l/\l<=2000000)),λ_i=>True,λ_i=>⟨[],[], .tup [],[(0,rwO ts (p4R q b (c+1) (l:Nat))),(1,⟨true,150,c2Y cl cw cv k 3 l x y z w 2 n,0⟩)],[(3,⟨true,5, .ints .u8 l (byG (p4R q b (c+1) (l:Nat)) b c),1⟩)],none⟩⟩
  | none=>.fail)
  | none=>.fail)
  | false=>.fail)
  | none=>.fail)
 | _=>.fail
theorem b9W(ts:List Nat)(q:RM)(b c l kk:Nat)(cl cw cv:Bool)(k:Int)(x y z w:Nat)(_:Nm)(n:Nat)(g:Nat->Nat){T1}(t1:T1=(IntKind.wrap IntKind.u32 (↑l:Int))){T2}(t2:T2=(↑l:Int)){T3}(t3:T3=(pB (pB (pB q.3 b (c+1) T1 0) b (c+1) T1 1) b (c+1) T1 2)){T4}(t4:T4=(RM.mk (RM.D q) (RM.S q) (RM.F q))){T5}(t5:T5=(p4R T4 b (c+toNat (1:Int)*TI.size
 ty5) T1)):O9 X10 3 [] [] (p7 f115) (A8 f115.ntmps [.ptr 1 0, .slb 0 b c l kk] [(0,rwO ts q),(1,⟨true,150,a0D cl cw cv k x y z w 2 n,0⟩),(2,⟨false,100, .flts .f64 (2*n) g,0⟩)] 3) (B5 X10.G.E.T f115.results.toList λS v=>∃ _i:Unit,True/\C8 3 ⟨[],[], .tup [],[(0,rwO ts (p4R q b (c+1) (l:Nat))),(1,⟨true,150,c2Y cl cw cv k 3 l x y z w 2 n,0⟩)],[(3,⟨true,5, .ints .u8 l (byG (p4R q b (c+1) (l:Nat)) b c),1⟩)],none⟩ S v)=(
 ∀(_:Unit),((0:Int)<=1/\1<=l/\1<kk)/\(((0:Int)<=IntKind.wrap IntKind.u32 T2/\IntKind.wrap IntKind.u32 T2<4294967296)/\(4<=l-1/\q.1 b/\c+1+4<=T4.2 b)/\C9 .u8 (T4.3 b (c+1+3)))/\true=true/\(True->(T2=T2/\(0
 : Int)<=T2/\T2<=9223372036854775807/\T2*1<=(140737488355328:Int))/\(l=toNat T2/\toNat T2*1=toNat T2*1/\0<toNat T2*1/\q.1 b/\c+toNat T2*1<=T5.2 b/\∀(j:Nat),j<toNat T2*1->C9 .u8 (pB T3
 b (c+1) T1 3 b (c+j)))/\∃(_:Unit),True/\True/\True/\(0=0/\0=0/\ts=ts/\pB T3 b (c+1) T1 3=pB (pB (pB (pB q.3 b (c+1) T2 0) b (c+1) T2 1) b (c+1) T2 2) b (c+1) T2 3/\q.2=q.2/\RM.D T5=RM.D (p4R q b (c+1) T2))/\
 True/\(150=150/\0=0/\cl=cl/\cw=cw/\cv=cv/\k=k/\(True/\toNat T2=l)/\x=x/\y=y/\z=z/\w=w/\(True/\n=n)/\True)/\True/\(5=5/\1=1/\l<=toNat T2*1/\∀(i:Nat),i<l->p9 (pB T3 b (c+1) T1 3 b (c
 + i))=byG (p4R q b (c+1) T2) b c i)/\True)):=by subst t1 t2 t3 t4 t5;kernel_rfl
theorem c9M:A5 prog 115 (q7 (Unit) ⟨()⟩ b9b):=by
 refine U9 x10 func115 rfl (by kernel_rfl) λargs=>?_
 unfold b9b;split;rotate_left;trivial;rename_i s nn b c l kk;intro o0;try dsimp only
 split;rotate_left;trivial;rename_i ts q hm0;intro o1;try dsimp only
 split;rotate_left;trivial;rename_i hrw1;try dsimp only
 split;rotate_left;trivial;rename_i cl cw cv k x y z w p n hm1;intro o2;try dsimp only
 split;rotate_left;trivial;rename_i m2 g hm2;intro ho;replace ho:m2=2*n/\(byO q b c l kk/\5<=l/\l<=2000000):=ho;obtain⟨hsz2,ho⟩:=ho;subst hsz2;refine⟨?_,_,_,(b9W ts q b c l kk cl cw cv k x y z w p n g rfl rfl rfl rfl rfl).mpr ?_⟩
 ·refine l9 rfl ⟨λ_=>rfl,?_,⟨trivial,C6 hm0,⟨trivial,Z9 hrw1 (U8 hm1 a9),⟨trivial,(A2 hm2).1,trivial⟩⟩⟩⟩;simp[y5,z6,z7,z5,nth,a9]
 ·obtain⟨hO,h5,hl⟩:=ho
  have hu:IntKind.wrap .u32 ((l:Nat):Int)=((l:Nat):Int):=by
   show ((l:Nat):Int) % 4294967296=_;omega
  have hk:=hO.le;have hS:=hO.S;have hb4:=(hO.is 4 (by omega)).i;have hby:=b8D hO ((l:Nat):Int);simp only[true_and,and_true,eq_self,tN9,Nat.mul_one,true_implies,Int.reduceLE];simp only[hu];refine λ_=>⟨⟨by omega,by omega⟩,⟨⟨by omega,by omega⟩,⟨by omega,hO.D,by show c+1+4<=q.S b;omega⟩,hb4⟩,⟨by omega,by omega,by omega⟩,⟨by omega,hO.D,by show c+l<=q.S b;omega,λj hj=>(hby j hj).i⟩,(),?_⟩
  exact⟨⟨trivial,rfl⟩,Nat.le_refl _,λi hi=>rfl⟩
end Go.Proofs.Tryz.Sx

namespace Go.Fl
open Go Go.Sx Ieee
def FU(x:Nat)(n:Int)(u:Nat):Prop:=Fin x/\V x=n*2 ^ u
theorem FU.up{x:Nat}{n:Int}{u v k:Nat}(h:FU x n v)(hu:v=u+k):FU x (n*2 ^ k) u:=by
 refine⟨h.1,?_⟩;rw[h.2,hu,Int.pow_add,Int.mul_comm (2 ^ u:Int),<-Int.mul_assoc]
theorem a8c(neg:Bool){mag k u:Nat}{place:Int}(hu:u<=2000)(hp : -1074<=place)(hk0:k≠0)(hk:k<2 ^ 53)(h:mag*2 ^ (place+1074).toNat=k*2 ^ u) :
  FU (double.nearest neg mag place) (if neg then -(k:Int)else(k:Int)) u:=by
 have hkl:k.log2<=52:=by
  have:=(Nat.log2_lt hk0).2 hk;omega
 by_cases hs:(place+1074).toNat<=u
 ·have e:mag=k*2 ^ (u-(place+1074).toNat):=by
   have e1:u=(u-(place+1074).toNat)+(place+1074).toNat:=by omega
   have h':=h;rw[e1,Nat.pow_add,<-Nat.mul_assoc]at h';have:=Nat.eq_of_mul_eq_mul_right (Nat.two_pow_pos _) h';exact this
  subst e;obtain⟨h1,h2⟩:=O4 neg hk0 hk (sh:=u-(place+1074).toNat) (place:=place) (by omega) (by omega);refine⟨h1,?_⟩;rw[h2];have e2:(place+((u-(place+1074).toNat:Nat):Int)+1074).toNat=u:=by omega
  rw[e2,Int.natCast_mul,Int.natCast_pow];cases neg <;> simp[Int.neg_mul]
 ·have e:k=mag*2 ^ ((place+1074).toNat-u):=by
   have e1:(place+1074).toNat=((place+1074).toNat-u)+u:=by omega
   rw[e1,Nat.pow_add,<-Nat.mul_assoc]at h;exact(Nat.eq_of_mul_eq_mul_right (Nat.two_pow_pos _) h).symm
  have hm0:mag≠0:=λe0=>hk0 (by rw[e,e0,Nat.zero_mul])
  have hle:mag<=k:=by rw[e];exact Nat.le_mul_of_pos_right _ (Nat.two_pow_pos _)
  have hlog:k.log2=mag.log2+((place+1074).toNat-u):=by
   conv=>lhs;rw[e]
   rw[a1g hm0]
  obtain⟨h1,h2⟩:=O4 neg hm0 (Nat.lt_of_le_of_lt hle hk) (sh:=0) (place:=place) (by omega) (by omega);rw[Nat.pow_zero,Nat.mul_one]at h1 h2;refine⟨h1,?_⟩;rw[h2];have e2:(place+(0:Nat)+1074).toNat=((place+1074).toNat-u)+u:=by omega
  rw[e2,Nat.pow_add,<-Nat.mul_assoc,<-e,Int.natCast_mul,Int.natCast_pow];cases neg <;> simp[Int.neg_mul]
theorem c3m{s t:Bool}{m n:Nat}{i j:Int}{a b:Int}{u:Nat}(hu:u<=2000)(hi : -1074<=i)(hj : -1074<=j)(h1:signed s m (i+1074).toNat=a*2 ^ u)(h2:signed t n (j+1074).toNat=b*2 ^ u)
  (hab:(a+b).natAbs<2 ^ 53):∃ d,Datum.sum (.number s m i) (.number t n j)=some d/\FU (double.write d) (a+b) u:=by
 refine⟨_,rfl,?_⟩;simp only[Format.write];generalize htot:signed s m (i-min i j).toNat+signed t n (j-min i j).toNat=tot;have e1:(i+1074).toNat=(i-min i j).toNat+(min i j+1074).toNat:=by omega
 have e2:(j+1074).toNat=(j-min i j).toNat+(min i j+1074).toNat:=by omega
 have hkey:tot*2 ^ (min i j+1074).toNat=(a+b)*2 ^ u:=by
  rw[Int.add_mul,<-h1,<-h2,e1,e2,N4,N4,<-Int.add_mul,htot]
 have hpos:∀ k:Nat,(2:Int) ^ k≠0:=λk=>Int.ne_of_gt (G2 k)
 by_cases h0:tot=0
 ·have:a+b=0:=by
   rw[h0,Int.zero_mul]at hkey;rcases Int.mul_eq_zero.1 hkey.symm with h|h
   ·exact h
   ·exact absurd h (hpos _)
  rw[this];have hz:tot.natAbs=0:=by rw[h0];rfl
  unfold Format.nearest;rw[if_pos hz];exact⟨(N7 _).1,by rw[(N7 _).2];simp⟩
 ·have hab0:a+b≠0:=by
   intro e;rw[e,Int.zero_mul]at hkey;rcases Int.mul_eq_zero.1 hkey with h|h
   ·exact h0 h
   ·exact absurd h (hpos _)
  have hk:tot.natAbs*2 ^ (min i j+1074).toNat=(a+b).natAbs*2 ^ u:=by
   have:=congrArg Int.natAbs hkey;rw[Int.natAbs_mul,Int.natAbs_mul,C7,C7]at this;exact this
  rw[if_neg h0];have:=a8c (decide (tot<0)) hu (by omega) (by omega:(a+b).natAbs≠0) hab hk
  have hsign:tot<0↔a+b<0:=by
   have hp1:=G2 (min i j+1074).toNat;have hp2:=G2 u;constructor
   ·intro h;have h3:tot*2 ^ (min i j+1074).toNat<0:=Int.mul_neg_of_neg_of_pos h hp1;rw[hkey]at h3;rcases Int.lt_or_le (a+b) 0 with h4|h4
    ·exact h4
    ·have:=Int.mul_nonneg h4 (Int.le_of_lt hp2);omega
   ·intro h;have h3:(a+b)*2 ^ u<0:=Int.mul_neg_of_neg_of_pos h hp2;rw[<-hkey]at h3;rcases Int.lt_or_le tot 0 with h4|h4
    ·exact h4
    ·have:=Int.mul_nonneg h4 (Int.le_of_lt hp1);omega
  have hval:(if decide (tot<0)then -((a+b).natAbs:Int)else((a+b).natAbs:Int))=a+b:=by
   by_cases h:tot<0
   ·simp only[h,decide_true,if_true];have:=hsign.1 h;omega
   ·simp only[h,decide_false,Bool.false_eq_true,if_false];have:=mt hsign.2 h;omega
  rw[hval]at this;exact this
theorem c3x{x y:Nat}{a b:Int}{u:Nat}(hu:u<=2000)(hx:FU x a u)(hy:FU y b u)(h:(a+b).natAbs<2 ^ 53):∃ r,double.add x y=some r/\FU r (a+b) u:=by
 obtain⟨s,m,i,h1,h2,h3,_⟩:=B8 hx.1;obtain⟨t,n,j,h4,h5,h6,_⟩:=B8 hy.1;rw[hx.2]at h3;rw[hy.2]at h6;obtain⟨d,hd,hr⟩:=c3m hu h2 h5 h3 h6 h;refine⟨_,?_,hr⟩;unfold Format.add;rw[h1,h4,hd];rfl
end Go.Fl

namespace Go.Fl
open Go Go.Sx Ieee
theorem a6t:double.read 4611686018427387904=.number false (2 ^ 52) (-51):=by decide
theorem c0I{x r:Nat}{a:Int}{u:Nat}(hu:1000<=u)(hu2:u<=1900)(hx:FU x a (u+1))(ha:a.natAbs<2 ^ 53)(h:D4 .f64 x 4611686018427387904 r):FU r a u:=by
 obtain⟨s,m,i,h1,h2,h3,hm⟩:=B8 hx.1;rw[hx.2]at h3
 have hma:m*2 ^ (i+1074).toNat=a.natAbs*2 ^ (u+1):=by
  have:=congrArg Int.natAbs h3;rw[D9,Int.natAbs_mul,C7]at this;exact this
 have hpos:∀ k:Nat,(2:Nat) ^ k≠0:=λk=>Nat.ne_of_gt (Nat.two_pow_pos _)
 by_cases ha0:a=0
 ·have hm0:m=0:=by
   rw[ha0,Int.natAbs_zero,Nat.zero_mul]at hma;rcases Nat.mul_eq_zero.1 hma with h|h
   ·exact h
   ·exact absurd h (hpos _)
  subst hm0
  have hdiv:double.div x 4611686018427387904=some (double.word (s ^^ false) 0):=by
   unfold Format.div;rw[h1,a6t];simp only[Datum.quotient,hpos 52,if_false,Option.map_some,Format.write,Nat.zero_shiftLeft,Nat.zero_div,Nat.zero_mod,bne_self_eq_false,Bool.toNat_false,Nat.mul_zero,Nat.add_zero];unfold Format.nearest;simp
  have:floatBits .quo .f64 x 4611686018427387904=some (double.word (s ^^ false) 0):=hdiv;unfold D4 at h;rw[this]at h;subst h;exact⟨(N7 _).1,by rw[(N7 _).2,ha0];simp⟩
 ·have hm0:m≠0:=λe=>by
   rw[e,Nat.zero_mul]at hma;rcases Nat.mul_eq_zero.1 hma.symm with h|h
   ·exact ha0 (Int.natAbs_eq_zero.1 h)
   ·exact hpos _ h
  have hlm:m.log2<=52:=by
   have:=(Nat.log2_lt hm0).2 hm;omega
  have hi:(u:Int)-1127<i:=by
   rcases Int.lt_or_le ((u:Int)-1127) i with hc|hc
   ·exact hc
   ·exfalso;have e1:(i+1074).toNat+53<=u+1:=by omega
    have e2:m*2 ^ (i+1074).toNat<2 ^ 53*2 ^ (i+1074).toNat:=Nat.mul_lt_mul_of_pos_right hm (Nat.two_pow_pos _);rw[<-Nat.pow_add]at e2;have e3:2 ^ (53+(i+1074).toNat)<=2 ^ (u+1):=Nat.pow_le_pow_right (by decide) (by omega);have e4:1*2 ^ (u+1)<=a.natAbs*2 ^ (u+1):=Nat.mul_le_mul_right _ (by omega);omega
  have hmo:∃ B7,B7=54+(2 ^ 52).log2-m.log2/\54<=B7/\B7<=106:=by
   have:(2 ^ 52:Nat).log2=52:=by decide
   exact⟨_,rfl,by omega,by omega⟩
  obtain⟨B7,hmore,hm1,hm2⟩:=hmo
  have hq:m*2 ^ B7=m*2 ^ (B7-52)*2 ^ 52:=by
   rw[Nat.mul_assoc,<-Nat.pow_add];congr 2;omega
  have hdiv:double.div x 4611686018427387904=some (double.nearest (s ^^ false) (2*(m*2 ^ (B7-52))) (i-(-51)-B7-1)):=by
   unfold Format.div;rw[h1,a6t];simp only[Datum.quotient,hpos 52,if_false,frb,Option.map_some,Format.write];rw[show (52+2)+(2 ^ 52:Nat).log2-m.log2=B7 from hmore.symm,Nat.shiftLeft_eq,hq,Nat.mul_div_cancel _ (Nat.two_pow_pos 52),Nat.mul_mod_left];simp
  have:floatBits .quo .f64 x 4611686018427387904=some (double.nearest (s ^^ false) (2*(m*2 ^ (B7-52))) (i-(-51)-B7-1)):=hdiv;unfold D4 at h;rw[this]at h;subst h
  have hk:2*(m*2 ^ (B7-52))*2 ^ (i-(-51)-B7-1+1074).toNat=a.natAbs*2 ^ u:=by
   have e1:2*(m*2 ^ (B7-52))*2 ^ (i-(-51)-B7-1+1074).toNat*2=m*2 ^ (i+1074).toNat:=by
    have e2:1+(B7-52)+(i-(-51)-B7-1+1074).toNat+1=(i+1074).toNat:=by omega
    rw[<-e2,Nat.pow_add,Nat.pow_add,Nat.pow_add,Nat.pow_one]
    ac_rfl
   rw[hma,Nat.pow_succ]at e1;have e3:a.natAbs*(2 ^ u*2)=a.natAbs*2 ^ u*2:=by rw[Nat.mul_assoc]
   rw[e3]at e1;exact Nat.eq_of_mul_eq_mul_right (show 0<2 by decide) e1
  have hn:=a8c (s ^^ false) (u:=u) (by omega) (place:=i-(-51)-B7-1) (by omega) (by omega:a.natAbs≠0) ha hk
  have hsg:=b0o h3 (by
   intro e;rcases Int.mul_eq_zero.1 e with e|e
   ·exact ha0 e
   ·exact absurd e (Int.ne_of_gt (G2 _)))
  have hp:=G2 (u+1)
  have e:(if (s ^^ false)=true then -((a.natAbs:Nat):Int)else((a.natAbs:Nat):Int))=a:=by
   rw[Bool.xor_false,hsg];by_cases hneg:a<0
   ·have:a*2 ^ (u+1)<0:=Int.mul_neg_of_neg_of_pos hneg hp;simp only[this,decide_true,if_true];omega
   ·have:¬a*2 ^ (u+1)<0:=by
     have:=Int.mul_nonneg (show 0<=a by omega) (Int.le_of_lt hp);omega
    simp only[this,decide_false,Bool.false_eq_true,if_false];omega
  rw[e]at hn;exact hn
end Go.Fl

namespace Go.Proofs.Tryz.Sx
open Go Go.Sx Go.Proofs Go.Fl Go.Geo
set_option maxRecDepth 100000
def mid(x y:Nat):Nat:=fdiv (fop .add .f64 x y) 4611686018427387904
def midOk(x y:Nat):Prop:=fok .add .f64 x y/\b2J (fop .add .f64 x y) 4611686018427387904
structure Q4 where
 x0:Nat
 y0:Nat
 x1:Nat
 y1:Nat
def qb0(q:Q4)(k:Int):Nat:=if k=0∨k=2 then q.x0 else mid q.x0 q.x1
def qb1(q:Q4)(k:Int):Nat:=if k=0∨k=1 then mid q.y0 q.y1 else q.y0
def qb2(q:Q4)(k:Int):Nat:=if k=0∨k=2 then mid q.x0 q.x1 else q.x1
def qb3(q:Q4)(k:Int):Nat:=if k=0∨k=1 then q.y1 else mid q.y0 q.y1
def qbV(q:Q4)(k:Int):Q4:=⟨qb0 q k,qb1 q k,qb2 q k,qb3 q k⟩
def cqV(q r:Q4):Int :=
 if fLt .f64 r.x1 (mid q.x0 q.x1)=true then(if fLt .f64 r.y1 (mid q.y0 q.y1)=true then 2 else if fLt .f64 r.y0 (mid q.y0 q.y1)=true then -1 else 0)
 else if fLt .f64 r.x0 (mid q.x0 q.x1)=true then -1 else if fLt .f64 r.y1 (mid q.y0 q.y1)=true then 3 else if fLt .f64 r.y0 (mid q.y0 q.y1)=true then -1 else 1
def b1A:PF:=fun
 | [.agg [.flt .f64 a, .flt .f64 b, .flt .f64 c, .flt .f64 d], .int .i64 k]=>some (.agg [.flt .f64 (qbV ⟨a,b,c,d⟩ k).x0, .flt .f64 (qbV ⟨a,b,c,d⟩ k).y0, .flt .f64 (qbV ⟨a,b,c,d⟩ k).x1, .flt .f64 (qbV ⟨a,b,c,d⟩ k).y1],some ((midOk a c/\midOk b d)/\0<=k/\k<4))
 | _=>none
theorem c0n(R:SV->Prop)(a b c d:Nat)(k:Int){T1}(t1:T1=(fop BinOp.add .f64 b d)){T2}(t2:T2=(fop BinOp.add .f64 a c)):F7 G0 0 [] [] (p7 f124) (A8 f124.ntmps [.agg [.flt .f64 a, .flt .f64 b, .flt .f64 c, .flt .f64 d], .int .i64 k] [] 0) (B5 G0.E.T f124.results.toList λ_ v=>R v)=(
 ((k==(0:Int))=true->fok BinOp.add .f64 b d/\∀(r:Nat),D4 .f64 T1 4611686018427387904 r->fok BinOp.add .f64 a c/\∀(r_1:Nat),D4 .f64 T2 4611686018427387904 r_1->R (SV.agg [SV.flt .f64 a,SV.flt .f64 r,SV.flt .f64 r_1,SV.flt
 .f64 d]))/\((k==(0:Int))=false->((k==(1:Int))=true->fok BinOp.add .f64 a c/\∀(r:Nat),D4 .f64 T2 4611686018427387904 r->fok BinOp.add .f64 b d/\∀(r_1:Nat),D4 .f64 T1 4611686018427387904 r_1->R (SV.agg [SV.flt .f64 r,
 SV.flt .f64 r_1,SV.flt .f64 c,SV.flt .f64 d]))/\((k==(1:Int))=false->((k==(2:Int))=true->fok BinOp.add .f64 a c/\∀(r:Nat),D4 .f64 T2 4611686018427387904 r->fok BinOp.add .f64 b d/\∀(r_1:Nat),D4 .f64 T1
 4611686018427387904 r_1->R (SV.agg [SV.flt .f64 a,SV.flt .f64 b,SV.flt .f64 r,SV.flt .f64 r_1]))/\((k==(2:Int))=false->((k==(3:Int))=true->fok BinOp.add .f64 a c/\∀(r:Nat),D4 .f64 T2 4611686018427387904 r->fok BinOp.add
 .f64 b d/\∀(r_1:Nat),D4 .f64 T1 4611686018427387904 r_1->R (SV.agg [SV.flt .f64 r,SV.flt .f64 b,SV.flt .f64 c,SV.flt .f64 r_1]))/\((k==(3:Int))=false->R (SV.agg [SV.flt .f64 0,SV.flt .f64 0,SV.flt .f64 0,SV.flt .f64 0])))))):=by subst t1 t2;kernel_rfl
theorem c4d:E1 prog 124 b1A:=by
 refine E9 g0 func124 rfl (by kernel_rfl) ?_;intro args v p h hp;unfold b1A at h;split at h
 ·rename_i a b c d k;injection h with h;injection h with h1 h2;subst h1;subst h2
  have hp:(midOk a c/\midOk b d)/\0<=k/\k<4:=hp;refine⟨rfl,_,_,(c0n _ a b c d k rfl rfl).mpr ?_⟩;obtain⟨⟨⟨h1,h2⟩,⟨h3,h4⟩⟩,h5,h6⟩:=hp;have hk:k=0∨k=1∨k=2∨k=3:=by omega
  rcases hk with rfl|rfl|rfl|rfl
  ·refine⟨λ_=>⟨h3,λr hr=>⟨h1,λr1 hr1=>?_⟩⟩,λh=>absurd h (by decide)⟩;rw[V6 hr h4,V6 hr1 h2];simp[qbV,qb0,qb1,qb2,qb3,eqv,a2M,C5,mid]
  ·refine⟨λh=>absurd h (by decide),λ_=>⟨λ_=>⟨h1,λr hr=>⟨h3,λr1 hr1=>?_⟩⟩,λh=>absurd h (by decide)⟩⟩;rw[V6 hr h2,V6 hr1 h4];simp[qbV,qb0,qb1,qb2,qb3,eqv,a2M,C5,mid]
  ·refine⟨λh=>absurd h (by decide),λ_=>⟨λh=>absurd h (by decide),λ_=>⟨λ_=>⟨h1,λr hr=>⟨h3,λr1 hr1=>?_⟩⟩,λh=>absurd h (by decide)⟩⟩⟩;rw[V6 hr h2,V6 hr1 h4];simp[qbV,qb0,qb1,qb2,qb3,eqv,a2M,C5,mid]
  ·refine⟨λh=>absurd h (by decide),λ_=>⟨λh=>absurd h (by decide),λ_=>⟨λh=>absurd h (by decide),λ_=>⟨λ_=>⟨h1,λr hr=>⟨h3,λr1 hr1=>?_⟩⟩,λh=>absurd h (by decide)⟩⟩⟩⟩;rw[V6 hr h2,V6 hr1 h4];simp[qbV,qb0,qb1,qb2,qb3,eqv,a2M,C5,mid]
 ·cases h
noncomputable def b9o:List SV->RRd (Unit)
 | [.pb n b c, .agg [.flt .f64 x0, .flt .f64 y0, .flt .f64 x1, .flt .f64 y1], .agg [.flt .f64 r0, .flt .f64 r1, .flt .f64 r2, .flt .f64 r3]]=>.read n λo0=>(match J4 o0 with
  | some (ts,q)=>.ret ⟨[.pb 0 b c, .agg [.flt .f64 x0, .flt .f64 y0, .flt .f64 x1, .flt .f64 y1], .agg [.flt .f64 r0, .flt .f64 r1, .flt .f64 r2, .flt .f64 r3]],[(0,rwO ts q)],some ((midOk x0 x1/\midOk y0 y1)),λ_i=>True,λ_i=>⟨[],[], .int .i64 (cqV ⟨x0,y0,x1,y1⟩ ⟨r0,r1,r2,r3⟩),[(0,rwO ts (q))],[],none⟩⟩
  | none=>.fail)
 | _=>.fail
theorem c4g(R:Option Ob->SV->Prop)(ts:List Nat)(q:RM)(b c:Nat)(x0 y0 x1 y1 r0 r1 r2 r3:Nat){T1}(t1:T1=(Option.some (Ob.mk true 0 (b9.raw ts (RM.D q) q.2 q.3) 0))){T2}(t2:T2=(SV.int .i64 (-1:Int))):O9 X0 1 [] [] (p7 f123) (A8 f123.ntmps [.pb 0 b c, .agg [.flt .f64 x0, .flt .f64 y0, .flt .f64 x1, .flt .f64 y1], .agg [.flt .f64 r0, .flt .f64 r1, .flt .f64 r2, .flt .f64 r3]] [(0,rwO ts q)] 1) (B5 X0.G.E.T f123.results.toList λS v=>R (Go.Sx.look S.H 0) v)=(
 fok BinOp.add .f64 x0 x1/\∀(r:Nat),D4 .f64 (fop BinOp.add .f64 x0 x1) 4611686018427387904 r->fok BinOp.add .f64 y0 y1/\∀(r_1:Nat),D4 .f64 (fop BinOp.add .f64 y0 y1) 4611686018427387904 r_1->(fLt .f64 r2 r=true->(fLt .f64 r3 r_1
 = true->R T1 (SV.int .i64 (2:Int)))/\(fLt .f64 r3 r_1=false->(fLt .f64 r1 r_1=true->R T1 T2)/\(fLt .f64 r1 r_1=false->R T1 (SV.int .i64 (0:Int)))))/\(fLt .f64 r2 r=false->(fLt .f64 r0 r=true->R T1 T2)/\(fLt .f64 r0 r=false->
 (fLt .f64 r3 r_1=true->R T1 (SV.int .i64 (3:Int)))/\(fLt .f64 r3 r_1=false->(fLt .f64 r1 r_1=true->R T1 T2)/\(fLt .f64 r1 r_1=false->R T1 (SV.int .i64 (1:Int))))))):=by subst t1 t2;kernel_rfl
theorem rCq:A5 prog 123 (q7 (Unit) ⟨()⟩ b9o):=by
 refine E4 x0 func123 rfl (by kernel_rfl) λargs=>?_
 unfold b9o;split;rotate_left;trivial;rename_i n b c x0 y0 x1 y1 r0 r1 r2 r3;intro o0;try dsimp only
 split;rotate_left;trivial;rename_i ts q hm0;intro ho;replace ho:(midOk x0 x1/\midOk y0 y1):=ho;refine⟨?_,Nat.succ_pos _,ts,λ(_i:Unit)=>q,λ(_i:Unit)=>.int .i64 (cqV ⟨x0,y0,x1,y1⟩ ⟨r0,r1,r2,r3⟩),λ_=>rfl,?_,_,_,(c4g (K0 1 ts (λ(_i:Unit)=>True) (λ(_i:Unit)=>q) (λ(_i:Unit)=>.int .i64 (cqV ⟨x0,y0,x1,y1⟩ ⟨r0,r1,r2,r3⟩))) ts q b c x0 y0 x1 y1 r0 r1 r2 r3 rfl rfl).mpr ?_⟩
 ·refine l9 rfl ⟨λ_=>rfl,?_,⟨trivial,C6 hm0,trivial⟩⟩;simp[y5,z6,C5,z7,z5,nth,a9]
 ·intro _i _;rfl
 ·obtain⟨⟨h1,h2⟩,⟨h3,h4⟩⟩:=ho;refine⟨h1,λr hr=>⟨h3,λr' hr'=>?_⟩⟩;obtain rfl:r=mid x0 x1:=V6 hr h2;obtain rfl:r'=mid y0 y1:=V6 hr' h4;have hR:∀ i:Int,i=cqV ⟨x0,y0,x1,y1⟩ ⟨r0,r1,r2,r3⟩->K0 1 ts (λ_i:Unit=>True) (λ_i=>q) (λ_i=>.int .i64 (cqV ⟨x0,y0,x1,y1⟩ ⟨r0,r1,r2,r3⟩)) (some ⟨true,0, .raw ts q.D q.S q.F,0⟩) (.int .i64 i):=λi hi=>⟨(),trivial,rfl,by rw[hi];simp[z6,A4]⟩
  generalize K0 1 ts (λ_i:Unit=>True) (λ_i=>q) (λ_i=>.int .i64 (cqV ⟨x0,y0,x1,y1⟩ ⟨r0,r1,r2,r3⟩)) (some ⟨true,0, .raw ts q.D q.S q.F,0⟩)=R at hR ⊢;unfold cqV at hR;refine⟨λa1=>⟨λa2=>hR _ ?_,λa2=>⟨λa3=>hR _ ?_,λa3=>hR _ ?_⟩⟩,λa1=>⟨λa2=>hR _ ?_,λa2=>⟨λa3=>hR _ ?_,λa3=>⟨λa4=>hR _ ?_,λa4=>hR _ ?_⟩⟩⟩⟩
  all_goals simp_all
theorem c9i:A9 prog 123 (a3m (q7 Unit ⟨()⟩ b9o) ()):=b0i rCq () λ_=>rfl
open Ieee in
theorem c0w{x:Nat}(hx:Fl.Fin x):b2J x 4611686018427387904:=by
 obtain⟨s,m,i,h1,_⟩:=B8 hx;show (Format.div double x 4611686018427387904).isSome=true;unfold Format.div;rw[h1,a6t];simp only[Datum.quotient,Nat.ne_of_gt (Nat.two_pow_pos 52),if_false];rfl
theorem b7y{x y:Nat}(h:b2J x y):D4 .f64 x y (fdiv x y):=by
 unfold b2J at h;unfold D4 fdiv
 cases hq:floatBits .quo .f64 x y with
 | none=>rw[hq]at h;cases h
 | some v=>rfl
theorem b8z{x y:Nat}{a b:Int}{u:Nat}(hu:1000<=u)(hu2:u<=1899)(hx:FU x a (u+1))(hy:FU y b (u+1))(h:(a+b).natAbs<2 ^ 53):midOk x y/\FU (mid x y) (a+b) u:=by
 obtain⟨r,h1,h2⟩:=c3x (by omega) hx hy h;have e1:floatBits .add .f64 x y=some r:=h1;have e2:fop .add .f64 x y=r:=by unfold fop;rw[e1];rfl
 have e3:fok .add .f64 x y:=by unfold fok;rw[e1];rfl
 have e4:b2J (fop .add .f64 x y) 4611686018427387904:=by rw[e2];exact c0w h2.1
 refine⟨⟨e3,e4⟩,?_⟩;exact c0I hu (by omega) (by rw[<-e2]at h2;exact h2) h (b7y e4)
noncomputable def b7D:List SV->RdM
 | [.int .i64 k, .int .i64 m]=>.ret ⟨[.int .i64 k, .int .i64 m],[], .ptr 0 0,[],[(0,⟨true,148, .cells [.int .u8 (IntKind.u8.wrap k), .int .i64 m],0⟩)],some (True)⟩
 | _=>.fail
theorem b9S(k m:Int){w9:HC}(e9:w9=⟨[.int .i64 k, .int .i64 m],[], .ptr 0 0,[],[(0,⟨true,148, .cells [.int .u8 (IntKind.u8.wrap k), .int .i64 m],0⟩)],some (True)⟩):F7 G0 0 [] [] (p7 f64) (A8 f64.ntmps w9.args w9.heap 0) (B5 G0.E.T f64.results.toList λS v=>C8 0 w9 S v)=(
 (True/\0=0)/\True/\(148=148/\0=0/\IntKind.wrap .u8 k=IntKind.wrap .u8 k/\m=m/\True)/\True):=by subst e9;kernel_rfl
theorem c9H:A9 prog 64 (A7 b7D):=by
 refine y7 g0 func64 rfl (by kernel_rfl) λargs=>?_
 unfold b7D;split;rotate_left;trivial;rename_i k m;intro ho;replace ho:True:=ho;refine⟨?_,_,_,(b9S k m rfl).mpr ?_⟩
 ·refine l9 rfl ⟨?_,trivial⟩;simp[y5,z6,A4]
 ·simp
def GPT:Ctx:=⟨⟨tys,[]⟩,[(75,z3 ptF)]⟩
theorem gPT:B9 prog GPT:=⟨⟨D6,FlatsOk.nil⟩,l8.cons (.pure pt) l8.nil,by kernel_rfl⟩
def fI(g:Nat->Int)(j:Nat):Nat:=ofI .f64 (g j)
def c9t(len:Nat)(g:Nat->Int):Fam:=⟨Nat,λi =>
 ⟨19,[(3, .slcc 1 i),(6, .slcc 0 len),(7, .int .i64 len),(8, .int .i64 i)],[(0,⟨false,23, .ints .i64 (2*len) g,0⟩),(1,⟨true,100, .flts .f64 (2*i) (fI g),2⟩)],2⟩,λi=>i<=len,λi=>len-i⟩
theorem b5Z{i:Nat}{g:Nat->Nat}{x y:Nat}(hx:x=g (2*i))(hy:y=g (2*i+1)):∀ j,j<2*(i+1)->B7 (2*i) g [x,y] 0 j=g j:=by
 intro j hj;subst hx hy;unfold B7;split
 ·rfl
 ·have:j=2*i∨j=2*i+1:=by omega
  rcases this with rfl|rfl <;> simp
noncomputable def c1a:List SV->RdM
 | [.slcc n len]=>.read n λo0=>(match y6 .i64 o0.c with
  | some (m0,g)=>.ret ⟨[.slcc 0 len],[(0,⟨false,23, .ints .i64 m0 g,0⟩)], .slcc 1 len,[],[(1,⟨true,100, .flts .f64 (2*len) (fI g),2⟩)],some (m0=2*len/\len<=1000000)⟩
  | none=>.fail)
 | _=>.fail
theorem c3l(len:Nat)(g:Nat->Int){w9:HC}(e9:w9=⟨[.slcc 0 len],[(0,⟨false,23, .ints .i64 (2*len) g,0⟩)], .slcc 1 len,[],[(1,⟨true,100, .flts .f64 (2*len) (fI g),2⟩)],some (2*len=2*len/\len<=1000000)⟩){T1}(t1:T1=(↑len:Int)){T2}(t2:T2=λ(i:Nat)=>(↑i:Int))
 {T3}(t3:T3=λ(i:Nat)=>(2*len<=2*len/\∀(i:Nat),i<2*len->g i=g i)):F7 GPT 1 [(3,c9t len g)] [] (p7 f74) (A8 f74.ntmps w9.args w9.heap 1) (B5 GPT.E.T f74.results.toList λS v=>C8 1 w9 S v)=(
 (∃(i:Nat),i<=len/\(i=0/\(True/\len=len)/\T1=T1/\0=(T2 i)/\True)/\True/\(T3 i)/\True/\2*i=0/\True)/\∀(i:Nat),i<=len->(decide ((T2 i)<T1)=true->((0<=(T2 i)/\(T2 i)<T1)/\1<=2*len)/\0+Int.toNat (T2 i) *
 2+2<=2*len/\(2*i=i*2/\(i+1)*16<=140737488355328/\i+1<=9223372036854775807)/\∃(i':Nat),i'<=len/\len-i'<len-i/\((True/\i+1=i')/\(True/\len=len)/\T1=T1/\IntKind.wrap .i64 ((T2 i)+1)=(↑i':Int)/\
 True)/\True/\(T3 i)/\True/\(100=100/\2=2/\2*i'<=2*i+List.length [ofI .f64 (g (0+Int.toNat (T2 i)*2)),ofI .f64 (g (0+Int.toNat (T2 i)*2+1))]/\∀(i_1:Nat),i_1<2*i'->B7 (2*i) (fI g) [ofI .f64 (g (0+Int.toNat
 (T2 i)*2)),ofI .f64 (g (0+Int.toNat (T2 i)*2+1))] 0 i_1=fI g i_1)/\True)/\(decide ((T2 i)<T1)=false->(True/\i=len)/\True/\(100=100/\2=2/\2*len<=2*i/\∀(i:Nat),i<2*len->fI g i=fI g i)/\True)):=by subst e9 t1 t2 t3;kernel_rfl
theorem pts:A9 prog 74 (A7 c1a):=by
 refine y7 gPT func74 rfl (by kernel_rfl) λargs=>?_
 unfold c1a;split;rotate_left;trivial;rename_i n len;intro o0;try dsimp only
 split;rotate_left;trivial;rename_i m0 g hm0;intro ho;replace ho:m0=2*len/\len<=1000000:=ho;obtain⟨hsz0,ho⟩:=ho;subst hsz0;refine⟨?_,_,_,(c3l len g rfl rfl rfl rfl).mpr ?_⟩
 ·refine l9 rfl ⟨?_,⟨trivial,(q9 hm0).1,trivial⟩⟩;simp[y5,z6,z7,z5,nth,a9]
 ·refine⟨⟨0,by omega,by simp⟩,λi hi=>?_⟩;have e:i*2=2*i:=by omega
  simp only[tN9,Nat.zero_add,e,true_and,and_true,implies_true,Nat.le_refl];refine⟨λh=>?_,λh=>?_⟩
  ·have h:=oT9 h;have hw:IntKind.i64.wrap ((i:Int)+1)=((i+1:Nat):Int):=by rw[j8 (by omega) (by omega)];omega
   refine⟨by omega,by omega,by omega,i+1,by omega,by omega,⟨rfl,hw⟩,?_,b5Z rfl rfl⟩;show 2*(i+1)<=2*i+2;omega
  ·have h:=of_decide_eq_false h;omega
def a5K:PF:=fun
 | [.flt .f64 x]=>some (.bool (!(fLt .f64 x 0||fGt .f64 x 0)),none)
 | _=>none
theorem b5u(R:SV->Prop)(x:Nat):F7 G0 0 [] [] (p7 f214) (A8 f214.ntmps [.flt .f64 x] [] 0) (B5 G0.E.T f214.results.toList λ_ v=>R v)=(
(fLt .f64 x (0:Nat)=true->R SV.ff)/\(fLt .f64 x (0:Nat)=false->R (SV.bool !fGt .f64 x (0:Nat)))):=by kernel_rfl
theorem b9g:E1 prog 214 a5K:=by
 refine E9 g0 func214 rfl (by kernel_rfl) ?_;intro args v p h hp;unfold a5K at h;split at h
 ·rename_i x;injection h with h;injection h with h1 h2;subst h1;subst h2
  clear hp;refine⟨rfl,_,_,(b5u _ x).mpr ?_⟩;simp only[eqv];grind
 ·cases h
noncomputable def GIS:Ctx:=⟨⟨tys,[(100,[true,true])]⟩,[(90,z3 b5C),(214,z3 a5K)]⟩
theorem gIS:B9 prog GIS:=⟨⟨D6,FlatsOk.cons b3B FlatsOk.nil⟩,l8.cons (.pure ray) (l8.cons (.pure b9g) l8.nil),by kernel_rfl⟩
abbrev D(x y:Nat):Nat:=fop .sub .f64 x y
abbrev M(x y:Nat):Nat:=fop .mul .f64 x y
abbrev CR(x y z w:Nat):Nat:=D (M x w) (M y z)
def isH(ax ay bx by' cx cy dx dy:Nat):A1:=[(0,⟨true,111, .cells [.flt .f64 ax, .flt .f64 ay, .flt .f64 bx, .flt .f64 by'],0⟩),(1,⟨true,111, .cells [.flt .f64 cx, .flt .f64 cy, .flt .f64 dx, .flt .f64 dy],0⟩),(2,⟨true,100, .cells [.flt .f64 ax, .flt .f64 ay],0⟩),(3,⟨true,100, .cells [.flt .f64 bx, .flt .f64 by'],0⟩),(4,⟨true,100, .cells [.flt .f64 cx, .flt .f64 cy],0⟩),(5,⟨true,100, .cells [.flt .f64 dx, .flt .f64 dy],0⟩)]
def isS:Slots:=[(2, .ptr 0 0),(3, .ptr 1 0),(5, .ptr 2 0),(6, .ptr 3 0),(7, .ptr 4 0),(8, .ptr 5 0)]
def isF(ax ay bx by' cx cy dx dy:Nat)(p:Prop):Fam:=⟨Nat,λ_=>⟨300,isS,isH ax ay bx by' cx cy dx dy,6⟩,λ_=>p,λ_=>0⟩
def c5V(ax ay bx by' cx cy dx dy:Nat)(p:Prop):Fam:=⟨Nat,λ_=>⟨300,(9, .flt .f64 (D cx ax)) :: (10, .flt .f64 (D cy ay)) :: (11, .flt .f64 (D bx ax)) :: (12, .flt .f64 (D by' ay)) :: (13, .flt .f64 (CR (D cx ax) (D cy ay) (D bx ax) (D by' ay))) :: isS,isH ax ay bx by' cx cy dx dy,6⟩,λ_=>p,λ_=>0⟩
def c5S(ax ay bx by' cx cy dx dy:Nat)(p:Prop):Fam:=⟨Nat,λ_=>⟨300,(13, .flt .f64 (CR (D cx ax) (D cy ay) (D bx ax) (D by' ay))) :: (16, .flt .f64 (CR (D cx ax) (D cy ay) (D dx cx) (D dy cy))) :: (17, .flt .f64 (CR (D bx ax) (D by' ay) (D dx cx) (D dy cy))) :: isS,isH ax ay bx by' cx cy dx dy,6⟩,λ_=>p,λ_=>0⟩
def L0(a2 b2 c2 d2:Int):Prop:=¬(max a2 b2<min c2 d2∨max c2 d2<min a2 b2)
def a0a(a1 a2 b1 b2 c1 c2 d1 d2:Int):Prop:=¬((a1=c1/\a2=c2)∨(a1=d1/\a2=d2)∨(b1=c1/\b2=c2)∨(b1=d1/\b2=d2))
def xp(x y z w:Int):Int:=x*w-y*z
def a5F(a b c:Int):Prop:=(c<=a/\b<c)∨(a<c/\c<=b)
def a5H(a1 a2 b1 b2 c1 c2 d1 d2:Int):Prop :=
 L0 a2 b2 c2 d2/\L0 a1 b1 c1 d1/\(¬a0a a1 a2 b1 b2 c1 c2 d1 d2∨
  (xp (c1-a1) (c2-a2) (b1-a1) (b2-a2)=0/\(a5F a1 b1 c1∨a5F a2 b2 c2∨On a1 a2 b1 b2 c1 c2∨On a1 a2 b1 b2 d1 d2))∨
  (xp (c1-a1) (c2-a2) (b1-a1) (b2-a2)≠0/\xp (b1-a1) (b2-a2) (d1-c1) (d2-c2)≠0/\
   0<=xp (c1-a1) (c2-a2) (d1-c1) (d2-c2)*xp (b1-a1) (b2-a2) (d1-c1) (d2-c2)/\(xp (c1-a1) (c2-a2) (d1-c1) (d2-c2)).natAbs<=(xp (b1-a1) (b2-a2) (d1-c1) (d2-c2)).natAbs/\
   0<=xp (c1-a1) (c2-a2) (b1-a1) (b2-a2)*xp (b1-a1) (b2-a2) (d1-c1) (d2-c2)/\(xp (c1-a1) (c2-a2) (b1-a1) (b2-a2)).natAbs<=(xp (b1-a1) (b2-a2) (d1-c1) (d2-c2)).natAbs))
instance (a b c d:Int):Decidable (L0 a b c d):=by unfold L0;infer_instance
instance (a b c d e f g h:Int):Decidable (a0a a b c d e f g h):=by unfold a0a;infer_instance
instance (a b c:Int):Decidable (a5F a b c):=by unfold a5F;infer_instance
instance (a b c d e f g h:Int):Decidable (a5H a b c d e f g h):=by unfold a5H;infer_instance
structure P8 (ax ay bx by' cx cy dx dy:Nat) (a1 a2 b1 b2 c1 c2 d1 d2:Int):Prop where
 ax:FI ax a1
 ay:FI ay a2
 bx:FI bx b1
 by':FI by' b2
 cx:FI cx c1
 cy:FI cy c2
 dx:FI dx d1
 dy:FI dy d2
 s:(z8 a1/\z8 a2/\z8 b1/\z8 b2)/\(z8 c1/\z8 c2/\z8 d1/\z8 d2)
theorem c0g(R:SV->Prop)(P1 P2 P3 P4 P5:Prop)(ax ay bx by' cx cy dx dy:Nat){T1}(t1:T1=((True/\0=0)/\(True/\0=0)/\(True/\0=0)/\(True/\0=0)/\(True/\0=0)/\(True/\0=0)/\True)){T2}(t2:T2=(111=111/\0=0/\ax=ax/\ay=ay/\bx=bx/\by'=by'/\True)){T3}(t3:T3=(111=111/\0=0/\cx=cx/\cy=cy
 /\dx=dx/\dy=dy/\True)){T4}(t4:T4=(100=100/\0=0/\bx=bx/\by'=by'/\True)){T5}(t5:T5=(100=100/\0=0/\ax=ax/\ay=ay/\True)){T6}(t6:T6=(100=100/\0=0/\cx=cx/\cy=cy/\True)){T7}(t7:T7=(100=100/\0=0/\dx=dx/\dy
 = dy/\True)){T8}(t8:T8=(CR (D cx ax) (D cy ay) (D bx ax) (D by' ay))){T9}(t9:T9=(True/\0=0)){T10}(t10:T10=λ(r:Nat)=>(fop BinOp.mul .f64 (CR (D cx ax) (D cy ay) (D dx cx) (D dy cy)) r)){T11}(t11:T11=(CR (D bx ax) (D by' ay) (D dx cx) (D dy
 cy))){T12}(t12:T12=(fop BinOp.sub .f64 dy cy)){T13}(t13:T13=(fop BinOp.sub .f64 dx cx)){T14}(t14:T14=(fop BinOp.sub .f64 cx ax)){T15}(t15:T15=(fop BinOp.sub .f64 cy ay)){T16}(t16:T16=(D by' ay)){T17}(t17:T17=(!!fLe .f64 T15 0==fLe .f64 (fop
 BinOp.sub .f64 cy by') 0)){T18}(t18:T18=(!fLe .f64 T14 0==fLe .f64 (fop BinOp.sub .f64 cx bx) 0)){T19}(t19:T19=(fop BinOp.mul .f64 T14 (fop BinOp.sub .f64 by' ay))){T20}(t20:T20=(fop BinOp.mul .f64 T15 (fop BinOp.sub .f64 bx ax))):F7 GIS 0 [] [(2,isF ax ay bx by' cx cy dx dy True),(13,isF ax ay bx by' cx cy dx dy P1),(24,isF ax ay bx by' cx cy dx dy P2),(26,isF ax ay bx by' cx cy dx dy P3),(29,c5V ax ay bx by' cx cy dx dy P3),(33,c5V ax ay bx by' cx cy dx dy P4),(36,c5S ax ay bx by' cx cy dx dy P4),(38,c5S ax ay bx by' cx cy dx dy P5)] (p7 f210) (A8 300 [.agg [.flt .f64 ax, .flt .f64 ay, .flt .f64 bx, .flt .f64 by'], .agg [.flt .f64 cx, .flt .f64 cy, .flt .f64 dx, .flt .f64 dy]] [] 0) (B5 GIS.E.T f210.results.toList λ_ v=>R v)=(
 (true=true/\∃(_:Nat),True/\T1/\True/\T2/\True/\T3/\True/\T5/\True/\T4/\True/\T6/\True/\T7/\True)/\∀(_:Nat),True->((fGt .f64 ay by'=true->(fGt .f64 cy dy=true->(fGt .f64 by' cy=true->R SV.ff)/\(fGt .f64 by' cy =
 false->(fLt .f64 ay dy=true->R SV.ff)/\(fLt .f64 ay dy=false->∃(_:Nat),P1/\T1/\True/\T2/\True/\T3/\True/\T5/\True/\T4/\True/\T6/\True/\T7/\True)))/\(fGt .f64 cy dy=false->(fGt .f64 by' dy=true->R SV.ff)/\(fGt .f64
 by' dy=false->(fLt .f64 ay cy=true->R SV.ff)/\(fLt .f64 ay cy=false->∃(_:Nat),P1/\T1/\True/\T2/\True/\T3/\True/\T5/\True/\T4/\True/\T6/\True/\T7/\True))))/\(fGt .f64 ay by'=false->(fGt .f64 cy dy=true->(fGt .f64 ay
 cy=true->R SV.ff)/\(fGt .f64 ay cy=false->(fLt .f64 by' dy=true->R SV.ff)/\(fLt .f64 by' dy=false->∃(_:Nat),P1/\T1/\True/\T2/\True/\T3/\True/\T5/\True/\T4/\True/\T6/\True/\T7/\True)))/\(fGt .f64 cy dy=false->(fGt
 .f64 ay dy=true->R SV.ff)/\(fGt .f64 ay dy=false->(fLt .f64 by' cy=true->R SV.ff)/\(fLt .f64 by' cy=false->∃(_:Nat),P1/\T1/\True/\T2/\True/\T3/\True/\T5/\True/\T4/\True/\T6/\True/\T7/\True)))))/\∀(_:Nat),P1->
 ((fGt .f64 ax bx=true->(fGt .f64 cx dx=true->(fGt .f64 bx cx=true->R SV.ff)/\(fGt .f64 bx cx=false->(fLt .f64 ax dx=true->R SV.ff)/\(fLt .f64 ax dx=false->∃(_:Nat),P2/\T1/\True/\T2/\True/\T3/\True/\T5/\True/\T4/\True
 /\T6/\True/\T7/\True)))/\(fGt .f64 cx dx=false->(fGt .f64 bx dx=true->R SV.ff)/\(fGt .f64 bx dx=false->(fLt .f64 ax cx=true->R SV.ff)/\(fLt .f64 ax cx=false->∃(_:Nat),P2/\T1/\True/\T2/\True/\T3/\True/\T5/\True/\T4/\
 True/\T6/\True/\T7/\True))))/\(fGt .f64 ax bx=false->(fGt .f64 cx dx=true->(fGt .f64 ax cx=true->R SV.ff)/\(fGt .f64 ax cx=false->(fLt .f64 bx dx=true->R SV.ff)/\(fLt .f64 bx dx=false->∃(_:Nat),P2/\T1/\True/\T2/\True
 /\T3/\True/\T5/\True/\T4/\True/\T6/\True/\T7/\True)))/\(fGt .f64 cx dx=false->(fGt .f64 ax dx=true->R SV.ff)/\(fGt .f64 ax dx=false->(fLt .f64 bx cx=true->R SV.ff)/\(fLt .f64 bx cx=false->∃(_:Nat),P2/\T1/\True/\T2/\
 True/\T3/\True/\T5/\True/\T4/\True/\T6/\True/\T7/\True)))))/\∀(_:Nat),P2->(((fEq .f64 ax cx&&(fEq .f64 ay cy&&true))=true->R SV.tt)/\((fEq .f64 ax cx&&(fEq .f64 ay cy&&true))=false->((fEq .f64 ax dx&&(fEq .f64 ay dy
 && true))=true->R SV.tt)/\((fEq .f64 ax dx&&(fEq .f64 ay dy&&true))=false->((fEq .f64 bx cx&&(fEq .f64 by' cy&&true))=true->R SV.tt)/\((fEq .f64 bx cx&&(fEq .f64 by' cy&&true))=false->((fEq .f64 bx dx&&(fEq .f64 by' dy &&
 true))=true->R SV.tt)/\((fEq .f64 bx dx&&(fEq .f64 by' dy&&true))=false->∃(_:Nat),P3/\T1/\True/\T2/\True/\T3/\True/\T5/\True/\T4/\True/\T6/\True/\T7/\True)))))/\∀(_:Nat),P3->fok BinOp.sub .f64 cx ax/\fok BinOp.sub
 .f64 cy ay/\true=true/\fok BinOp.sub .f64 bx ax/\fok BinOp.sub .f64 by' ay/\true=true/\(fok BinOp.mul .f64 T14 (fop BinOp.sub .f64 by' ay)/\fok BinOp.mul .f64 T15 (fop BinOp.sub .f64 bx ax)/\fok BinOp.sub .f64 T19 T20/\∃(_:Nat),P3/\
 (fop BinOp.sub .f64 cx ax=D cx ax/\fop BinOp.sub .f64 cy ay=D cy ay/\fop BinOp.sub .f64 bx ax=D bx ax/\fop BinOp.sub .f64 by' ay=D by' ay/\fop BinOp.sub .f64 T19 T20=CR (D cx ax) (D cy ay) (D bx ax) T16/\T9/\T9/\T9/\T9/\T9/\T9/\
 True)/\True/\T2/\True/\T3/\True/\T5/\True/\T4/\True/\T6/\True/\T7/\True)/\∀(_:Nat),P3->(((!(fLt .f64 T8 0||fGt .f64 T8 0))=true->fok BinOp.sub .f64 cx ax/\fok BinOp.sub .f64 cx bx/\(T18=true->R SV.tt)/\(T18=false->fok
 BinOp.sub .f64 cy ay/\fok BinOp.sub .f64 cy by'/\(T17=true->Pts ax ay bx by' cx cy (wh ax) (wh ay) (wh bx) (wh by') (wh cx) (wh cy)/\(decide (Go.Geo.On (wh ax) (wh ay) (wh bx) (wh by') (wh cx) (wh cy))=true->R SV.tt)/\(decide (Go.Geo.On (wh
 ax) (wh ay) (wh bx) (wh by') (wh cx) (wh cy))=false->Pts ax ay bx by' dx dy (wh ax) (wh ay) (wh bx) (wh by') (wh dx) (wh dy)/\R (SV.bool (decide (Go.Geo.On (wh ax) (wh ay) (wh bx) (wh by') (wh dx) (wh dy))))))/\(T17=false->R SV.tt)))/\
 ((!(fLt .f64 T8 0||fGt .f64 T8 0))=false->∃(_:Nat),P4/\(D cx ax=D cx ax/\D cy ay=D cy ay/\D bx ax=D bx ax/\D by' ay=D by' ay/\CR (D cx ax) (D cy ay) (D bx ax) T16=CR (D cx ax) (D cy ay) (D bx ax) T16/\T9/\T9/\T9/\T9/\T9/\
 T9/\True)/\True/\T2/\True/\T3/\True/\T5/\True/\T4/\True/\T6/\True/\T7/\True))/\∀(_:Nat),P4->fok BinOp.sub .f64 dx cx/\fok BinOp.sub .f64 dy cy/\true=true/\fok BinOp.mul .f64 (D cx ax) T12/\fok BinOp.mul .f64 (D cy ay) T13/\
 fok BinOp.sub .f64 (fop BinOp.mul .f64 (D cx ax) T12) (fop BinOp.mul .f64 (D cy ay) T13)/\(fok BinOp.mul .f64 (D bx ax) T12/\fok BinOp.mul .f64 T16 T13/\fok BinOp.sub .f64 (fop BinOp.mul .f64 (D bx ax) T12) (fop BinOp.mul .f64 T16 T13)/\∃(_ :
 Nat),P4/\(CR (D cx ax) (D cy ay) (D bx ax) T16=CR (D cx ax) (D cy ay) (D bx ax) T16/\fop BinOp.sub .f64 (fop BinOp.mul .f64 (D cx ax) T12) (fop BinOp.mul .f64 (D cy ay) T13)=CR (D cx ax) (D cy ay) (D dx cx) (D dy cy)/\fop BinOp.sub .f64 (fop
 BinOp.mul .f64 (D bx ax) T12) (fop BinOp.mul .f64 T16 T13)=CR (D bx ax) T16 (D dx cx) (D dy cy)/\T9/\T9/\T9/\T9/\T9/\T9/\True)/\True/\T2/\True/\T3/\True/\T5/\True/\T4/\True/\T6/\True/\T7/\True)/\∀(_:Nat),P4->(((!(fLt .f64
 T11 0||fGt .f64 T11 0))=true->R SV.ff)/\((!(fLt .f64 T11 0||fGt .f64 T11 0))=false->∃(_:Nat),P5/\(CR (D cx ax) (D cy ay) (D bx ax) T16=CR (D cx ax) (D cy ay) (D bx ax) T16/\CR (D cx ax) (D cy ay) (D dx cx) (D dy cy)=CR (D cx ax)
 (D cy ay) (D dx cx) (D dy cy)/\CR (D bx ax) T16 (D dx cx) (D dy cy)=CR (D bx ax) T16 (D dx cx) (D dy cy)/\T9/\T9/\T9/\T9/\T9/\T9/\True)/\True/\T2/\True/\T3/\True/\T5/\True/\T4/\True/\T6/\True/\T7/\True))/\∀(_:Nat),P5->∀
 (r:Nat),D4 .f64 4607182418800017408 T11 r->fok BinOp.mul .f64 (CR (D cx ax) (D cy ay) (D dx cx) (D dy cy)) r/\fok BinOp.mul .f64 T8 r/\(fGe .f64 (T10 r) 0=true->(fLe .f64 (T10 r) 4607182418800017408=true->(fGe .f64 (fop BinOp.mul .f64
 T8 r) 0=true->((!fLe .f64 (fop BinOp.mul .f64 T8 r) 4607182418800017408)=true->R SV.ff)/\((!fLe .f64 (fop BinOp.mul .f64 T8 r) 4607182418800017408)=false->R SV.tt))/\(fGe .f64 (fop BinOp.mul .f64 T8 r) 0=false->R SV.ff))/\(fLe .f64
 (T10 r) 4607182418800017408=false->R SV.ff))/\(fGe .f64 (T10 r) 0=false->R SV.ff)):=by subst t1 t2 t3 t4 t5 t6 t7 t8 t9 t10 t11 t12 t13 t14 t15 t16 t17 t18 t19 t20;kernel_rfl
theorem a5e{x y:Nat}{a b:Int}(hx:FI x a)(hy:FI y b)(ha:z8 a)(hb:z8 b):fok .sub .f64 x y/\FI (fop .sub .f64 x y) (a-b)/\(a-b).natAbs<=2097152:=by
 have:=a4n hx hy (by unfold z8 at ha;omega) (by unfold z8 at hb;omega);exact⟨this.1,this.2,by unfold z8 at ha hb;omega⟩
theorem c4u{x y z w:Nat}{a b c d:Int}(hx:FI x a)(hy:FI y b)(hz:FI z c)(hw:FI w d)(ha:a.natAbs<=2097152)(hb:b.natAbs<=2097152)(hc:c.natAbs<=2097152)(hd:d.natAbs<=2097152) :
  fok .mul .f64 x w/\fok .mul .f64 y z/\fok .sub .f64 (fop .mul .f64 x w) (fop .mul .f64 y z)/\FI (CR x y z w) (xp a b c d)/\(xp a b c d).natAbs<=2 ^ 44:=by
 have b1:=a2F ha hd;have b2:=a2F hb hc;obtain⟨m1,m2⟩:=a4U hx hw (by omega);obtain⟨m3,m4⟩:=a4U hy hz (by omega);obtain⟨r,h1,h2⟩:=b2u m2 m4 (by omega);obtain⟨h3,h4⟩:=b0B (op:=.sub) h1;refine⟨m1,m3,h3,?_,?_⟩
 ·show FI (fop .sub .f64 (fop .mul .f64 x w) (fop .mul .f64 y z)) _;rw[h4];exact h2
 ·unfold xp;omega
theorem zt{v:Nat}{n:Int}(h:FI v n):(!(fLt .f64 v 0||fGt .f64 v 0))=decide (n=0):=by
 rw[I7 h a0x,H6 h a0x];grind
theorem le0{v:Nat}{n:Int}(h:FI v n):fLe .f64 v 0=decide (n<=0):=a5h h a0x
theorem b6y{ax ay bx by' cx cy dx dy:Nat}{a1 a2 b1 b2 c1 c2 d1 d2:Int}(H:P8 ax ay bx by' cx cy dx dy a1 a2 b1 b2 c1 c2 d1 d2) :
  ∃ A B,F7 GIS 0 A B (p7 f210) (A8 300 [.agg [.flt .f64 ax, .flt .f64 ay, .flt .f64 bx, .flt .f64 by'], .agg [.flt .f64 cx, .flt .f64 cy, .flt .f64 dx, .flt .f64 dy]] [] 0) (B5 GIS.E.T f210.results.toList λ_ v=>eqv v (.bool (decide (a5H a1 a2 b1 b2 c1 c2 d1 d2)))):=by
 refine⟨_,_,(c0g _ (L0 a2 b2 c2 d2) (L0 a2 b2 c2 d2/\L0 a1 b1 c1 d1) (L0 a2 b2 c2 d2/\L0 a1 b1 c1 d1/\a0a a1 a2 b1 b2 c1 c2 d1 d2)
  (L0 a2 b2 c2 d2/\L0 a1 b1 c1 d1/\a0a a1 a2 b1 b2 c1 c2 d1 d2/\xp (c1-a1) (c2-a2) (b1-a1) (b2-a2)≠0)
  (L0 a2 b2 c2 d2/\L0 a1 b1 c1 d1/\a0a a1 a2 b1 b2 c1 c2 d1 d2/\xp (c1-a1) (c2-a2) (b1-a1) (b2-a2)≠0/\xp (b1-a1) (b2-a2) (d1-c1) (d2-c2)≠0) ax ay bx by' cx cy dx dy rfl rfl rfl rfl rfl rfl rfl rfl rfl rfl rfl rfl rfl rfl rfl rfl rfl rfl rfl rfl).mpr ?_⟩
 obtain⟨⟨sa1,sa2,sb1,sb2⟩,sc1,sc2,sd1,sd2⟩:=H.s;obtain⟨k1,f1,n1⟩:=a5e H.cx H.ax sc1 sa1;obtain⟨k2,f2,n2⟩:=a5e H.cy H.ay sc2 sa2;obtain⟨k3,f3,n3⟩:=a5e H.bx H.ax sb1 sa1;obtain⟨k4,f4,n4⟩:=a5e H.by' H.ay sb2 sa2;obtain⟨k5,f5,n5⟩:=a5e H.dx H.cx sd1 sc1;obtain⟨k6,f6,n6⟩:=a5e H.dy H.cy sd2 sc2;obtain⟨k7,f7,_⟩:=a5e H.cx H.bx sc1 sb1;obtain⟨k8,f8,_⟩:=a5e H.cy H.by' sc2 sb2;obtain⟨u1,u2,u3,fu,nu⟩:=c4u f1 f2 f3 f4 n1 n2 n3 n4;obtain⟨t1,t2,t3,ft,nt⟩:=c4u f1 f2 f5 f6 n1 n2 n5 n6;obtain⟨w1,w2,w3,fw,nw⟩:=c4u f3 f4 f5 f6 n3 n4 n5 n6;simp only[eqv]
 refine⟨⟨trivial,0,trivial,by simp⟩,λ_ _=>⟨?_,λ_ h1=>⟨?_,λ_ h2=>⟨?_,λ_ h3=>?_⟩⟩⟩⟩
 ·rw[H6 H.ay H.by',H6 H.cy H.dy,H6 H.by' H.cy,I7 H.ay H.dy,H6 H.by' H.dy,I7 H.ay H.cy,H6 H.ay H.cy,I7 H.by' H.dy,H6 H.ay H.dy,I7 H.by' H.cy];clear fu ft fw nu nt nw u1 u2 u3 t1 t2 t3 w1 w2 w3 f1 f2 f3 f4 f5 f6 f7 f8 k1 k2 k3 k4 k5 k6 k7 k8 n1 n2 n3 n4 n5 n6
  repeat' (first|(intro h)|(refine And.intro ?_ ?_))
  all_goals simp only[decide_eq_true_eq,decide_eq_false_iff_not,Int.not_lt]at *
  all_goals first
   | (intro hh;have:=hh.1;unfold L0 at this;omega)
   | exact⟨0,by unfold L0;omega,by simp⟩
 ·rw[H6 H.ax H.bx,H6 H.cx H.dx,H6 H.bx H.cx,I7 H.ax H.dx,H6 H.bx H.dx,I7 H.ax H.cx,H6 H.ax H.cx,I7 H.bx H.dx,H6 H.ax H.dx,I7 H.bx H.cx];clear fu ft fw nu nt nw u1 u2 u3 t1 t2 t3 w1 w2 w3 f1 f2 f3 f4 f5 f6 f7 f8 k1 k2 k3 k4 k5 k6 k7 k8 n1 n2 n3 n4 n5 n6
  repeat' (first|(intro h)|(refine And.intro ?_ ?_))
  all_goals simp only[decide_eq_true_eq,decide_eq_false_iff_not,Int.not_lt]at *
  all_goals first
   | (intro hh;have:=hh.2.1;unfold L0 at this;omega)
   | exact⟨0,⟨h1,by unfold L0;omega⟩,by simp⟩
 ·rw[N1 H.ax H.cx,N1 H.ay H.cy,N1 H.ax H.dx,N1 H.ay H.dy,N1 H.bx H.cx,N1 H.by' H.cy,N1 H.bx H.dx,N1 H.by' H.dy];clear fu ft fw nu nt nw u1 u2 u3 t1 t2 t3 w1 w2 w3 f1 f2 f3 f4 f5 f6 f7 f8 k1 k2 k3 k4 k5 k6 k7 k8 n1 n2 n3 n4 n5 n6;refine⟨λe=>?_,λe1=>⟨λe=>?_,λe2=>⟨λe=>?_,λe3=>⟨λe=>?_,λe4=>⟨0,⟨h2.1,h2.2,λhh=>?_⟩,by simp⟩⟩⟩⟩⟩
  ·exact decide_eq_true ⟨h2.1,h2.2, .inl λhn=>hn (.inl (by simpa using e))⟩
  ·exact decide_eq_true ⟨h2.1,h2.2, .inl λhn=>hn (.inr (.inl (by simpa using e)))⟩
  ·exact decide_eq_true ⟨h2.1,h2.2, .inl λhn=>hn (.inr (.inr (.inl (by simpa using e))))⟩
  ·exact decide_eq_true ⟨h2.1,h2.2, .inl λhn=>hn (.inr (.inr (.inr (by simpa using e))))⟩
  ·simp at e1 e2 e3 e4;rcases hh with⟨g1,g2⟩|⟨g1,g2⟩|⟨g1,g2⟩|⟨g1,g2⟩
   ·exact e1 g1 g2
   ·exact e2 g1 g2
   ·exact e3 g1 g2
   ·exact e4 g1 g2
 ·simp only[k1,k2,k3,k4,k5,k6,k7,k8,u1,u2,u3,t1,t2,t3,w1,w2,w3,true_and,zt fu,zt fw,le0 f1,le0 f2,le0 f7,le0 f8];refine⟨⟨0,h3,by simp⟩,λ_ h3=>⟨⟨λh0=>?_,λh0=>?_⟩,λ_ h4=>⟨?_,λ_ h4=>⟨⟨λh0=>?_,λh0=>?_⟩,λ_ h5=>?_⟩⟩⟩⟩
  ·have hu:=oT9 h0;rw[a3A H.ax,a3A H.ay,a3A H.bx,a3A H.by',a3A H.cx,a3A H.cy,a3A H.dx,a3A H.dy]
   have hp1:Pts ax ay bx by' cx cy a1 a2 b1 b2 c1 c2:=by
    unfold z8 at *;exact⟨H.ax,H.ay,H.bx,H.by',H.cx,H.cy,by omega,by omega,by omega,by omega,by omega,by omega⟩
   have hp2:Pts ax ay bx by' dx dy a1 a2 b1 b2 d1 d2:=by
    unfold z8 at *;exact⟨H.ax,H.ay,H.bx,H.by',H.dx,H.dy,by omega,by omega,by omega,by omega,by omega,by omega⟩
   have hh:∀ a b c:Int,((!(decide (c-a<=0)==decide (c-b<=0)))=true↔a5F a b c):=by
    intro a b c;by_cases g1:c-a<=0 <;> by_cases g2:c-b<=0 <;> simp[g1,g2] <;> (unfold a5F;omega)
   refine⟨λe=>decide_eq_true ⟨h3.1,h3.2.1, .inr (.inl ⟨hu, .inl ((hh _ _ _).1 e)⟩)⟩,λe=>⟨λe'=>⟨hp1,λo=>decide_eq_true ⟨h3.1,h3.2.1, .inr (.inl ⟨hu, .inr (.inr (.inl (oT9 o)))⟩)⟩,λo=>⟨hp2,?_⟩⟩,λe'=>decide_eq_true ⟨h3.1,h3.2.1, .inr (.inl ⟨hu, .inr (.inl ((hh _ _ _).1 ?_))⟩)⟩⟩⟩
   ·refine decide_eq_decide.2 ⟨λod=>⟨h3.1,h3.2.1, .inr (.inl ⟨hu, .inr (.inr (.inr od))⟩)⟩,λhi=>?_⟩;rcases hi.2.2 with g|⟨_,g|g|g|g⟩|g
    ·exact absurd h3.2.2 g
    ·rw[(hh _ _ _).2 g]at e;cases e
    ·rw[(hh _ _ _).2 g]at e';cases e'
    ·exact absurd g (of_decide_eq_false o)
    ·exact g
    ·exact absurd hu g.1
   ·revert e'
    cases (decide (c2-a2<=0)==decide (c2-b2<=0)) <;> simp
  ·exact⟨0,⟨h3.1,h3.2.1,h3.2.2,of_decide_eq_false h0⟩,trivial⟩
  ·exact⟨0,h4,trivial⟩
  ·have hw:=oT9 h0;refine decide_eq_false λhi=>?_
   rcases hi.2.2 with g|g|g
   ·exact g h4.2.2.1
   ·exact h4.2.2.2 g.1
   ·exact g.2.1 hw
  ·exact⟨0,⟨h4.1,h4.2.1,h4.2.2.1,h4.2.2.2,of_decide_eq_false h0⟩,trivial⟩
  ·intro r hr;obtain⟨x1,x2,x3⟩:=tu ft fw h5.2.2.2.2 nt nw hr;obtain⟨y1,y2,y3⟩:=tu fu fw h5.2.2.2.2 nu nw hr;refine⟨x1,y1,?_⟩;rw[x2,y2]
   have bad:¬(0<=xp (c1-a1) (c2-a2) (d1-c1) (d2-c2)*xp (b1-a1) (b2-a2) (d1-c1) (d2-c2)/\(xp (c1-a1) (c2-a2) (d1-c1) (d2-c2)).natAbs<=(xp (b1-a1) (b2-a2) (d1-c1) (d2-c2)).natAbs/\
     0<=xp (c1-a1) (c2-a2) (b1-a1) (b2-a2)*xp (b1-a1) (b2-a2) (d1-c1) (d2-c2)/\(xp (c1-a1) (c2-a2) (b1-a1) (b2-a2)).natAbs<=(xp (b1-a1) (b2-a2) (d1-c1) (d2-c2)).natAbs)->decide (a5H a1 a2 b1 b2 c1 c2 d1 d2)=false:=by
    intro hb;refine decide_eq_false λhi=>?_
    rcases hi.2.2 with g|g|g
    ·exact g h5.2.2.1
    ·exact h5.2.2.2.1 g.1
    ·exact hb g.2.2
   refine⟨λg1=>⟨λg2=>⟨λg3=>⟨λg4=>?_,λg4=>?_⟩,λg3=>?_⟩,λg2=>?_⟩,λg1=>?_⟩
   ·have g3:=oT9 g3;rw[y3 g3]at g4;exact bad λhb=>by simp[hb.2.2.2]at g4
   ·have g3:=oT9 g3;have g1:=oT9 g1;rw[y3 g3]at g4;rw[x3 g1]at g2;refine decide_eq_true ⟨h5.1,h5.2.1, .inr (.inr ⟨h5.2.2.2.1,h5.2.2.2.2,g1,oT9 g2,g3,by simpa using g4⟩)⟩
   ·exact bad λhb=>of_decide_eq_false g3 hb.2.2.1
   ·have g1:=oT9 g1;rw[x3 g1]at g2;exact bad λhb=>of_decide_eq_false g2 hb.2.1
   ·exact bad λhb=>of_decide_eq_false g1 hb.1
noncomputable def b7w:PF:=fun
 | [.agg [.flt .f64 ax, .flt .f64 ay, .flt .f64 bx, .flt .f64 by'], .agg [.flt .f64 cx, .flt .f64 cy, .flt .f64 dx, .flt .f64 dy]] =>
  some (.bool (decide (a5H (wh ax) (wh ay) (wh bx) (wh by') (wh cx) (wh cy) (wh dx) (wh dy))),some (P8 ax ay bx by' cx cy dx dy (wh ax) (wh ay) (wh bx) (wh by') (wh cx) (wh cy) (wh dx) (wh dy)))
 | _=>none
theorem c8H:E1 prog 210 b7w:=by
 refine E9 gIS func210 rfl (by kernel_rfl) ?_;intro args v p h hp;unfold b7w at h;split at h
 ·injection h with h;injection h with h1 h2;subst h1;subst h2
  exact⟨rfl,b6y hp⟩
 ·cases h
noncomputable def GC:Ctx:=⟨⟨tys,[]⟩,[(90,z3 b5C),(214,z3 a5K),(80,z3 b2p)]⟩
theorem gC:B9 prog GC:=⟨⟨D6,FlatsOk.nil⟩,l8.cons (.pure ray) (l8.cons (.pure b9g) (l8.cons (.pure c7u) l8.nil)),by kernel_rfl⟩
def PW(ax ay bx by' px py:Nat):Prop:=Pts ax ay bx by' px py (wh ax) (wh ay) (wh bx) (wh by') (wh px) (wh py)
noncomputable def onW(ax ay bx by' px py:Nat):Bool:=decide (On (wh ax) (wh ay) (wh bx) (wh by') (wh px) (wh py))
noncomputable def b2b:PF:=fun
 | [.agg [.flt .f64 ax, .flt .f64 ay, .flt .f64 bx, .flt .f64 by'], .agg [.flt .f64 cx, .flt .f64 cy, .flt .f64 dx, .flt .f64 dy]]=>some (.bool (onW ax ay bx by' cx cy&&onW ax ay bx by' dx dy),some (PW ax ay bx by' cx cy/\PW ax ay bx by' dx dy))
 | _=>none
theorem b6L(R : SV -> Prop)(ax ay bx by' cx cy dx dy : Nat) : F7 GC 0 [] [] (p7 f231) (A8 f231.ntmps [.agg [.flt .f64 ax, .flt .f64 ay, .flt .f64 bx, .flt .f64 by'], .agg [.flt .f64 cx, .flt .f64 cy, .flt .f64 dx, .flt .f64 dy]] [] 0) (B5 GC.E.T f231.results.toList λ_ v => R v) = (
 Pts ax ay bx by' cx cy (wh ax) (wh ay) (wh bx) (wh by') (wh cx) (wh cy) /\ (decide (Go.Geo.On (wh ax)
(wh ay) (wh bx) (wh by') (wh cx) (wh cy)) = true -> Pts ax ay bx by' dx dy (wh ax) (wh ay)
(wh bx) (wh by') (wh dx) (wh dy) /\ R (SV.bool (decide (Go.Geo.On (wh ax) (wh ay) (wh bx) (wh by')
(wh dx) (wh dy))))) /\ (decide (Go.Geo.On (wh ax) (wh ay) (wh bx) (wh by') (wh cx) (wh cy)) = false -> R
 SV.ff)) := by kernel_rfl
theorem c6D:E1 prog 231 b2b:=by
 refine E9 gC func231 rfl (by kernel_rfl) ?_;intro args v p h hp;unfold b2b at h;split at h
 ·rename_i ax ay bx by' cx cy dx dy;injection h with h;injection h with h1 h2;subst h1;subst h2
  have hp:PW ax ay bx by' cx cy/\PW ax ay bx by' dx dy:=hp;refine⟨rfl,_,_,(b6L _ ax ay bx by' cx cy dx dy).mpr ?_⟩;simp only[eqv];refine⟨hp.1,λh=>⟨hp.2,?_⟩,λh=>?_⟩
  ·unfold onW;rw[h,Bool.true_and]
  ·unfold onW;rw[h,Bool.false_and]
 ·cases h
def E8(x y:Nat):Nat:=if fGt .f64 x y=true then y else x
def E6(x y:Nat):Nat:=if fGt .f64 x y=true then x else y
def a1K:PF:=fun
 | [.agg [.flt .f64 ax, .flt .f64 ay, .flt .f64 bx, .flt .f64 by']]=>some (.agg [.flt .f64 (E8 ax bx), .flt .f64 (E8 ay by'), .flt .f64 (E6 ax bx), .flt .f64 (E6 ay by')],none)
 | _=>none
theorem b9e(R : SV -> Prop)(ax ay bx by' : Nat) : F7 GC 0 [] [] (p7 f113) (A8 f113.ntmps [.agg [.flt .f64 ax, .flt .f64 ay, .flt .f64 bx, .flt .f64 by']] [] 0) (B5 GC.E.T f113.results.toList λ_ v => R v) = (
(fGt .f64 ax bx = true -> (fGt .f64 ay by' = true -> R (SV.agg [SV.flt .f64 bx, SV.flt .f64 by', SV.flt .f64 ax, SV.flt .f64 ay])) /\ (fGt .f64 ay by' = false -> R (SV.agg [SV.flt .f64 bx, SV.flt .f64 ay, SV.flt .f64 ax, SV.flt .f64
 by']))) /\ (fGt .f64 ax bx = false -> (fGt .f64 ay by' = true -> R (SV.agg [SV.flt .f64 ax, SV.flt .f64 by', SV.flt .f64 bx, SV.flt .f64 ay])) /\ (fGt .f64 ay by' = false -> R (SV.agg [SV.flt .f64 ax, SV.flt .f64 ay, SV.flt .f64 bx,
 SV.flt .f64 by'])))) := by kernel_rfl
theorem a8y:E1 prog 113 a1K:=by
 refine E9 gC func113 rfl (by kernel_rfl) ?_;intro args v p h hp;unfold a1K at h;split at h
 ·rename_i ax ay bx by';injection h with h;injection h with h1 h2;subst h1;subst h2
  clear hp;refine⟨rfl,_,_,(b9e _ ax ay bx by').mpr ?_⟩;simp only[eqv,a2M,C5,E8,E6];grind
 ·cases h
def sgn(n:Int):Int:=if 0<n then 1 else if n<0 then -1 else 0
def b3g:PF:=fun
 | [.int .i64 n]=>some (.int .i64 (sgn n),none)
 | _=>none
theorem b7T(R:SV->Prop)(n:Int):F7 G0 0 [] [] (p7 f104) (A8 f104.ntmps [.int .i64 n] [] 0) (B5 G0.E.T f104.results.toList λ_ v=>R v)=(
(decide ((0:Int)<n)=true->R (SV.int .i64 (1:Int)))/\(decide ((0:Int)<n)=false->(decide (n<(0:Int))=true->R (SV.int .i64 (-1:Int)))/\(decide (n<(0:Int))=false->R (SV.int .i64 (0:Int))))):=by kernel_rfl
theorem c5O:E1 prog 104 b3g:=by
 refine E9 g0 func104 rfl (by kernel_rfl) ?_;intro args v p h hp;unfold b3g at h;split at h
 ·rename_i n;injection h with h;injection h with h1 h2;subst h1;subst h2
  clear hp;refine⟨rfl,_,_,(b7T _ n).mpr ?_⟩;simp only[eqv,A4,sgn];grind
 ·cases h
def GD:Ctx:=⟨⟨tys,[]⟩,[(71,z3 onF),(87,z3 b4Y),(104,z3 b3g)]⟩
theorem gD:B9 prog GD:=⟨⟨D6,FlatsOk.nil⟩,l8.cons (.pure on) (l8.cons (.pure c7D) (l8.cons (.pure c5O) l8.nil)),by kernel_rfl⟩
def sm8(a1 a2 b1 b2 c1 c2 d1 d2:Int):Prop:=(z8 a1/\z8 a2/\z8 b1/\z8 b2)/\(z8 c1/\z8 c2/\z8 d1/\z8 d2)
def Q5(a1 a2 b1 b2 c1 c2 d1 d2:Int):Prop:=On a1 a2 b1 b2 c1 c2∨On a1 a2 b1 b2 d1 d2∨On c1 c2 d1 d2 a1 a2∨On c1 c2 d1 d2 b1 b2∨
 (sgn (cross a1 a2 b1 b2 c1 c2)*sgn (cross a1 a2 b1 b2 d1 d2)<0/\sgn (cross c1 c2 d1 d2 a1 a2)*sgn (cross c1 c2 d1 d2 b1 b2)<0)
instance (a b c d e f g h:Int):Decidable (Q5 a b c d e f g h):=by unfold Q5;infer_instance
def a1z(a1 a2 b1 b2 c1 c2 d1 d2:Int):Prop:=On c1 c2 d1 d2 a1 a2/\On c1 c2 d1 d2 b1 b2/\¬On a1 a2 b1 b2 c1 c2/\¬On a1 a2 b1 b2 d1 d2
instance (a b c d e f g h:Int):Decidable (a1z a b c d e f g h):=by unfold a1z;infer_instance
theorem b8v(x y:Int):IntKind.i64.wrap (sgn x*sgn y)=sgn x*sgn y:=by
 unfold sgn
 repeat' split
 all_goals decide
def b2G:PF:=fun
 | [.agg [.int .i64 a1, .int .i64 a2], .agg [.int .i64 b1, .int .i64 b2], .agg [.int .i64 c1, .int .i64 c2], .agg [.int .i64 d1, .int .i64 d2]]=>some (.bool (decide (Q5 a1 a2 b1 b2 c1 c2 d1 d2)),some (sm8 a1 a2 b1 b2 c1 c2 d1 d2))
 | _=>none
theorem b9a(R:SV->Prop)(a1 a2 b1 b2 c1 c2 d1 d2:Int){T1}(t1:T1=(sgn (Go.Geo.cross a1 a2 b1 b2 c1 c2)*sgn (Go.Geo.cross a1 a2 b1 b2 d1 d2))):F7 GD 0 [] [] (p7 f93) (A8 f93.ntmps [.agg [.int .i64 a1, .int .i64 a2], .agg [.int .i64 b1, .int .i64 b2], .agg [.int .i64 c1, .int .i64 c2], .agg [.int .i64 d1, .int .i64 d2]] [] 0) (B5 GD.E.T f93.results.toList λ_ v=>R v)=(
 D0 a1 a2 b1 b2 c1 c2/\(decide (Go.Geo.On a1 a2 b1 b2 c1 c2)=true->R SV.tt)/\(decide (Go.Geo.On a1 a2 b1 b2 c1 c2)=false->D0 a1 a2 b1 b2 d1 d2/\(decide (Go.Geo.On a1 a2 b1 b2 d1 d2)=true->R SV.tt)/\(decide (Go.Geo.On a1 a2 b1 b2
 d1 d2)=false->D0 c1 c2 d1 d2 a1 a2/\(decide (Go.Geo.On c1 c2 d1 d2 a1 a2)=true->R SV.tt)/\(decide (Go.Geo.On c1 c2 d1 d2 a1 a2)=false->D0 c1 c2 d1 d2 b1 b2/\(decide (Go.Geo.On c1 c2 d1 d2 b1 b2)=true->R SV.tt)/\(decide
 (Go.Geo.On c1 c2 d1 d2 b1 b2)=false->(decide (IntKind.wrap .i64 T1<(0:Int))=true->D0 a1 a2 b1 b2 c1 c2/\D0 a1 a2 b1 b2 d1 d2/\decide (IntKind.wrap .i64 T1<(0:Int))=true/\D0 c1 c2 d1 d2 a1 a2/\D0 c1 c2 d1 d2 b1 b2/\
 true=true/\R (SV.bool (decide (IntKind.wrap .i64 (sgn (Go.Geo.cross c1 c2 d1 d2 a1 a2)*sgn (Go.Geo.cross c1 c2 d1 d2 b1 b2))<(0:Int)))))/\(decide (IntKind.wrap .i64 T1<(0:Int))=false->D0 a1 a2 b1 b2 c1 c2/\D0 a1 a2 b1 b2 d1
 d2/\decide (IntKind.wrap .i64 T1<(0:Int))=false/\true=true/\R SV.ff)))))):=by subst t1;kernel_rfl
theorem c5p:E1 prog 93 b2G:=by
 refine E9 gD func93 rfl (by kernel_rfl) ?_;intro args v p h hp;unfold b2G at h;split at h
 ·rename_i a1 a2 b1 b2 c1 c2 d1 d2;injection h with h;injection h with h1 h2;subst h1;subst h2
  have hp:sm8 a1 a2 b1 b2 c1 c2 d1 d2:=hp;refine⟨rfl,_,_,(b9a _ a1 a2 b1 b2 c1 c2 d1 d2 rfl).mpr ?_⟩;have m1:D0 a1 a2 b1 b2 c1 c2:=⟨⟨hp.1.1,hp.1.2.1⟩,⟨hp.1.2.2.1,hp.1.2.2.2⟩,hp.2.1,hp.2.2.1⟩;have m2:D0 a1 a2 b1 b2 d1 d2:=⟨⟨hp.1.1,hp.1.2.1⟩,⟨hp.1.2.2.1,hp.1.2.2.2⟩,hp.2.2.2.1,hp.2.2.2.2⟩;have m3:D0 c1 c2 d1 d2 a1 a2:=⟨⟨hp.2.1,hp.2.2.1⟩,⟨hp.2.2.2.1,hp.2.2.2.2⟩,hp.1.1,hp.1.2.1⟩;have m4:D0 c1 c2 d1 d2 b1 b2:=⟨⟨hp.2.1,hp.2.2.1⟩,⟨hp.2.2.2.1,hp.2.2.2.2⟩,hp.1.2.2.1,hp.1.2.2.2⟩;simp only[eqv,b8v,m1,m2,m3,m4,true_and,Q5];grind
 ·cases h
def b6k:PF:=fun
 | [.agg [.int .i64 a1, .int .i64 a2], .agg [.int .i64 b1, .int .i64 b2], .agg [.int .i64 c1, .int .i64 c2], .agg [.int .i64 d1, .int .i64 d2]]=>some (.bool (decide (a1z a1 a2 b1 b2 c1 c2 d1 d2)),some (sm8 a1 a2 b1 b2 c1 c2 d1 d2))
 | _=>none
theorem c0D(R:SV->Prop)(a1 a2 b1 b2 c1 c2 d1 d2:Int):F7 GD 0 [] [] (p7 f94) (A8 f94.ntmps [.agg [.int .i64 a1, .int .i64 a2], .agg [.int .i64 b1, .int .i64 b2], .agg [.int .i64 c1, .int .i64 c2], .agg [.int .i64 d1, .int .i64 d2]] [] 0) (B5 GD.E.T f94.results.toList λ_ v=>R v)=(
 D0 c1 c2 d1 d2 a1 a2/\(decide (Go.Geo.On c1 c2 d1 d2 a1 a2)=true->D0 c1 c2 d1 d2 b1 b2/\(decide (Go.Geo.On c1 c2 d1 d2 b1 b2)=true->D0 a1 a2 b1 b2 c1 c2/\((!decide (Go.Geo.On
 a1 a2 b1 b2 c1 c2))=true->D0 a1 a2 b1 b2 d1 d2/\R (SV.bool !decide (Go.Geo.On a1 a2 b1 b2 d1 d2)))/\((!decide (Go.Geo.On a1 a2 b1 b2 c1 c2))=false->R SV.ff))/\(decide (Go.Geo.On c1 c2 d1 d2 b1 b2)=false->R SV.ff))/\
(decide (Go.Geo.On c1 c2 d1 d2 a1 a2)=false->R SV.ff)):=by kernel_rfl
theorem c8w:E1 prog 94 b6k:=by
 refine E9 gD func94 rfl (by kernel_rfl) ?_;intro args v p h hp;unfold b6k at h;split at h
 ·rename_i a1 a2 b1 b2 c1 c2 d1 d2;injection h with h;injection h with h1 h2;subst h1;subst h2
  have hp:sm8 a1 a2 b1 b2 c1 c2 d1 d2:=hp;refine⟨rfl,_,_,(c0D _ a1 a2 b1 b2 c1 c2 d1 d2).mpr ?_⟩;have m1:D0 a1 a2 b1 b2 c1 c2:=⟨⟨hp.1.1,hp.1.2.1⟩,⟨hp.1.2.2.1,hp.1.2.2.2⟩,hp.2.1,hp.2.2.1⟩;have m2:D0 a1 a2 b1 b2 d1 d2:=⟨⟨hp.1.1,hp.1.2.1⟩,⟨hp.1.2.2.1,hp.1.2.2.2⟩,hp.2.2.2.1,hp.2.2.2.2⟩;have m3:D0 c1 c2 d1 d2 a1 a2:=⟨⟨hp.2.1,hp.2.2.1⟩,⟨hp.2.2.2.1,hp.2.2.2.2⟩,hp.1.1,hp.1.2.1⟩;have m4:D0 c1 c2 d1 d2 b1 b2:=⟨⟨hp.2.1,hp.2.2.1⟩,⟨hp.2.2.2.1,hp.2.2.2.2⟩,hp.1.2.2.1,hp.1.2.2.2⟩;simp only[eqv,m1,m2,m3,m4,true_and,a1z];grind
 ·cases h
def GE':Ctx:=⟨⟨tys,[]⟩,[(93,z3 b2G),(94,z3 b6k)]⟩
theorem gE':B9 prog GE':=⟨⟨D6,FlatsOk.nil⟩,l8.cons (.pure c5p) (l8.cons (.pure c8w) l8.nil),by kernel_rfl⟩
def a9u:PF:=fun
 | [.agg [.int .i64 a1, .int .i64 a2], .agg [.int .i64 b1, .int .i64 b2], .agg [.int .i64 c1, .int .i64 c2], .agg [.int .i64 d1, .int .i64 d2]]=>some (.tup [.bool (decide (Q5 a1 a2 b1 b2 c1 c2 d1 d2)), .bool (decide (¬a1z a1 a2 b1 b2 c1 c2 d1 d2/\¬a1z c1 c2 d1 d2 a1 a2 b1 b2))],some (sm8 a1 a2 b1 b2 c1 c2 d1 d2))
 | _=>none
theorem b5s(R:SV->Prop)(a1 a2 b1 b2 c1 c2 d1 d2:Int){T1}(t1:T1=(!decide (a1z a1 a2 b1 b2 c1 c2 d1 d2))):F7 GE' 0 [] [] (p7 f77) (A8 f77.ntmps [.agg [.int .i64 a1, .int .i64 a2], .agg [.int .i64 b1, .int .i64 b2], .agg [.int .i64 c1, .int .i64 c2], .agg [.int .i64 d1, .int .i64 d2]] [] 0) (B5 GE'.E.T f77.results.toList λ_ v=>R v)=(
 (T1=true->sm8 a1 a2 b1 b2 c1 c2 d1 d2/\sm8 a1 a2 b1 b2 c1 c2 d1 d2/\T1=true/\sm8 c1 c2 d1 d2 a1 a2 b1 b2/\true=true/\R (SV.tup [SV.bool (decide (Q5 a1 a2 b1 b2 c1 c2 d1 d2)),SV.bool !decide (a1z c1 c2 d1 d2 a1 a2 b1 b2)]))/\(T1 =
 false->sm8 a1 a2 b1 b2 c1 c2 d1 d2/\sm8 a1 a2 b1 b2 c1 c2 d1 d2/\T1=false/\true=true/\R (SV.tup [SV.bool (decide (Q5 a1 a2 b1 b2 c1 c2 d1 d2)),SV.ff]))):=by subst t1;kernel_rfl
theorem c4D:E1 prog 77 a9u:=by
 refine E9 gE' func77 rfl (by kernel_rfl) ?_;intro args v p h hp;unfold a9u at h;split at h
 ·rename_i a1 a2 b1 b2 c1 c2 d1 d2;injection h with h;injection h with h1 h2;subst h1;subst h2
  have hp:sm8 a1 a2 b1 b2 c1 c2 d1 d2:=hp;refine⟨rfl,_,_,(b5s _ a1 a2 b1 b2 c1 c2 d1 d2 rfl).mpr ?_⟩;have m1:sm8 c1 c2 d1 d2 a1 a2 b1 b2:=⟨hp.2,hp.1⟩;simp only[eqv,a2M,m1,hp,true_and];grind
 ·cases h
def mn(g:Nat->Int)(k:Nat):Nat->Int
 | 0=>g k
 | i+1=>b1Y (mn g k i) (g (2*i+k))
def mx(g:Nat->Int)(k:Nat):Nat->Int
 | 0=>g k
 | i+1=>b1D (mx g k i) (g (2*i+k))
noncomputable section
def toL(len:Nat)(g:Nat->Int):Fam:=⟨Nat,λi =>
 ⟨18,[(3, .slcc 1 i),(6, .slcc 0 len),(7, .int .i64 len),(8, .int .i64 i)],[(0,⟨false,28, .ints .i64 (2*len) g,0⟩),(1,⟨true,23, .ints .i64 (2*i) g,2⟩)],2⟩,λi=>i<=len,λi=>len-i⟩
def b3x:List SV->RdM
 | [.slcc n len]=>.read n λo0=>(match y6 .i64 o0.c with
  | some (m0,g)=>.ret ⟨[.slcc 0 len],[(0,⟨false,28, .ints .i64 m0 g,0⟩)], .slcc 1 len,[],[(1,⟨true,23, .ints .i64 (2*len) g,2⟩)],some (m0=2*len/\len<=1000000)⟩
  | none=>.fail)
 | _=>.fail
theorem b9c(len:Nat)(g:Nat->Int){w9:HC}(e9:w9=⟨[.slcc 0 len],[(0,⟨false,28, .ints .i64 (2*len) g,0⟩)], .slcc 1 len,[],[(1,⟨true,23, .ints .i64 (2*len) g,2⟩)],some (2*len=2*len/\len<=1000000)⟩){T1}(t1:T1=(↑len:Int)){T2}(t2:T2=λ(i:Nat)=>(↑i:Int))
 {T3}(t3:T3=λ(i:Nat)=>(2*len<=2*len/\∀(i:Nat),i<2*len->g i=g i)):F7 G0 1 [(3,toL len g)] [] (p7 f34) (A8 f34.ntmps w9.args w9.heap 1) (B5 G0.E.T f34.results.toList λS v=>C8 1 w9 S v)=(
 (∃(i:Nat),i<=len/\(i=0/\(True/\len=len)/\T1=T1/\0=(T2 i)/\True)/\True/\(T3 i)/\True/\2*i=0/\True)/\∀(i:Nat),i<=len->(decide ((T2 i)<T1)=true->((0<=(T2 i)/\(T2 i)<T1)/\1<=2*len)/\0+Int.toNat (T2 i) *
 2+2<=2*len/\(2*i=i*2/\(i+1)*16<=140737488355328/\i+1<=9223372036854775807)/\∃(i':Nat),i'<=len/\len-i'<len-i/\((True/\i+1=i')/\(True/\len=len)/\T1=T1/\IntKind.wrap .i64 ((T2 i)+1)=(↑i':Int)/\
 True)/\True/\(T3 i)/\True/\(23=23/\2=2/\2*i'<=2*i+List.length [g (0+Int.toNat (T2 i)*2),g (0+Int.toNat (T2 i)*2+1)]/\∀(i_1:Nat),i_1<2*i'->B7 (2*i) g [g (0+Int.toNat (T2 i)*2),g (0+Int.toNat (T2 i)*2
 + 1)] (0:Int) i_1=g i_1)/\True)/\(decide ((T2 i)<T1)=false->(True/\i=len)/\True/\(23=23/\2=2/\2*len<=2*i/\∀(i:Nat),i<2*len->g i=g i)/\True)):=by subst e9 t1 t2 t3;kernel_rfl
theorem c5v:A9 prog 34 (A7 b3x):=by
 refine y7 g0 func34 rfl (by kernel_rfl) λargs=>?_
 unfold b3x;split;rotate_left;trivial;rename_i n len;intro o0;try dsimp only
 split;rotate_left;trivial;rename_i m0 g hm0;intro ho;replace ho:m0=2*len/\len<=1000000:=ho;obtain⟨hsz0,ho⟩:=ho;subst hsz0;refine⟨?_,_,_,(b9c len g rfl rfl rfl rfl).mpr ?_⟩
 ·refine l9 rfl ⟨?_,⟨trivial,(q9 hm0).1,trivial⟩⟩;simp[y5,z6,z7,z5,nth,a9]
 ·refine⟨⟨0,by simp⟩,λi hi=>⟨λh=>?_,λh=>?_⟩⟩
  ·have h:=oT9 h;have e:0+(i:Int).toNat*2=2*i:=by omega
   refine⟨by omega,by omega,by omega,i+1,by omega,by omega,⟨⟨trivial,rfl⟩,⟨trivial,rfl⟩,rfl,?_,trivial⟩,trivial,⟨Nat.le_refl _,λ_ _=>rfl⟩,trivial,⟨rfl,rfl,?_,?_⟩,trivial⟩
   ·rw[j8 (by omega) (by omega)];omega
   ·show 2*(i+1)<=2*i+2;omega
   ·exact b1v (by rw[e]) (by rw[e])
  ·have h:=of_decide_eq_false h;have:i=len:=by omega
   subst this;exact⟨⟨trivial,rfl⟩,trivial,⟨rfl,rfl,Nat.le_refl _,λ_ _=>rfl⟩,trivial⟩
def GIG:Ctx:=⟨⟨tys,[]⟩,[(19,A7 b2h)]⟩
theorem gIG:B9 prog GIG:=⟨⟨D6,FlatsOk.nil⟩,l8.cons c6F l8.nil,by kernel_rfl⟩
def a7r:List SV->RdM
 | [.slcc n len]=>.read n λo0=>(match y6 .i64 o0.c with
  | some (m0,g)=>.ret ⟨[.slcc 0 len],[(0,⟨false,28, .ints .i64 m0 g,0⟩)], .bool (decide (len<=40)&&S3 (2*len) g),[],[],some (m0=2*len/\True)⟩
  | none=>.fail)
 | _=>.fail
theorem b3H(len:Nat)(g:Nat->Int){w9:HC}(e9:w9=⟨[.slcc 0 len],[(0,⟨false,28, .ints .i64 (2*len) g,0⟩)], .bool (decide (len<=40)&&S3 (2*len) g),[],[],some (2*len=2*len/\True)⟩):F7 GIG 1 [] [] (p7 f18) (A8 f18.ntmps w9.args w9.heap 1) (B5 GIG.E.T f18.results.toList λS v=>C8 1 w9 S v)=(
 (decide ((↑len:Int)<=40)=true->(2*len=2*len/\len<=1000000)/\S3 (2*len) g=(decide (len<=40)&&S3 (2*len) g)/\True)/\(decide ((↑len:Int)<=40)=false->(decide (len<=40)&&S3 (2*len) g)=false/\True)):=by subst e9;kernel_rfl
theorem c0b:A9 prog 18 (A7 a7r):=by
 refine y7 gIG func18 rfl (by kernel_rfl) λargs=>?_
 unfold a7r;split;rotate_left;trivial;rename_i n len;intro o0;try dsimp only
 split;rotate_left;trivial;rename_i m0 g hm0;intro ho;replace ho:m0=2*len/\True:=ho;obtain⟨hsz0,ho⟩:=ho;subst hsz0;refine⟨?_,_,_,(b3H len g rfl).mpr ?_⟩
 ·refine l9 rfl ⟨?_,⟨trivial,(q9 hm0).1,trivial⟩⟩;simp[y5,z6,z7,z5,nth,a9]
 ·simp;exact⟨λh=>⟨by omega,λ_=>by omega⟩,λh h2=>by omega⟩
def pq4(a b c d:Int)(j:Nat):Int:=[a,b,c,d].getD j 0
def GTO:Ctx:=⟨⟨tys,[]⟩,[(34,A7 b3x)]⟩
theorem gTO:B9 prog GTO:=⟨⟨D6,FlatsOk.nil⟩,l8.cons c5v l8.nil,by kernel_rfl⟩
def a9j:List SV->RdM
 | [.slcc n len]=>.read n λo0=>(match y6 .i64 o0.c with
  | some (m0,g)=>.ret ⟨[.slcc 0 len],[(0,⟨false,28, .ints .i64 m0 g,0⟩)], .agg [.int .i64 2, .slcc 1 len, .nils],[],[(1,⟨true,23, .ints .i64 (2*len) g,2⟩)],some (m0=2*len/\len<=1000000)⟩
  | none=>.fail)
 | _=>.fail
theorem b5d(len:Nat)(g:Nat->Int){w9:HC}(e9:w9=⟨[.slcc 0 len],[(0,⟨false,28, .ints .i64 (2*len) g,0⟩)], .agg [.int .i64 2, .slcc 1 len, .nils],[],[(1,⟨true,23, .ints .i64 (2*len) g,2⟩)],some (2*len=2*len/\len<=1000000)⟩):F7 GTO 1 [] [] (p7 f28) (A8 f28.ntmps w9.args w9.heap 1) (B5 GTO.E.T f28.results.toList λS v=>C8 1 w9 S v)=(
 (2*len=2*len/\len<=1000000)/\((2:Int)=2/\(True/\len=len)/\True/\True)/\True/\(23=23/\2=2/\2*len<=2*len/\∀(i:Nat),i<2*len->g i=g i)/\True):=by subst e9;kernel_rfl
theorem c3N:A9 prog 28 (A7 a9j):=by
 refine y7 gTO func28 rfl (by kernel_rfl) λargs=>?_
 unfold a9j;split;rotate_left;trivial;rename_i n len;intro o0;try dsimp only
 split;rotate_left;trivial;rename_i m0 g hm0;intro ho;replace ho:m0=2*len/\len<=1000000:=ho;obtain⟨hsz0,ho⟩:=ho;subst hsz0;refine⟨?_,_,_,(b5d len g rfl).mpr ?_⟩
 ·refine l9 rfl ⟨?_,⟨trivial,(q9 hm0).1,trivial⟩⟩;simp[y5,z6,z7,z5,nth,a9]
 ·simp[ho]
end
theorem c3t{g:Nat->Int}{m:Nat}(h:∀ j,j<m->z8 (g j)):Whl (fI g) g m:=λj hj=>⟨fi (h j hj),by have:=h j hj;unfold z8 at this;omega⟩
theorem a9v{len:Nat}{cl:Bool}(h:o8 len cl=true):2<=len:=(oT9 h).1
theorem c1n{z:Nat->Int}{k:Nat}:∀ {i:Nat},0<i->loZ z k i=mn z k i
 | 0,h=>by omega
 | 1,_=>by simp[loZ,mn,b1Y]
 | i+2,_=>by
  show (if i+1=0∨z (2*(i+1)+k)<loZ z k (i+1)then z (2*(i+1)+k)else loZ z k (i+1))=b1Y (mn z k (i+1)) (z (2*(i+1)+k));rw[c1n (i:=i+1) (by omega)];unfold b1Y;by_cases h:z (2*(i+1)+k)<mn z k (i+1)
  ·rw[if_pos (.inr h),if_pos h]
  ·rw[if_neg (by omega),if_neg h]
theorem c7y{z:Nat->Int}{k i:Nat}(h:0<i):loZ z k i<=hiZ z k i:=Int.le_trans (O1 (j:=0) h) (O7 h)
theorem c3h{z:Nat->Int}{k:Nat}:∀ {i:Nat},0<i->hiZ z k i=mx z k i
 | 0,h=>by omega
 | 1,_=>by simp[hiZ,mx,b1D]
 | i+2,_=>by
  have hl:=c7y (z:=z) (k:=k) (i:=i+1) (by omega);show (if i+1=0 then z (2*(i+1)+k)else if z (2*(i+1)+k)<loZ z k (i+1)then hiZ z k (i+1)else if hiZ z k (i+1)<z (2*(i+1)+k)then z (2*(i+1)+k)else hiZ z k (i+1))=b1D (mx z k (i+1)) (z (2*(i+1)+k));rw[<-c3h (i:=i+1) (by omega),if_neg (by omega)];unfold b1D;by_cases h:hiZ z k (i+1)<z (2*(i+1)+k)
  ·rw[if_neg (by omega),if_pos h]
  ·rw[if_neg h];split <;> rfl
end Go.Proofs.Tryz.Sx
