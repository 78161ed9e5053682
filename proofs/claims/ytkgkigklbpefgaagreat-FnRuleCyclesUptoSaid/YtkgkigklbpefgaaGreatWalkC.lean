/- Part of the proof of a law of a rule over documents (WalkC), where what the arguments hold is of bulk at most 1048576. -/
import Derived.Test.YtkgkigklbpefgaaGreatWalkB
set_option linter.unusedVariables false
set_option linter.unusedSectionVars false
set_option linter.deprecated false
namespace Go.VC
open Go Go.Proofs
variable [DB]
variable {i:Int}{vs:List BA}{l:List Ev}{vm:Nat}{o:OC}{ob:Obs}{c:WCtx}{w w':World}{Q:World->Prop}
theorem Blk.at_mem {b:Nat}{T T':TypeId}{cs:List Value}{a:Addr}{v:Value}(h:Blk w b T cs)(ha:At w T' a v)(e:a.block=b):v∈cs:=by
 obtain ⟨cs',fr,h1,h2,h3⟩:=ha;rw [e] at h1;have h1:=h1.symm.trans h;simp only [Option.some.injEq,Obj.cells.injEq] at h1;rw [h1.1] at h3;have:=Array.mem_of_getElem? h3;simpa using this
structure Wp (c:WCtx) (vm:Nat) (w w':World):Prop where
 ext:Ext (fun b=>WX c vm b∨b=c.wb) w w'
 wk:Wk c w w'
theorem Wp.trans {w'':World}(h:Wp c vm w w')(k:Wp c vm w' w''):Wp c vm w w'':=⟨h.ext.trans k.ext fun _ _ h=>h,h.wk.trans k.wk⟩
theorem Stp.wp (h:Stp c vm w w'):Wp c vm w w':=⟨h.ext.mono fun _ _ e=>.inl e,h.wk⟩
theorem Wp.set (g:Good c)(vm:Nat)(w:World)(j:Nat)(v:Value):Wp c vm w (w.setCell ⟨c.wb,j,none⟩ v):=by
 have hx:Ext (fun b=>b=c.wb) w (w.setCell ⟨c.wb,j,none⟩ v):=Ext.setCell (X:=fun b=>b=c.wb) (Ext.refl w) (a:=⟨c.wb,j,none⟩) (.inl rfl) _;exact ⟨hx.mono fun _ _ e=>.inr e,Wk.ofExt hx fun b hM e=>g.wb.1 (e▸hM)⟩
theorem Wd.set4 (g:Good c)(h:Wd c o vs l w)(co':OA)(hco:co'=none∨∃ ob x,co'=some (adr ob)/\POp c.M c.w0 x ob):
  Wd c { o with co:=co'} vs l (w.setCell ⟨c.wb,4,none⟩ (.pointer co')):=by
 have hx:Ext (fun b=>b=c.wb) w (w.setCell ⟨c.wb,4,none⟩ (.pointer co')):=Ext.setCell (X:=fun b=>b=c.wb) (Ext.refl w) (a:=⟨c.wb,4,none⟩) (.inl rfl) _;have hb:=a_E (v:=.pointer co') (a:=⟨c.wb,4,none⟩) h.st.walker rfl;refine ⟨⟨h.st.wk.trans (Wk.ofExt hx fun b hM e=>g.wb.1 (e▸hM)),lt_ h.st.sz hx.size,hb,h.st.events.ext hx g.eb.2.2,⟨h.st.frags.1.ext hx g.fm.2.2,h.st.frags.2⟩,h.st.vm,hco⟩,h.vm.ext hx h.st.vm.1,h.nd,h.sub,g.st l w _ h.ev (hx.mono fun b _ e hV=>g.wb.2 (e▸hV)),fun j=>(h.vis j).ne hx fun T p gg cap ha _ _ e=>?_⟩;have:=h.st.walker.at_mem ha e;simp at this
theorem Wst.roots {co:OA}{evs:List Value}(g:Good c)(h:Wst c co vm evs w):
  ∃ q1 q2 q3,w.cell? ⟨c.sb,0,none⟩=some (.pointer q1)/\w.cell? ⟨c.sb,1,none⟩=some (.pointer q2)/\w.cell? ⟨c.sb,2,none⟩=some (.pointer q3)/\OptQ (PDef c.M c.w0) (lastN Def.name c.types c.rq) q1/\OptQ (PDef c.M c.w0) (lastN Def.name c.types c.rm) q2/\OptQ (PDef c.M c.w0) (lastN Def.name c.types c.rs) q3:=by
 obtain ⟨q1,q2,q3,s,hB,o1,o2,o3⟩:=g.sch;exact ⟨q1,q2,q3,h.wk.nd g.sb hB (j:=0) rfl rfl,h.wk.nd g.sb hB (j:=1) rfl rfl,h.wk.nd g.sb hB (j:=2) rfl rfl,o1,o2,o3⟩
def Wq (c:WCtx)(o:OC)(vs:List BA)(l:List Ev)(w:World)(need:List Ev)(w':World):Prop:=
 Wp c o.vm w w'/\∃ vs' es,Wd c { o with co:=none} vs' (l++es) w'/\(∀ e∈es,DocEv c e/\o.ob.on (slot e)=true)/\(∀ e∈need,o.ob.on (slot e)=true->e∈es)/\es.length+pot c o.ob vs'<=cntE o.ob need+pot c o.ob vs
theorem t_8 {need:List Ev}(g:Good c)(h:Wr c o vs l w need w'){node:Value}{ev:Ev}{j:Nat}(hk:slot ev=j)(hn:f_i c w' node ev)(hd:DocEv c ev)(hQ:∀ w2,Wr c o vs l w (need++[ev]) w2->Wk c w' w2->Q w2):
  ∃ (I:Int->World->Prop) (μ:Int->World->Nat),I (0:Int) w'/\∀ (n:Int) (w1:World),I n w1->
   (((decide (n<(o.ob.L j:Int)))=true->∃ p:Addr,o.ob.A j=some p/\(0<=n/\n<(o.ob.L j:Int))/\∃ v:Value,w1.cell? (p.add (n.toNat*1))=some v/\∃ (g:FuncId) (cap:List Value),v=.func (.func g) #[] cap.toArray/\∃ fn,Tryz.prog.funcs[g]? =some fn/\(fn.name== "runtime.NumGoroutine" ||fn.body.isNone)=false/\
    CP g ([.pointer (some (adr c.wb)),node]++cap).toArray w1 (fun e w2=>e=.returned (.tuple #[])/\True/\(I (wr (n+(1:Int))) w2/\μ (wr (n+(1:Int))) w2<μ n w1)))/\
   ((decide (n<(o.ob.L j:Int)))=false->Q w1)):=by
 have h0:=h;obtain ⟨h1,vs',es,h2,h3⟩:=h;have h':Wr c o vs' (l++es) w' [] w':=Wr.refl h2;refine h'.visit g hk hn hd fun w2 k2=>hQ w2 ?_ k2.1.wk;obtain ⟨k1,vs2,es2,d2,m3,m4,m5,m6⟩:=k2;obtain ⟨h3,h4,h5,h6⟩:=h3;refine ⟨h1.trans k1,vs2,es++es2,by rwa [<- List.append_assoc],lt_ h3 m3,fun e he=>(ma_.1 he).elim (h4 e) (m4 e),fun e he ho=>?_,by simp only [la_,k_c,List.nil_append] at m6 ⊢;omega⟩;rcases ma_.1 he with he|he
 ·exact ma_.2 (.inl (h5 e he ho))
 ·exact ma_.2 (.inr (m5 e (by simpa using he) ho))
theorem thenk {need need':List Ev}(h:Wr c o vs l w need w'){f:FuncId}{args:Array Value}(k:∀ vs' l',Wd c o vs' l' w'->vs.length<=vs'.length->CP f args w' fun e w2=>e=.returned (.tuple #[])/\Wr c o vs' l' w' need' w2):
  CP f args w' fun e w2=>e=.returned (.tuple #[])/\Wr c o vs l w (need++need') w2/\Wk c w' w2:=by
 obtain ⟨h1,vs',es,h2,h3,h4,h5,h6⟩:=h;refine (k vs' (l++es) h2 h3).mono ?_;rintro _ w2 ⟨rfl,k1,vs2,es2,k2,k3,k4,k5,k6⟩;refine ⟨rfl,⟨h1.trans k1,vs2,es++es2,by rwa [<- List.append_assoc],lt_ h3 k3,fun e he=>(ma_.1 he).elim (h4 e) (k4 e),fun e he ho=>?_,by simp only [la_,k_c];omega⟩,k1.wk⟩;rcases ma_.1 he with he|he
 ·exact ma_.2 (.inl (h5 e he ho))
 ·exact ma_.2 (.inr (k5 e he ho))
theorem h_a (g:Good c){f:Frag}{fb:Nat}(hw:Wd c o vs l w)(hco:o.co=none)(hp:PFrag c.M c.w0 f fb)(hf:f∈c.frags):
  CP 199 #[.pointer (some (adr c.wb)),.pointer (some (adr fb))] w fun e w'=>e=.returned (.tuple #[])/\Wq c o vs l w (evFr c.frags f) w':=by
 have hp':=hp;obtain ⟨Af2,Lf2,Cf2,Af3,Lf3,Cf3,posf,hM,hB,hfd,hfk⟩:=hp';have hdoc:∀ e∈evFr c.frags f,DocEv c e:=fun e he=>.inr ⟨f,hf,he⟩;refine c_o (some (adr c.wb)) (some (adr fb)) w _ fun w3 e3=>?_;have n3:=(Nst.refl c w).drew e3;have d3:=hw.nst g n3;obtain ⟨z1,z2,z3,z4⟩:=d3.st.sch g;obtain ⟨q10,r10,o10⟩:=z4 f.on;have nset:=Nst.set (v:=.pointer q10) d3.st.wk hM hB (o_l hp o10);have a12:=d3.st.wk.setat hM hB (j:=6) (v:=.pointer q10) (by simp);have n12:=n3.trans nset;have d12:=hw.nst g n12;refine ⟨adr c.wb,rfl,_,z1,adr c.sb,rfl,_,z2,adr fb,rfl,f.on,d3.st.wk.nd hM hB (j:=3) rfl rfl,q10,r10,trivial,adr fb,rfl,d3.st.wk.off hM hB (j:=6) (n:=1) (by simp),trivial,adr fb,rfl,Af2,Lf2,Cf2,d12.st.wk.nd hM hB (j:=4) rfl rfl,?_⟩;refine (a_D g d12 hfd fun e he=>hdoc e (ma_.2 (.inl he))).mono ?_;rintro _ w16 ⟨rfl,n16⟩;refine ⟨rfl,trivial,adr fb,rfl,Af3,Lf3,Cf3,n16.st.wk.nd hM hB (j:=5) rfl rfl,?_⟩;refine (n16.then fun vs' l' d' hv=>e_X g (c.frags.length+1) f.kids Af3 Lf3 Cf3 q10 w16 o vs' l' d' (GDef.of g o10) (by omega) hfk fun e he=>hdoc e (ma_.2 (.inr (ma_.2 (.inl he))))).mono ?_;rintro _ w20 ⟨rfl,h20⟩;obtain ⟨y1,y2⟩:=h20.events 2 rfl;refine ⟨rfl,trivial,adr c.wb,rfl,_,y1,adr c.eb,rfl,_,_,_,y2,?_⟩;have hnode:f_i c w20 (.pointer (some (adr fb))) (.frag f):=by
  obtain ⟨v',hv',hcase⟩:=h20.1.wk.note (a:=⟨fb,6,none⟩) hM a12;refine ⟨fb,rfl,hp,hf,?_⟩;rcases hcase with rfl|hok
  ·exact ⟨q10,hv'.cell,o10⟩
  ·obtain ⟨q,rfl,hq⟩:=hok.2.2.2.2.2.2 ⟨rfl,rfl⟩;exact ⟨q,hv'.cell,hq f hp⟩
 refine h20.visit g (ev:=.frag f) rfl hnode (hdoc _ (by simp [evFr])) (Q:=fun w'=>(.returned (.tuple #[]):Ending)=.returned (.tuple #[])/\Wq c o vs l w (evFr c.frags f) w') fun w' h'=>⟨rfl,?_⟩;obtain ⟨s',vs',es,d',-, h1,h2,h3⟩:=h'.after n12.stp;have e:evDs d_z f.dirs++evL c.frags f.kids++[.frag f]=evFr c.frags f:=by simp [evFr]
 rw [e] at h2 h3;refine ⟨s'.wp,vs',es,?_,h1,h2,h3⟩;cases o;obtain rfl:=hco;exact d'
theorem f_7 (g:Good c){x:OpD}{ob:Nat}(hw:Wd c o vs l w)(hp:POp c.M c.w0 x ob)(hxo:x∈c.ops)(hvt:∀ v∈x.vars,okTyp v.t):
  CP 198 #[.pointer (some (adr c.wb)),.pointer (some (adr ob))] w fun e w'=>e=.returned (.tuple #[])/\Wq c o vs l w (evOp c.frags x) w':=by
 have hp':=hp;obtain ⟨A1,L1,C1,A2,L2,C2,A3,L3,C3,pos,hM,hB,hvars,hdirs,hkids⟩:=hp';have hdoc:∀ e∈evOp c.frags x,DocEv c e:=fun e he=>.inl ⟨x,hxo,he⟩;have hL10:=hvars.1;have hL1:=hvars.2.2.1;have d4:=hw.set4 g (some (adr ob)) (.inr ⟨ob,x,rfl,hp⟩);have p4:=Wp.set g o.vm w 4 (.pointer (some (adr ob)));refine c_j (some (adr c.wb)) (some (adr ob)) w _ ⟨adr c.wb,rfl,hw.st.walker.off (j:=4) (n:=1) (q:=fun _=>false) (by simp) rfl,trivial,adr ob,rfl,A1,L1,C1,d4.st.wk.nd hM hB (j:=3) rfl rfl,?_⟩;generalize hw4:w.setCell ((adr c.wb).add 4) (.pointer (some (adr ob)))=w4;replace d4:Wd c { o with co:=some (adr ob)} vs l w4:=by rw [<- hw4];exact d4
 replace p4:Wp c o.vm w w4:=by rw [<- hw4];exact p4
 clear hw4;generalize ho4:({ o with co:=some (adr ob)}:OC)=o4 at d4;have hvm4:o4.vm=o.vm:=by rw [<- ho4]
 have hob4:o4.ob=o.ob:=by rw [<- ho4]
 let NV:Nat->World->Prop:=fun k w'=>∀ (j:Nat) y,j<k->x.vars[j]? =some y->∃ p vb,A1=some p/\c.M p.block/\At c.w0 242 (p.add j) (.pointer (some (adr vb)))/\PVar c.M c.w0 y vb/\Noted c w' vb
 have NVk:∀ {k:Nat} {w1 w2:World},NV k w1->Wk c w1 w2->NV k w2:=fun h hwk j y hj hy=>by
  obtain ⟨p,vb,h1,h2,h3,h4,h5⟩:=h j y hj hy;have hMv:c.M vb:=by
   obtain ⟨_,_,_,_,_,_,hMv,-⟩:=h4;exact hMv
  exact ⟨p,vb,h1,h2,h3,h4,h5.wk hMv hwk⟩
 refine ⟨fun i w1=>0<=i/\i<=L1/\Wr c o4 vs l w4 ((x.vars.take i.toNat).map .var) w1/\NV i.toNat w1,fun i _=>((L1:Int)-i).toNat,⟨by omega,by omega,by simpa using Wr.refl d4,fun j y hj _=>by simp at hj⟩,?_⟩;rintro i w10 ⟨h0,hi,n10,nv10⟩;refine ⟨fun hlt=>?_,fun hge=>?_⟩
 ·have hlt:=odt hlt;intro K11 hK11;have hmv:=hvars.2.2.2;obtain ⟨y,hx⟩:∃ y,x.vars[i.toNat]? =some y:=⟨_,List.getElem?_eq_getElem (by omega)⟩;obtain ⟨p,v,hpp,hMp,hat,vb,rfl,hpv⟩:=hmv i.toNat y hx;have hmem:=mg_ hx;have key11:∀ w',Wr c o4 vs l w4 ((x.vars.take i.toNat).map .var++[.var y]) w'->Wk c w10 w'->Noted c w' vb->K11 w':=by
   intro w' n' wk' nt';refine hK11 w' ?_;rw [a_a h0 (by omega)];refine next h0 hlt ⟨?_,fun j y' hj hy'=>?_⟩
   ·rw [show (i+1).toNat=i.toNat+1 by omega,List.take_add_one,hx,List.map_append];exact n'
   ·by_cases hji:j<i.toNat
    ·exact NVk nv10 wk' j y' hji hy'
    ·obtain rfl:j=i.toNat:=by omega
     rw [hx] at hy';obtain rfl:y=y':=by simpa using hy'
     exact ⟨p,vb,hpp,hMp,hat,hpv,nt'⟩
  have hpv':=hpv;obtain ⟨tb,qd,Av,Lv,Cv,posv,hMv,hBv,hty,hdf,hvd⟩:=hpv';refine ⟨p,hpp,⟨h0,hlt⟩,_,by simpa using (n10.st.wk.at (by rw [b_x];exact hMp) hat rfl).cell,fun w15 e15=>?_⟩;have n15:=n10.drew g e15;have wk15:Wk c w10 w15:=((Nst.refl c w10).drew e15).wk;obtain ⟨z1,z2,z3,z4⟩:=n15.st.sch g;refine ⟨adr c.wb,rfl,_,z1,adr c.sb,rfl,_,z2,adr vb,rfl,_,n15.st.wk.nd hMv hBv (j:=2) rfl rfl,?_⟩;have hokt:=hvt y hmem;refine (a_I y.t tb w15 n15.st.wk hty hokt).mono ?_;rintro _ _ ⟨rfl,rfl⟩;obtain ⟨q25,r25,o25⟩:=z4 (a_w y.t);have nset:=Nst.set n15.st.wk hMv hBv (o_k hpv o25);have a27:=n15.st.wk.setat hMv hBv (j:=7) (v:=.pointer q25) (by simp);have n27:=n15.nst g nset;obtain ⟨y1,y2⟩:=n27.events 8 rfl;refine ⟨_,rfl,trivial,by simp,q25,r25,adr vb,rfl,n15.st.wk.off hMv hBv (j:=7) (n:=1) (by simp),trivial,trivial,adr c.wb,rfl,_,y1,adr c.eb,rfl,_,_,_,y2,?_⟩;have nt27:Noted c _ vb:=⟨q25,a27,fun z hz=>by rw [k_9 hz hpv];exact o25⟩;have wk27:=wk15.trans nset.wk;refine t_8 g n27 (ev:=.var y) rfl ⟨vb,rfl,hpv,hvt y hmem⟩ (hdoc _ (by simp only [evOp,f_j];exact ma_.2 (.inl (ma_.2 (.inl (mm_.2 ⟨y,hmem,rfl⟩)))))) fun w27 h27 kk=>?_;have nt:=nt27.wk hMv kk;have kw:=wk27.trans kk;refine ⟨adr vb,rfl,qd,h27.st.wk.nd hMv hBv (j:=3) rfl rfl,fun hs=>?_,fun _=>key11 _ h27 kw nt⟩;cases hdl:y.dflt with
  | nil=>
   rw [hdl] at hdf;rw [show qd=none from hdf] at hs;cases hs
  | cons dv rest=>
   rw [hdl] at hdf;obtain ⟨dvb,rfl,hpdv⟩:=hdf;obtain ⟨kd,rd,Ad,Ld,Cd,posd,hMdv,hBdv⟩:=hpdv.blk;intro w45 e45;have m45:=(Nst.refl c w27).drew e45;have h45:=h27.nst g m45;have m51:=m45.trans (Nst.set h45.st.wk hMdv hBdv (i_w (b:=dvb) (.inr ⟨tb,y.t,rfl,hty⟩)));refine ⟨adr vb,rfl,_,h45.st.wk.nd hMv hBv (j:=3) rfl rfl,adr vb,rfl,_,h45.st.wk.nd hMv hBv (j:=2) rfl rfl,adr dvb,rfl,h45.st.wk.off hMdv hBdv (j:=7) (n:=1) (by simp),trivial,trivial,fun w52 e52=>?_⟩;have m52:=m51.drew e52;have h52:=h27.nst g m52;obtain ⟨z1,z2,z3,z4⟩:=h52.st.sch g;refine ⟨adr vb,rfl,_,h52.st.wk.nd hMv hBv (j:=3) rfl rfl,adr c.wb,rfl,_,z1,adr c.sb,rfl,_,z2,adr vb,rfl,_,h52.st.wk.nd hMv hBv (j:=2) rfl rfl,?_⟩;refine (a_I y.t tb w52 h52.st.wk hty hokt).mono ?_;rintro _ _ ⟨rfl,rfl⟩;obtain ⟨q64,r64,o64⟩:=z4 (a_w y.t);have m65:=m52.trans (Nst.set h52.st.wk hMdv hBdv (i_v (b:=dvb) (GDef.of g o64)));exact ⟨_,rfl,trivial,by simp,q64,r64,adr dvb,rfl,h52.st.wk.off hMdv hBdv (j:=5) (n:=1) (by simp),trivial,trivial,key11 _ (h27.nst g m65) (kw.trans m65.wk) (nt.wk hMv m65.wk)⟩
 ·have hle:=odf hge;rw [tl_ (by omega)] at n10;replace nv10:NV L1 w10:=by
   have:i.toNat=L1:=by omega
   rw [this] at nv10;exact nv10
  intro K67 hK67;have key67:∀ dq loc,GDef c dq->loc=opLoc x.kind->K67 dq loc w10:=by
   intro dq loc gdq hloc;refine hK67 dq loc w10 ⟨adr ob,rfl,A1,L1,C1,n10.st.wk.nd hM hB (j:=3) rfl rfl,?_⟩;refine ⟨fun i w1=>0<=i/\i<=L1/\Wr c o4 vs l w4 (x.vars.map .var++(x.vars.take i.toNat).flatMap fun v=>evDef v.dflt++evDs d_Y v.dirs) w1/\NV L1 w1,fun i _=>((L1:Int)-i).toNat,⟨by omega,by omega,by simpa using n10,nv10⟩,?_⟩;rintro j w76 ⟨k0,kj,n76,nv76⟩;refine ⟨fun klt=>?_,fun kge=>?_⟩
   ·have klt:=odt klt;obtain ⟨p,y,v,hpp,hx,hc,vb,rfl,hpv⟩:=hvars.wget n76.st.wk (fun _=>rfl) k0 klt;have hmem:=mg_ hx;have hpv':=hpv;obtain ⟨tb,qd,Av,Lv,Cv,posv,hMv,hBv,hty,hdf,hvd⟩:=hpv';have hdv:∀ e∈evDef y.dflt++evDs d_Y y.dirs,DocEv c e:=fun e he=>hdoc e (by
     simp only [evOp,f_j];exact ma_.2 (.inl (ma_.2 (.inr (mf_.2 ⟨y,hmem,he⟩)))))
    refine ⟨p,hpp,⟨k0,klt⟩,_,hc,fun K79 hK79=>?_⟩;have key79:∀ w',Wr c o4 vs l w4 (x.vars.map .var++((x.vars.take j.toNat).flatMap fun v=>evDef v.dflt++evDs d_Y v.dirs)++evDef y.dflt) w'->Wk c w76 w'->K79 w':=by
     intro w' n' wk';refine hK79 w' fun w81 e81=>?_;have n81:=n'.drew g e81;have wk81:=wk'.trans ((Nst.refl c w').drew e81).wk;obtain ⟨q83,hq83,-⟩:=var7 g n81.st.wk hpv;refine ⟨adr vb,rfl,q83,hq83,adr vb,rfl,Av,Lv,Cv,n81.st.wk.nd hMv hBv (j:=4) rfl rfl,?_⟩;refine (thenk n81 fun vs' l' d' _=>a_D g d' hvd fun e he=>hdv e (ma_.2 (.inr he))).mono ?_;rintro _ w87 ⟨rfl,n87,kk⟩;refine ⟨rfl,trivial,trivial,?_⟩;rw [a_a k0 (by omega)];refine next k0 klt ⟨?_,NVk nv76 (wk81.trans kk)⟩
     rw [c_t _ k0 hx];simpa only [List.append_assoc] using n87
    refine ⟨adr vb,rfl,qd,n76.st.wk.nd hMv hBv (j:=3) rfl rfl,fun hs=>?_,fun hs=>key79 _ ?_ (Wk.refl c w76)⟩
    ·cases hdl:y.dflt with
     | nil=>
      rw [hdl] at hdf;rw [show qd=none from hdf] at hs;cases hs
     | cons dv rest=>
      rw [hdl] at hdf key79 hdv;obtain ⟨dvb,rfl,hpdv⟩:=hdf;refine ⟨adr vb,rfl,_,n76.st.wk.nd hMv hBv (j:=3) rfl rfl,(thenk n76 fun vs' l' d' _=>d_5 g dv dvb w76 o4 vs' l' d' hpdv fun e he=>hdv e (ma_.2 (.inl he))).mono ?_⟩;rintro _ w93 ⟨rfl,n93,kk⟩;exact ⟨rfl,trivial,key79 w93 n93 kk⟩
    ·cases hdl:y.dflt with
     | nil=>simpa [evDef] using n76
     | cons dv rest=>
      rw [hdl] at hdf;obtain ⟨dvb,rfl,hpdv⟩:=hdf;cases hs
   ·have kle:=odf kge;rw [tl_ (by omega)] at n76;refine ⟨adr ob,rfl,A2,L2,C2,n76.st.wk.nd hM hB (j:=4) rfl rfl,?_⟩;subst hloc;refine (thenk n76 fun vs' l' d' _=>a_D g d' hdirs fun e he=>hdoc e (ma_.2 (.inr (ma_.2 (.inl he))))).mono ?_;rintro _ w97 ⟨rfl,n97,k97⟩;refine ⟨rfl,trivial,adr ob,rfl,A3,L3,C3,n97.st.wk.nd hM hB (j:=5) rfl rfl,?_⟩;refine (thenk n97 fun vs' l' d' hv=>e_X g (c.frags.length+1) x.kids A3 L3 C3 dq w97 o4 vs' l' d' gdq (by omega) hkids fun e he=>hdoc e (ma_.2 (.inr (ma_.2 (.inr (ma_.2 (.inl he))))))).mono ?_;rintro _ w101 ⟨rfl,n101,k101⟩;have nv101:=NVk nv76 (k97.trans k101);obtain ⟨y1,y2⟩:=n101.events 0 rfl;refine ⟨rfl,trivial,adr c.wb,rfl,_,y1,adr c.eb,rfl,_,_,_,y2,?_⟩;have hnode:f_i c w101 (.pointer (some (adr ob))) (.op x):=by
     refine ⟨ob,A1,L1,C1,rfl,hp,hxo,n101.st.wk.nd hM hB (j:=3) rfl rfl,hL10,fun j y hy=>?_⟩;have hj:j<L1:=by
      rw [hL10];exact (List.getElem?_eq_some_iff.1 hy).1
     obtain ⟨p,vb,h1,h2,h3,h4,h5⟩:=nv101 j y hj hy;exact ⟨p,vb,h1,(n101.st.wk.at (by rw [b_x];exact h2) h3 rfl).cell,h4,h5,h2,h3,hvt y (mg_ hy)⟩
    refine n101.visit g (ev:=.op x) rfl hnode (hdoc _ (by simp [evOp])) fun w' h'=>?_;obtain ⟨s',vs',es,d',-, h1,h2,h3⟩:=h';refine ⟨adr c.wb,rfl,d'.st.walker.off (j:=4) (n:=1) (q:=fun _=>false) (by simp) rfl,trivial,rfl,?_⟩;have e:x.vars.map Ev.var++(x.vars.flatMap fun v=>evDef v.dflt++evDs d_Y v.dirs)++evDs (opLoc x.kind) x.dirs++evL c.frags x.kids++[.op x]=evOp c.frags x:=by simp [evOp,f_j]
    rw [e] at h2 h3;rw [hob4] at h1 h2 h3;rw [hvm4] at s';refine ⟨(p4.trans s'.wp).trans (Wp.set g o.vm w' 4 (.pointer none)),vs',es,?_,h1,h2,h3⟩;have:=d'.set4 g none (.inl rfl);rw [<- ho4] at this;exact this
  obtain ⟨q1,q2,q3,k1,k2,k3,g1,g2,g3⟩:=n10.st.roots g;obtain ⟨z1,-⟩:=n10.st.sch g;refine ⟨adr ob,rfl,x.kind,n10.st.wk.nd hM hB (j:=1) rfl rfl,fun K121 hK121=>?_⟩;have key121:∀ b:Bool,(b=true↔x.kind=a_5∨x.kind=E0)->K121 b w10:=by
   intro b hb;refine hK121 b w10 ⟨fun h=>⟨adr c.wb,rfl,_,z1,adr c.sb,rfl,q1,k1,key67 q1 _ (GDef.of g g1) ?_⟩,fun h=>?_⟩
   ·rw [opLoc,if_pos (hb.1 h)]
   have hnb:¬ (x.kind=a_5∨x.kind=E0):=fun k=>by
    rw [hb.2 k] at h;cases h
   refine ⟨fun hm=>⟨adr c.wb,rfl,_,z1,adr c.sb,rfl,q2,k2,key67 q2 _ (GDef.of g g2) ?_⟩,fun hm=>⟨fun hs=>⟨adr c.wb,rfl,_,z1,adr c.sb,rfl,q3,k3,key67 q3 _ (GDef.of g g3) ?_⟩,fun hs=>key67 none _ (.inl rfl) ?_⟩⟩
   ·rw [opLoc,if_neg hnb,if_pos (a_b.1 hm)]
   ·rw [opLoc,if_neg hnb,if_neg (a_f.1 hm),if_pos (a_b.1 hs)]
   ·rw [opLoc,if_neg hnb,if_neg (a_f.1 hm),if_neg (a_f.1 hs)]
  refine ⟨fun hq=>key121 true ⟨fun _=>.inl (a_b.1 hq),fun _=>rfl⟩,fun hq=>key121 _ ⟨fun h=>.inr (a_b.1 h),fun h=>a_b.2 (h.resolve_left (a_f.1 hq))⟩⟩
abbrev at3 (c:WCtx)(wb fm:Nat)(fl:List (BA × Value)):WCtx:={ c with wb:=wb,fm:=fm,fl:=fl}
structure Wb (c:WCtx) (evs:List Value) (l:List Ev) (w:World):Prop where
 wk:Wk c c.w0 w
 sz:c.w0.heap.size<=w.heap.size
 walker:∃ mv,Blk w c.wb 212 [.pointer (some (adr c.eb)),.pointer (some (adr c.sb)),.pointer (some (adr c.qb)),.map mv,.pointer none,.map (some c.fm)]
 events:Blk w c.eb 157 evs
 frags:SMap w c.fm c.fl/\∀ k,OptR (PFrag c.M c.w0) (a_h Frag.name c.frags k) (mget c.fl k)
 ev:c.St l w
abbrev WZ (c:WCtx):Nat->Prop:=fun b=>c.M b∨c.V b∨b=c.wb
abbrev ocOf (ob:Obs)(vm:Nat):OC:={ co:=none,vm:=vm,ob:=ob}
theorem Wb.fresh (g:Good c)(h:Wb c (evsOf ob) l w)(hv:∀ j,Vis c ob w j):
  Wd c (ocOf ob w.heap.size) [] l ((w.alloc (.map #[] 0)).setCell ⟨c.wb,3,none⟩ (.map (some w.heap.size)))/\
  Ext (fun b=>b=c.wb) w ((w.alloc (.map #[] 0)).setCell ⟨c.wb,3,none⟩ (.map (some w.heap.size))):=by
 obtain ⟨mv,hb⟩:=h.walker;have hlt:=hb.lt;have x1:Ext (fun b=>b=c.wb) w (w.alloc (.map #[] 0)):=(Ext.refl w).alloc _;have x1':EF w (w.alloc (.map #[] 0)):=(Ext.refl w).alloc _;have hb1:=hb.ext x1' id;have x2:Ext (fun b=>b=c.wb) (w.alloc (.map #[] 0)) ((w.alloc (.map #[] 0)).setCell ⟨c.wb,3,none⟩ (.map (some w.heap.size))):=Ext.setCell (X:=fun b=>b=c.wb) (Ext.refl _) (a:=⟨c.wb,3,none⟩) (.inl rfl) _;have x:=x1.trans x2 fun _ _ e=>e;have hb2:=hb1.set 3 (.map (some w.heap.size));have hfm:=h.frags.1.lt;have heb:=h.events.lt;have hM:∀ b,c.M b->b<w.heap.size:=fun b hb=>Nat.lt_of_lt_of_le (g.lt b hb) h.sz;have hV:∀ b,c.V b->b<w.heap.size:=fun b hb=>Nat.lt_of_lt_of_le (g.vlt b hb) h.sz;have hv':∀ j,Vis c ob _ j:=fun j=>(hv j).ne x fun T p gg cap ha _ _ e=>by
  have:=hb.at_mem ha e;simp at this
 refine ⟨⟨⟨h.wk.trans (Wk.ofExt x fun b hM e=>g.wb.1 (e▸hM)),lt_ h.sz x.size,hb2,h.events.ext x g.eb.2.2,⟨h.frags.1.ext x g.fm.2.2,h.frags.2⟩,⟨by show w.heap.size≠c.wb;omega,by show w.heap.size≠c.eb;omega,by show w.heap.size≠c.fm;omega,fun e=>absurd (hM _ e) (by simp),fun e=>absurd (hV _ e) (by simp)⟩,.inl rfl⟩,?_,List.nodup_nil,fun n hn=>by simp at hn,g.st l w _ h.ev (x.mono fun b _ e hV=>g.wb.2 (e▸hV)),hv'⟩,x⟩;refine ⟨[],(SMap.made w).ext x2 (by show ¬ w.heap.size=c.wb;omega),fun k=>⟨fun h=>by simp at h,fun _=>rfl⟩⟩
theorem Wd.toWb (h:Wd c { o with co:=none} vs l w):Wb c (evsOf o.ob) l w:=
 ⟨h.st.wk,h.st.sz,⟨_,h.st.walker⟩,h.st.events,h.st.frags,h.ev⟩
def spN (c:WCtx)(ob:Obs)(ops:List OpD)(frags:List Frag):Nat:=(ops.map fun x=>cntE ob (evOp c.frags x)+pot c ob []).sum+(frags.map fun f=>cntE ob (evFr c.frags f)+pot c ob []).sum
structure Told (c:WCtx) (ob:Obs) (ops:List OpD) (frags:List Frag) (l:List Ev):Prop where
 only:∀ e∈l,DocEv c e/\ob.on (slot e)=true
 all:(∀ x∈ops,∀ e∈evOp c.frags x,ob.on (slot e)=true->e∈l)/\∀ f∈frags,∀ e∈evFr c.frags f,ob.on (slot e)=true->e∈l
 few:l.length<=spN c ob ops frags
theorem Told.op {ops:List OpD}{es:List Ev}{x:OpD}(h:Told c ob (ops.take i.toNat) [] l)(h0:0<=i)(hx:ops[i.toNat]? =some x)
  (h1:∀ e∈es,DocEv c e/\ob.on (slot e)=true) (h2:∀ e∈evOp c.frags x,ob.on (slot e)=true->e∈es) (h3:es.length<=cntE ob (evOp c.frags x)+pot c ob []):Told c ob (ops.take (i+1).toNat) [] (l++es):=by
 rw [show (i+1).toNat=i.toNat+1 by omega,List.take_add_one,hx];refine ⟨fun e he=>(ma_.1 he).elim (h.only e) (h1 e),⟨fun y hy e he ho=>?_,fun f hf=>by simp at hf⟩,?_⟩
 ·rcases ma_.1 hy with hy|hy
  ·exact ma_.2 (.inl (h.all.1 y hy e he ho))
  ·obtain rfl:y=x:=by simpa using hy
   exact ma_.2 (.inr (h2 e he ho))
 ·have h5:=h.few;simp only [spN,List.map_append,List.sum_append,la_,Option.toList_some,List.map_cons,List.map_nil,List.sum_cons,List.sum_nil] at h5 ⊢;omega
theorem Told.frag {ops:List OpD}{frags:List Frag}{es:List Ev}{x:Frag}(h:Told c ob ops (frags.take i.toNat) l)(h0:0<=i)(hx:frags[i.toNat]? =some x)
  (h1:∀ e∈es,DocEv c e/\ob.on (slot e)=true) (h2:∀ e∈evFr c.frags x,ob.on (slot e)=true->e∈es) (h3:es.length<=cntE ob (evFr c.frags x)+pot c ob []):Told c ob ops (frags.take (i+1).toNat) (l++es):=by
 rw [show (i+1).toNat=i.toNat+1 by omega,List.take_add_one,hx];refine ⟨fun e he=>(ma_.1 he).elim (h.only e) (h1 e),⟨fun y hy e he ho=>ma_.2 (.inl (h.all.1 y hy e he ho)),fun y hy e he ho=>?_⟩,?_⟩
 ·rcases ma_.1 hy with hy|hy
  ·exact ma_.2 (.inl (h.all.2 y hy e he ho))
  ·obtain rfl:y=x:=by simpa using hy
   exact ma_.2 (.inr (h2 e he ho))
 ·have h5:=h.few;simp only [spN,List.map_append,List.sum_append,la_,Option.toList_some,List.map_cons,List.map_nil,List.sum_cons,List.sum_nil] at h5 ⊢;omega
theorem g_i {α:Type}{nm:α->BA}{xs:List α}{x:α}(h0:0<=i)(hx:xs[i.toNat]? =some x)(k:BA):a_h nm (xs.take (i+1).toNat) k=(a_h nm (xs.take i.toNat) k).or (if nm x=k then some x else none):=by
 rw [show (i+1).toNat=i.toNat+1 by omega,List.take_succ,hx];unfold a_h;rw [List.find?_append];by_cases h:nm x=k<;>simp [h]
theorem l_z (g:Good c){w8:World}{A1:OA}{L1 C1:Nat}{l0:List Ev}(hb:Wb c (evsOf ob) l0 w8)(hv:∀ j,Vis c ob w8 j)(hq:d_O c.M c.w0 c.ops c.frags c.qb)(hp:POps c.M c.w0 A1 L1 C1 c.ops)(hvt:∀ x∈c.ops,∀ v∈x.vars,okTyp v.t)
  (ht:Told c ob [] [] l0)  (hQ:∀ w' l,Wb c (evsOf ob) l w'->(∀ j,Vis c ob w' j)->Ext (WZ c) w8 w'->Told c ob c.ops [] l->Q w'):
  ∃ (I38:Int->World->Prop) (x39:Int->World->Nat),I38 (0:Int) w8/\(∀ n40:Int,∀ wv41:World,I38 n40 wv41->
   (((decide (n40<(L1:Int)))=true->∃ p42:Addr,A1=some p42/\(0<=n40/\n40<(L1:Int))/\∃ q43:OA,wv41.cell? (p42.add (n40.toNat*1))=some (.pointer q43)/\let wv44:=wv41.alloc (.map #[] 0);
    ∃ p45:Addr,(some (adr c.wb))=some p45/\(∃ (cs:Array Value) (T:TypeId),objAt wv44 ((p45.add 3)).block=some (.cells cs T (0,0))/\((p45.add 3)).spot=none/\((p45.add 3)).off+1<=cs.size/\false=false)/\True/\(let wv46:=(wv44.setCell (p45.add 3) (.map (some wv41.heap.size)));
    CP 198 #[.pointer (some (adr c.wb)),.pointer q43] wv46 (fun e47 wv48=>e47=.returned (.tuple #[])/\True/\(I38 (wr (n40+(1:Int))) wv48/\x39 (wr (n40+(1:Int))) wv48<x39 n40 wv41))))/\
   ((decide (n40<(L1:Int)))=false->Q wv41))):=by
 have hL:=hp.1;have hs:=hp.2.2.1;refine ⟨fun i w1=>0<=i/\i<=L1/\∃ l,Wb c (evsOf ob) l w1/\(∀ j,Vis c ob w1 j)/\Ext (WZ c) w8 w1/\Told c ob (c.ops.take i.toNat) [] l,fun i _=>((L1:Int)-i).toNat,⟨by omega,by omega,l0,hb,hv,Ext.refl w8,by simpa using ht⟩,?_⟩;rintro i w1 ⟨h0,hi,l,hb1,hv1,hx1,ht1⟩;refine ⟨fun hlt=>?_,fun hge=>?_⟩
 ·have hlt:=odt hlt;obtain ⟨p,x,v,hpp,hx,hc,xb,rfl,hpx⟩:=hp.wget hb1.wk (fun _=>rfl) h0 hlt;obtain ⟨d2,x2⟩:=hb1.fresh g hv1;obtain ⟨mv,hwb⟩:=hb1.walker;have hmem:=mg_ hx;refine ⟨p,hpp,⟨h0,hlt⟩,_,hc,adr c.wb,rfl,((hwb.ext (X:=fun _=>False) ((Ext.refl w1).alloc _) id).off (j:=3) (n:=1) (q:=fun _=>false) (by simp) rfl),trivial,?_⟩;refine (f_7 g (o:=ocOf ob w1.heap.size) d2 hpx hmem (hvt x hmem)).mono ?_;rintro _ w' ⟨rfl,s',vs',es,d',hev,hneed,hcap⟩;refine ⟨rfl,trivial,?_⟩;rw [a_a h0 (by omega)];refine next h0 hlt ⟨_,d'.toWb (o:=ocOf ob w1.heap.size),d'.vis,(hx1.trans x2 fun b _ e=>.inr (.inr e)).trans s'.ext fun b hbl e=>?_,ht1.op h0 hx hev hneed (by have hc:es.length+pot c ob vs'<=cntE ob (evOp c.frags x)+pot c ob []:=hcap;omega)⟩
  rcases e with (e|e|e)|e
  ·exact .inl e
  ·exact .inr (.inl e)
  ·have:=hx1.size;have:b=w1.heap.size:=e;omega
  ·exact .inr (.inr e)
 ·have hle:=odf hge;rw [tl_ (by omega)] at ht1;exact hQ w1 l hb1 hv1 hx1 ht1
theorem j_j (g:Good c){w8:World}{A1:OA}{L1 C1:Nat}{l0:List Ev}(hb:Wb c (evsOf ob) l0 w8)(hv:∀ j,Vis c ob w8 j)(hp:h_r c.M c.w0 A1 L1 C1 c.frags)
  (ht:Told c ob c.ops [] l0)  (hQ:∀ w' l,Wb c (evsOf ob) l w'->(∀ j,Vis c ob w' j)->Ext (WZ c) w8 w'->Told c ob c.ops c.frags l->Q w'):
  ∃ (I38:Int->World->Prop) (x39:Int->World->Nat),I38 (0:Int) w8/\(∀ n40:Int,∀ wv41:World,I38 n40 wv41->
   (((decide (n40<(L1:Int)))=true->∃ p42:Addr,A1=some p42/\(0<=n40/\n40<(L1:Int))/\∃ q43:OA,wv41.cell? (p42.add (n40.toNat*1))=some (.pointer q43)/\let wv44:=wv41.alloc (.map #[] 0);
    ∃ p45:Addr,(some (adr c.wb))=some p45/\(∃ (cs:Array Value) (T:TypeId),objAt wv44 ((p45.add 3)).block=some (.cells cs T (0,0))/\((p45.add 3)).spot=none/\((p45.add 3)).off+1<=cs.size/\false=false)/\True/\(let wv46:=(wv44.setCell (p45.add 3) (.map (some wv41.heap.size)));
    CP 199 #[.pointer (some (adr c.wb)),.pointer q43] wv46 (fun e47 wv48=>e47=.returned (.tuple #[])/\True/\(I38 (wr (n40+(1:Int))) wv48/\x39 (wr (n40+(1:Int))) wv48<x39 n40 wv41))))/\
   ((decide (n40<(L1:Int)))=false->Q wv41))):=by
 have hL:=hp.1;have hs:=hp.2.2.1;refine ⟨fun i w1=>0<=i/\i<=L1/\∃ l,Wb c (evsOf ob) l w1/\(∀ j,Vis c ob w1 j)/\Ext (WZ c) w8 w1/\Told c ob c.ops (c.frags.take i.toNat) l,fun i _=>((L1:Int)-i).toNat,⟨by omega,by omega,l0,hb,hv,Ext.refl w8,by simpa using ht⟩,?_⟩;rintro i w1 ⟨h0,hi,l,hb1,hv1,hx1,ht1⟩;refine ⟨fun hlt=>?_,fun hge=>?_⟩
 ·have hlt:=odt hlt;obtain ⟨p,x,v,hpp,hx,hc,xb,rfl,hpx⟩:=hp.wget hb1.wk (fun _=>rfl) h0 hlt;obtain ⟨d2,x2⟩:=hb1.fresh g hv1;obtain ⟨mv,hwb⟩:=hb1.walker;have hmem:=mg_ hx;refine ⟨p,hpp,⟨h0,hlt⟩,_,hc,adr c.wb,rfl,((hwb.ext (X:=fun _=>False) ((Ext.refl w1).alloc _) id).off (j:=3) (n:=1) (q:=fun _=>false) (by simp) rfl),trivial,?_⟩;refine (h_a g (o:=ocOf ob w1.heap.size) d2 rfl hpx hmem).mono ?_;rintro _ w' ⟨rfl,s',vs',es,d',hev,hneed,hcap⟩;refine ⟨rfl,trivial,?_⟩;rw [a_a h0 (by omega)];refine next h0 hlt ⟨_,d'.toWb (o:=ocOf ob w1.heap.size),d'.vis,(hx1.trans x2 fun b _ e=>.inr (.inr e)).trans s'.ext fun b hbl e=>?_,ht1.frag h0 hx hev hneed (by have hc:es.length+pot c ob vs'<=cntE ob (evFr c.frags x)+pot c ob []:=hcap;omega)⟩
  rcases e with (e|e|e)|e
  ·exact .inl e
  ·exact .inr (.inl e)
  ·have:=hx1.size;have:b=w1.heap.size:=e;omega
  ·exact .inr (.inr e)
 ·have hle:=odf hge;rw [tl_ (by omega)] at ht1;exact hQ w1 l hb1 hv1 hx1 ht1
def FMap (c:WCtx)(w:World)(fm:Nat)(xs:List Frag):Prop:=∃ m,SMap w fm m/\∀ k,OptR (PFrag c.M c.w0) (a_h Frag.name xs k) (mget m k)
theorem FMap.put {fm:Nat}{xs:List Frag}{x:Frag}{xb:Nat}(h:FMap c w fm (xs.take i.toNat))(h0:0<=i)(hx:xs[i.toNat]? =some x)(hp:PFrag c.M c.w0 x xb):
  ∃ (q26:OA) (z27:Bool),(Instr.lookup 210 (.map (some fm)) (.string x.name) true).run Tryz.prog w=.ok (.tuple #[.pointer q26,.bool z27]) w/\
   (z27=true->FMap c w fm (xs.take (i+1).toNat))/\(z27=false->∃ w',(Instr.mapUpdate 210 (.map (some fm)) (.string x.name) (.pointer (some (adr xb)))).run Tryz.prog w=.ok () w'/\FMap c w' fm (xs.take (i+1).toNat)/\Ext (fun b=>b=fm) w w'):=by
 obtain ⟨m,hm,hk⟩:=h;have r:=a_W (t:=210) (kt:=9) (e:=229) (u:=x.name) (i:=Tryz.t229) (by kernel_rfl) (by kernel_rfl) (by kernel_rfl) rfl hm true;obtain ⟨q,hq,-⟩:=(hk x.name).look;refine ⟨q,(mget m x.name).isSome,?_,fun hz=>?_,fun hz=>?_⟩
 ·rw [r];show Result.ok (Value.tuple #[(mget m x.name).getD (.pointer none),.bool (mget m x.name).isSome]) w=_;rw [hq]
 ·refine ⟨m,hm,fun k=>?_⟩;rw [g_i h0 hx];by_cases hxk:x.name=k
  ·subst hxk;have:=hk x.name;cases hf:a_h Frag.name (xs.take i.toNat) x.name with
   | none=>
    rw [hf] at this;cases hg:mget m x.name with
    | none=>rw [hg] at hz;cases hz
    | some v=>rw [hg] at this;exact this.elim
   | some f=>
    rw [hf] at this;exact this
  ·rw [if_neg hxk,Option.or_none];exact hk k
 ·obtain ⟨w',r',m',x'⟩:=b_T (t:=210) (kt:=9) (e:=229) (u:=x.name) (v:=.pointer (some (adr xb))) (by kernel_rfl) (by kernel_rfl) hm;refine ⟨w',r',⟨_,m',fun k=>?_⟩,x'⟩;rw [g_i h0 hx,b_F];by_cases hxk:x.name=k
  ·subst hxk;rw [if_pos rfl,if_pos rfl];have:=hk x.name;cases hf:a_h Frag.name (xs.take i.toNat) x.name with
   | none=>exact ⟨xb,rfl,hp⟩
   | some f=>
    rw [hf] at this;cases hg:mget m x.name with
    | none=>rw [hg] at this;exact this.elim
    | some v=>rw [hg] at hz;cases hz
  ·rw [if_neg hxk,if_neg (Ne.symm hxk),Option.or_none];exact hk k
theorem Wk.at3 (h:Wk c w w')(wb fm:Nat)(fl:List (BA × Value)):Wk (at3 c wb fm fl) w w':=⟨h.cells,h.maps⟩
structure Ready (c:WCtx) (ob:Obs) (w:World):Prop where
 w0:c.w0=w
 good:∀ wb fm fl,w.heap.size<=wb->w.heap.size<=fm->fm≠wb->Good (at3 c wb fm fl)
 vis:∀ wb fm fl,w.heap.size<=wb->w.heap.size<=fm->fm≠wb->∀ j,Vis (at3 c wb fm fl) ob w j
 events:Blk w c.eb 157 (evsOf ob)
 query:d_O c.M c.w0 c.ops c.frags c.qb
 vars:∀ x∈c.ops,∀ v∈x.vars,okTyp v.t
 st:c.St [] w
 m:∀ b,c.M b->b<w.heap.size
 v:∀ b,c.V b->b<w.heap.size
abbrev n_2 (c:WCtx)(ob:Obs)(w:World)(e:Ending)(w':World):Prop:=e=.returned (.tuple #[])/\∃ l,c.St l w'/\Told c ob c.ops c.frags l/\Ext (fun b=>c.M b∨c.V b) w w'/\Wk c w w'
theorem e_q {w5:World}(h:Ready c ob w)(hx5:EF w w5)(hB:Blk w5 w.heap.size 212 [.pointer (some (adr c.eb)),.pointer (some (adr c.sb)),.pointer (some (adr c.qb)),.map none,.pointer none,.map none]):
  CP 173 #[.pointer (some (adr w.heap.size))] w5 fun e w'=>n_2 c ob w e w':=by
 have hw0:=h.w0;have hlt5:=hB.lt;have hq:=h.query;obtain ⟨A1,L1,C1,A2,L2,C2,pos,hMq,hBq,hops,hfrags⟩:=hq;rw [hw0] at hBq;have hL2:=hfrags.1;have hs2:=hfrags.2.2.1;have hM:∀ {b},c.M b->b<w.heap.size:=fun {b}=>h.m b;have hBq5:=hBq.ext hx5 id;have x6:EF w5 (w5.alloc (.map #[] 0)):=(Ext.refl w5).alloc _;have hB6:=hB.ext x6 id;have x8:Ext (fun b=>b=w.heap.size) (w5.alloc (.map #[] 0)) ((w5.alloc (.map #[] 0)).setCell ⟨w.heap.size,5,none⟩ (.map (some w5.heap.size))):=Ext.setCell (X:=fun b=>b=w.heap.size) (Ext.refl _) (a:=⟨w.heap.size,5,none⟩) (.inl rfl) _;have hB8:=hB6.set 5 (.map (some w5.heap.size));have hm8:=(SMap.made w5).ext x8 (by show ¬ w5.heap.size=w.heap.size;omega);have hx8:EF w _:=(hx5.then x6).trans x8 fun b hb e=>absurd (show b=w.heap.size from e) (by omega);have hsz8:=x8.size;have hsz6:(w5.alloc (.map #[] 0)).heap.size=w5.heap.size+1:=by simp
 refine e_G (some (adr w.heap.size)) w5 _ ⟨adr w.heap.size,rfl,_,(hB.at (j:=2) rfl).cell,adr c.qb,rfl,A2,L2,C2,(hBq5.at (j:=1) rfl).cell,adr w.heap.size,rfl,hB6.off (j:=5) (n:=1) (q:=fun _=>false) (by simp) rfl,trivial,?_⟩;generalize hw8:(w5.alloc (.map #[] 0)).setCell ((adr w.heap.size).add 5) (.map (some w5.heap.size))=w8;replace hB8:Blk w8 w.heap.size 212 [.pointer (some (adr c.eb)),.pointer (some (adr c.sb)),.pointer (some (adr c.qb)),.map none,.pointer none,.map (some w5.heap.size)]:=by rw [<- hw8];exact hB8
 replace hm8:SMap w8 w5.heap.size []:=by rw [<- hw8];exact hm8
 replace hx8:EF w w8:=by rw [<- hw8];exact hx8
 replace hsz8:w5.heap.size<w8.heap.size:=by
  rw [<- hw8];have:(w5.alloc (.map #[] 0)).heap.size<=((w5.alloc (.map #[] 0)).setCell ((adr w.heap.size).add 5) (.map (some w5.heap.size))).heap.size:=hsz8;omega
 clear hw8 x8 hB6 hsz6 x6;generalize hfm:w5.heap.size=fm at *;have hBq8:=hBq.ext hx8 id;have hfmw:w.heap.size<fm:=by omega
 have hwkc:∀ {w1},Ext (fun b=>b=fm) w8 w1->Wk c c.w0 w1:=fun {w1} x=>by
  rw [hw0];exact Wk.ofExt ((hx8.toM (fun b=>b=fm)).trans x fun _ _ e=>e) fun b hb e=>by
   have:b=fm:=e;have:=hM hb;omega
 refine ⟨adr w.heap.size,rfl,_,(hB8.at (j:=2) rfl).cell,adr c.qb,rfl,A2,L2,C2,(hBq8.at (j:=1) rfl).cell,?_⟩;refine ⟨fun i w1=>0<=i/\i<=L2/\Ext (fun b=>b=fm) w8 w1/\FMap c w1 fm (c.frags.take i.toNat),fun i _=>((L2:Int)-i).toNat,⟨by omega,by omega,Ext.refl w8,[],hm8,fun k=>by simp [a_h,mget,OptR]⟩,?_⟩;rintro i w16 ⟨h0,hi,x16,f16⟩;have hB16:=hB8.ext x16 (by show ¬ w.heap.size=fm;omega);refine ⟨fun hlt=>?_,fun hge=>?_⟩
 ·have hlt:=odt hlt;intro K17 hK17;have key17:∀ w',Ext (fun b=>b=fm) w8 w'->FMap c w' fm (c.frags.take (i+1).toNat)->K17 w':=by
   intro w' x' f';refine hK17 w' ?_;rw [a_a h0 (by omega)];exact next h0 hlt ⟨x',f'⟩
  obtain ⟨p,x,v,hpp,hx,hc,xb,rfl,hpx⟩:=hfrags.wget (hwkc x16) (fun _=>rfl) h0 hlt;have hpx':=hpx;obtain ⟨Af2,Lf2,Cf2,Af3,Lf3,Cf3,posf,hMf,hBf,hfd,hfk⟩:=hpx';refine ⟨p,hpp,⟨h0,hlt⟩,_,hc,fun w21 e21=>?_⟩;have x21:Ext (fun b=>b=fm) w8 w21:=by rw [e21];exact x16.drew
  have d21:EF w16 w21:=by rw [e21];exact (Ext.refl w16).drew
  have f21:FMap c w21 fm (c.frags.take i.toNat):=by
   obtain ⟨m,hm,hk⟩:=f16;exact ⟨m,hm.ext d21 id,hk⟩
  obtain ⟨q26,z27,r26,ht26,hf26⟩:=f21.put h0 hx hpx;have hB21:=hB16.ext d21 id;refine ⟨adr w.heap.size,rfl,_,(hB21.at (j:=5) rfl).cell,adr xb,rfl,_,(hwkc x21).nd hMf hBf (j:=1) rfl rfl,q26,z27,r26,trivial,trivial,fun hz=>?_,fun hz=>key17 w21 x21 (ht26 (by simpa using hz))⟩;intro w28 e28;have x28:Ext (fun b=>b=fm) w8 w28:=by rw [e28];exact x21.drew
  have d28:EF w21 w28:=by rw [e28];exact (Ext.refl w21).drew
  have f28:FMap c w28 fm (c.frags.take i.toNat):=by
   obtain ⟨m,hm,hk⟩:=f21;exact ⟨m,hm.ext d28 id,hk⟩
  obtain ⟨q,z,r,-, hf28⟩:=f28.put h0 hx hpx;have hz':z=false:=by
   have e:w28.drew=w28.drew:=rfl;cases z with
   | false=>rfl
   | true=>
    exfalso;obtain ⟨m,hm,-⟩:=f21;have r1:=a_W (t:=210) (kt:=9) (e:=229) (u:=x.name) (i:=Tryz.t229) (by kernel_rfl) (by kernel_rfl) (by kernel_rfl) rfl hm true;have r2:=a_W (t:=210) (kt:=9) (e:=229) (u:=x.name) (i:=Tryz.t229) (by kernel_rfl) (by kernel_rfl) (by kernel_rfl) rfl (hm.ext d28 id) true;rw [r1] at r26;rw [r2] at r;simp at r26 r;rw [r.2] at r26;rw [<- r26.2] at hz;cases hz
  obtain ⟨w33,r33,f33,x33⟩:=hf28 hz';have hB28:=hB21.ext d28 id;exact ⟨adr w.heap.size,rfl,_,(hB28.at (j:=5) rfl).cell,adr xb,rfl,_,(hwkc x28).nd hMf hBf (j:=1) rfl rfl,w33,r33,trivial,trivial,key17 w33 (x28.trans x33 fun _ _ e=>e) f33⟩
 ·have hle:=odf hge;rw [tl_ (by omega)] at f16;obtain ⟨m,hm,hk⟩:=f16;have g:=h.good w.heap.size fm m (Nat.le_refl _) (by omega) (by omega);have hxx:Ext (fun b=>b=fm) w w16:=(hx8.toM (fun b=>b=fm)).trans x16 fun _ _ e=>e;have hb:Wb (at3 c w.heap.size fm m) (evsOf ob) [] w16:=⟨(hwkc x16).at3 _ _ _,by show c.w0.heap.size<=_;rw [hw0];exact hxx.size,⟨_,hB16⟩,h.events.ext hxx (by have:=h.events.lt;show ¬ c.eb=fm;omega),⟨hm,hk⟩,g.st [] w w16 h.st (hxx.mono fun b _ e hV=>by
   have:b=fm:=e;have:=h.v b hV;omega)⟩
  have hv:∀ j,Vis (at3 c w.heap.size fm m) ob w16 j:=fun j=>(h.vis w.heap.size fm m (Nat.le_refl _) (by omega) (by omega) j).ne hxx fun T p gg cap ha _ _ e=>by
   have:p.block=fm:=e;obtain ⟨cs,fr,ho,-⟩:=ha;have:=a_3 ho;omega
  have hq16:=(hwkc x16).nd hMq (by rw [hw0];exact hBq) (j:=0) rfl rfl;refine ⟨adr w.heap.size,rfl,_,(hB16.at (j:=2) rfl).cell,adr c.qb,rfl,A1,L1,C1,hq16,?_⟩;refine l_z g hb hv h.query hops h.vars ⟨fun e he=>by simp at he,⟨fun x hx=>by simp at hx,fun x hx=>by simp at hx⟩,Nat.zero_le _⟩ fun w41 l41 hb41 hv41 x41 t41=>?_;obtain ⟨mv,hwb41⟩:=hb41.walker;have hB':Blk c.w0 c.qb 266 [.slice A1 L1 C1,.slice A2 L2 C2,.pointer pos,.pointer none]:=by rw [hw0];exact hBq
  refine ⟨adr w.heap.size,rfl,_,(hwb41.at (j:=2) rfl).cell,adr c.qb,rfl,A2,L2,C2,hb41.wk.nd (c:=at3 c w.heap.size fm m) hMq hB' (j:=1) rfl rfl,?_⟩;refine j_j g hb41 hv41 hfrags t41 fun w' l' hb' hv' x' t'=>⟨rfl,l',hb'.ev,⟨t'.only,t'.all,t'.few⟩,?_⟩;have hX:∀ b,b<w.heap.size->WZ (at3 c w.heap.size fm m) b->c.M b∨c.V b:=fun b hb e=>by
   rcases e with e|e|e
   ·exact .inl e
   ·exact .inr e
   ·have:b=w.heap.size:=e;omega
  have y1:Ext (fun b=>c.M b∨c.V b) w w16:=hxx.mono fun b hb e=>by
   have:b=fm:=e;omega
  refine ⟨(y1.trans x41 hX).trans x' hX,?_⟩;have hwk':=hb'.wk;have e:(at3 c w.heap.size fm m).w0=w:=hw0;rw [e] at hwk';exact ⟨hwk'.cells,hwk'.maps⟩
theorem j_6 (h:Ready c ob w):
  CP 109 #[.pointer (some (adr c.sb)),.pointer (some (adr c.qb)),.pointer (some (adr c.eb))] w fun e w'=>n_2 c ob w e w':=by
 have hB4:=Blk.made w 212 [.pointer none,.pointer none,.pointer none,.map none,.pointer none,.map none];have x4:EF w (w.alloc (.cells #[.pointer none,.pointer none,.pointer none,.map none,.pointer none,.map none] 212)):=(Ext.refl w).alloc _;refine k_t (some (adr c.sb)) (some (adr c.qb)) (some (adr c.eb)) w _ ⟨trivial,trivial,hB4.off (j:=0) (n:=6) (q:=fun _=>false) (by simp) rfl,trivial,?_⟩;have hB5:=(((((hB4.set 0 (.pointer (some (adr c.eb)))).set 1 (.pointer (some (adr c.sb)))).set 2 (.pointer (some (adr c.qb)))).set 3 (.map none)).set 4 (.pointer none)).set 5 (.map none);have st:∀ {w1:World},EF w w1->∀ (j:Nat) (v:Value),EF w (w1.setCell ⟨w.heap.size,j,none⟩ v):=fun {w1} x j v=>Ext.setCell x (a:=⟨w.heap.size,j,none⟩) (.inr (Nat.le_refl _)) v;have x5:=st (st (st (st (st (st x4 0 (.pointer (some (adr c.eb)))) 1 (.pointer (some (adr c.sb)))) 2 (.pointer (some (adr c.qb)))) 3 (.map none)) 4 (.pointer none)) 5 (.map none);refine (e_q h x5 hB5).mono ?_;rintro _ w7 ⟨rfl,h7⟩;exact ⟨rfl,trivial,rfl,h7⟩
end Go.VC
