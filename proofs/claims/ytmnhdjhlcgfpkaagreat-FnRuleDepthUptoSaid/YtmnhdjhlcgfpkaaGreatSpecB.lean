/- Part of the proof of a law of a rule over documents (SpecB), where what the arguments hold is of bulk at most 1048576. -/
import Derived.Test.YtmnhdjhlcgfpkaaGreatSpecA
set_option linter.unusedVariables false
set_option linter.unusedSectionVars false
set_option linter.deprecated false
namespace Go.VC
open Go Go.Proofs
variable [DB]
variable {α:Type}{p:Addr}{types:List Def}{xs:List α}{c c' l l':Nat}{a a':OA}{w:World}
theorem j_5 {xs:List BA}(hl:RStrs w a l c xs):CP 111 #[.slice a l c] w (RetB w fun b=>b=true->xs.Nodup):=by
 obtain ⟨e1,e3⟩:=hl.len;have e2:l<=c:=hl.2.1;refine o_x a l c w _ ⟨fun i w1=>0<=i/\i<=l/\EF w w1/\(xs.take i.toNat).Nodup,fun i _=>((l:Int)-i).toNat,⟨by omega,by omega,Ext.refl w,by simp⟩,?_⟩;rintro i w1 ⟨h0,h1,hx,hnd⟩;refine ⟨fun hlt=>?_,fun hge=>⟨true,rfl,hx,fun _=>?_⟩⟩
 ·have hlt:=odt hlt;obtain ⟨p,x,hp,hxs,cs,hc,rfl⟩:=hl.get h0 hlt;refine ⟨p,hp,⟨h0,hlt⟩,x,hx.cell hc.1.choose_spec.2 id,⟨by omega,by omega,by omega⟩,?_⟩;refine (RetB.base (c_in x (RStrs.keep hx.keep (hl.take h0 hlt))) hx).mono ?_;rintro _ w3 ⟨b3,rfl,hk,hx3,hb3⟩;refine ⟨b3,rfl,trivial,fun _=>⟨false,rfl,hx3,nofun⟩,fun hb=>?_⟩;rw [a_a h0 (by omega)];refine next h0 hlt ⟨hx3,?_⟩
  rw [show (i+1).toNat=i.toNat+1 by omega,List.take_succ,hxs];exact List.nodup_append.2 ⟨hnd,by simp,fun y hy' z hz e=>by
   obtain rfl:z=x:=by simpa using hz
   rw [hb3.2 (e▸hy')] at hb;cases hb⟩
 ·have:=odf hge
  rwa [tl_ (by omega)] at hnd
def noDef:Def:=⟨E0,E0,E0,[],[],[],[],[]⟩
def a_A (n:BA):Def:=⟨d_m,E0,n,[],[],[],[],[]⟩
def findD (types:List Def)(name:BA):Def × Bool:=
 match types.find? (fun d=>d.name.toList==name.toList) with
 | some d=>(d,true)
 | none=>if scal.any (fun s=>s.toList==name.toList) then (a_A name,true) else (noDef,false)
theorem d_x {name:BA}:scal.any (fun s=>s.toList==name.toList)=true↔name∈scal:=by
 rw [List.any_eq_true];constructor
 ·rintro ⟨x,hx,h⟩;rw [<- a_b.1 h];exact hx
 ·intro h;exact ⟨name,h,by simp⟩
theorem SlL.nil (w:World)(T n:Nat)(R:α->List Value->Prop):SlL w T n R none 0 0 []:=⟨rfl,Nat.le_refl _,by omega,fun i x h=>by simp at h⟩
theorem g_h {q:α->Bool}{i:Int}{x:α}(h0:0<=i)(h:(xs.take i.toNat).find? q=none)(hx:xs[i.toNat]? =some x)(hq:q x=false):(xs.take (i+1).toNat).find? q=none:=by
 rw [show (i+1).toNat=i.toNat+1 by omega,List.take_succ,hx,List.find?_append,h];simp [hq]
theorem i_q {q:α->Bool}{i:Nat}{x:α}(h:(xs.take i).find? q=none)(hx:xs[i]? =some x)(hq:q x=true):xs.find? q=some x:=by
 have hi:i<xs.length:=(List.getElem?_eq_some_iff.1 hx).1;have e:xs=xs.take i++xs.drop i:=(List.take_append_drop i xs).symm;rw [e,List.find?_append,h];have:xs.drop i=x::xs.drop (i+1):=by
  rw [List.drop_eq_getElem_cons hi];congr 1;exact (List.getElem?_eq_some_iff.1 hx).2
 rw [this];simp [hq]
theorem e_o {w0:World}{name:BA}(hn:name.size<=4194304)(hp:At w 92 p (.slice a l c))(hE:EF w0 w)(hl:RDefs w0 a l c types):
  CP 66 #[.pointer (some p),.string name] w fun e w'=>∃ cs,e=.returned (.tuple #[.agg cs.toArray,.bool (findD types name).2])/\RDef w0 (findD types name).1 cs/\(∀ v∈cs,a_v v)/\EF w w':=by
 obtain ⟨e1,e3⟩:=hl.len;have hx0:=(Ext.refl (X:=fun _=>False) w).alloc (.cells #[.string ⟨#[]⟩,.string ⟨#[]⟩,.string ⟨#[]⟩,.slice none 0 0,.slice none 0 0,.slice none 0 0,.slice none 0 0,.slice none 0 0] 96);refine j_D (some p) name w _ ⟨trivial,p,rfl,a,l,c,hx0.cell hp id,?_⟩;refine ⟨fun i _ _ _ _ _ _ _ _ _ _ _ _ _ _ _ _ _ _ w1=>0<=i/\i<=l/\EF w w1/\(types.take i.toNat).find? (fun d=>d.name.toList==name.toList)=none,fun i _ _ _ _ _ _ _ _ _ _ _ _ _ _ _ _ _ _ _=>((l:Int)-i).toNat,⟨by omega,by omega,hx0,by simp⟩,?_⟩;rintro i s9 s10 s11 t1 u1 v1 t2 u2 v2 t3 u3 v3 t4 u4 v4 t5 u5 v5 w1 ⟨h0,h1,hx,hn0⟩;refine ⟨fun hlt=>?_,fun hge=>?_⟩
 ·have hlt:=odt hlt;obtain ⟨pe,x,hpe,hxs,cs,hc,hr⟩:=hl.get h0 hlt;have hr':=hr;have hy:=hE.then hx;obtain ⟨b1,m1,d1,b2,m2,d2,b3,m3,d3,b4,m4,d4,b5,m5,d5,rfl,hv1,hv2,hv3,hv4,hv5⟩:=hr;have hsm:∀ v∈[Value.string x.kind,.string x.doc,.string x.name,.slice b1 m1 d1,.slice b2 m2 d2,.slice b3 m3 d3,.slice b4 m4 d4,.slice b5 m5 d5],a_v v:=by
   intro v hv;obtain ⟨q,hq,rfl⟩:=List.getElem_of_mem hv;exact (hc.get q _ (List.getElem?_eq_getElem hq)).2
  obtain ⟨⟨_,_,hc0⟩,hs0,⟨_,_,hc1⟩,hs1,⟨_,_,hc2⟩,hs2,⟨_,_,hc3⟩,hs3,⟨_,_,hc4⟩,hs4,⟨_,_,hc5⟩,hs5,⟨_,_,hc6⟩,hs6,⟨_,_,hc7⟩,-⟩:=hc;refine ⟨pe,hpe,⟨h0,hlt⟩,_,hy.cell hc0 id,_,hy.cell hc1 id,_,hy.cell hc2 id,_,_,_,hy.cell hc3 id,_,_,_,hy.cell hc4 id,_,_,_,hy.cell hc5 id,_,_,_,hy.cell hc6 id,_,_,_,hy.cell hc7 id,trivial,trivial,fun he=>⟨trivial,?_⟩,fun he=>?_⟩
  ·have hf:findD types name=(x,true):=by
    unfold findD;rw [i_q hn0 hxs he]
   have hx':=(hx.alloc (.cells #[.string x.kind,.string x.doc,.string x.name,.slice b1 m1 d1,.slice b2 m2 d2,.slice b3 m3 d3,.slice b4 m4 d4,.slice b5 m5 d5] 96)).setB (b:=w.heap.size) (.inr (Nat.le_refl _))
    [.string x.kind,.string x.doc,.string x.name,.slice b1 m1 d1,.slice b2 m2 d2,.slice b3 m3 d3,.slice b4 m4 d4,.slice b5 m5 d5] 96
   rw [hf];exact ⟨_,rfl,hr',hsm,hx'⟩
  ·rw [a_a h0 (by omega)];exact next h0 hlt ⟨hx.alloc _,g_h h0 hn0 hxs he⟩
 ·have hnone:types.find? (fun d=>d.name.toList==name.toList)=none:=by
   have:=odf hge
   rwa [tl_ (by omega)] at hn0
  refine (f_6 w1).mono ?_;rintro _ w2 ⟨a2,l2,c2,rfl,g1,g2⟩;refine ⟨a2,l2,c2,rfl,by simp [g2.keepT],(c_in name g1).mono ?_⟩;rintro _ w3 ⟨b,rfl,g3,hb⟩;have hw3:=(hx.then g2).then g3;refine ⟨b,rfl,by simp [g3.keepT],fun hbt=>⟨trivial,trivial,?_⟩,fun hbf=>⟨trivial,trivial,?_⟩⟩
  ·have hf:findD types name=(a_A name,true):=by
    unfold findD;rw [hnone];simp only [];rw [if_pos (d_x.2 (hb.1 hbt))]
   rw [hf];refine ⟨_,rfl,⟨none,0,0,none,0,0,none,0,0,none,0,0,none,0,0,rfl,SlL.nil ..,SlL.nil ..,SlL.nil ..,SlL.nil ..,SlL.nil ..⟩,?_,hw3.setB (.inr (Nat.le_refl _)) _ _⟩;intro v hv;simp only [mc_,nn_,or_false] at hv;rcases hv with rfl|rfl|rfl|rfl|rfl|rfl|rfl|rfl<;>first|exact hn|rfl|exact Nat.le_of_ble_eq_true rfl
  ·have hf:findD types name=(noDef,false):=by
    unfold findD;rw [hnone];simp only [];rw [if_neg (fun h=>by rw [hb.2 (d_x.1 h)] at hbf;cases hbf)]
   rw [hf];refine ⟨_,rfl,⟨none,0,0,none,0,0,none,0,0,none,0,0,none,0,0,rfl,SlL.nil ..,SlL.nil ..,SlL.nil ..,SlL.nil ..,SlL.nil ..⟩,?_,hw3.setB (.inr (Nat.le_refl _)) _ _⟩;intro v hv;simp only [mc_,nn_,or_false] at hv;rcases hv with rfl|rfl|rfl|rfl|rfl|rfl|rfl|rfl<;>first|rfl|exact Nat.le_of_ble_eq_true rfl
theorem a_t {name:BA}(hn:name.size<=4194304)(hp:At w 92 p (.slice a l c))(hl:RDefs w a l c types):
  CP 66 #[.pointer (some p),.string name] w fun e w'=>∃ cs,e=.returned (.tuple #[.agg cs.toArray,.bool (findD types name).2])/\RDef w' (findD types name).1 cs/\(∀ v∈cs,a_v v)/\EF w w':=by
 refine (e_o hn hp (Ext.refl w) hl).mono ?_;rintro _ w' ⟨cs,rfl,h1,h2,h3⟩;exact ⟨cs,rfl,h1.keep h3.keep,h2,h3⟩
theorem c_8 {x:Typ}{n:BA}{nn:Bool}(hn:n.size<=4194304)(ht:RTyp w x n a' l' c' nn)(hp:At w 92 p (.slice a l c))(hl:RDefs w a l c types):
    CP 64 #[.pointer (some p),.agg #[.string n,.slice a' l' c',.bool nn]] w fun e w'=>e=.returned (.string (findD types (a_n x)).1.kind)/\EF w w':=by
  have hx0:=(Ext.refl (X:=fun _=>False) w).alloc (.cells #[.string n,.slice a' l' c',.bool nn] 63);refine j_G (some p) n a' l' c' nn w _ ⟨trivial,?_⟩;refine (k_R hn (ht.keep hx0.keep)).mono ?_;rintro _ w1 ⟨rfl,hs,hx1⟩;have hw1:=hx0.then hx1;refine ⟨_,rfl,by simp [hx1.keepT],?_⟩;refine (a_t hs (hw1.at id hp) (hl.keep hw1.keep)).mono ?_;rintro _ w2 ⟨cs,rfl,⟨b1,m1,d1,b2,m2,d2,b3,m3,d3,b4,m4,d4,b5,m5,d5,rfl,-⟩,-, hx2⟩;have hw2:=hw1.then hx2;exact ⟨_,_,_,_,_,_,_,_,_,_,_,_,_,_,_,_,_,_,_,rfl,by simp [hx2.keepT],trivial,trivial,rfl,hw2.alloc _⟩
def g_l (k:BA):Prop:=k=d_m∨k=kEnum∨k=b_f
abbrev RS:BA->List Value->Prop:=fun s cs=>cs=[.string s]
def e_2 (types:List Def)(x:ArgDef):Prop:=g_l (findD types (a_n x.t)).1.kind/\x.dflt=[]/\x.dirs=[]
theorem d_P {xs:List ArgDef}(hp:At w 92 p (.slice a l c))(hT:RDefs w a l c types)(hl:a_R w a' l' c' xs):
    CP 110 #[.pointer (some p),.slice a' l' c'] w (RetB w fun b=>b=true->(xs.map (·.name)).Nodup/\∀ x∈xs,e_2 types x):=by
  obtain ⟨e1,e3⟩:=hl.len;refine h_d (some p) a' l' c' w _ ⟨fun A L C i w1=>0<=i/\i<=l'/\EF w w1/\(∀ x∈xs.take i.toNat,e_2 types x)/\L=i.toNat/\∃ cells,Own w.heap.size w1 9 1 A L C cells/\Flat 1 RS ((xs.take i.toNat).map (·.name)) cells,fun _ _ _ i _=>((l':Int)-i).toNat,
    ⟨by omega,by omega,Ext.refl w,by simp,rfl,[],Own.nil ..,.nil⟩,?_⟩
  rintro A L C i w1 ⟨h0,h1,hx,hn,hL,cells,hown,hf⟩;refine ⟨fun hlt=>?_,fun hge=>?_⟩
  · have hlt:=odt hlt
    obtain ⟨pe,x,hpe,hxs,cs,hc,n,b1,m1,d1,nn,b2,m2,d2,b3,m3,d3,rfl,hv1,hv2,hv3⟩:=hl.get h0 hlt;obtain ⟨⟨_,_,hc0⟩,hs0,⟨_,_,hc1⟩,hs1,⟨_,_,hc2⟩,hs2,⟨_,_,hc3⟩,hs3,⟨_,_,hc4⟩,hs4,⟨_,_,hc5⟩,hs5,⟨_,_,hc6⟩,-⟩:=hc;refine ⟨pe,hpe,⟨h0,hlt⟩,_,hx.cell hc0 id,_,hx.cell hc1 id,_,hx.cell hc2 id,_,_,_,hx.cell hc3 id,_,hx.cell hc4 id,_,_,_,hx.cell hc5 id,_,_,_,hx.cell hc6 id,trivial,trivial,trivial,?_⟩;have hx17:EF w1 (w1.alloc (.cells #[.string x.doc,.string x.name,.string n,.slice b1 m1 d1,.bool nn,.slice b2 m2 d2,.slice b3 m3 d3] 250)):=(Ext.refl w1).alloc _;obtain ⟨A2,C2,w20,r1,⟨cells2,o2,f2⟩,x2,k2⟩:=d_y 71 9 Tryz.t9 _ 1 _ (by kernel_rfl) (by kernel_rfl) rfl (by kernel_rfl) rfl (by kernel_rfl) (by omega) (by decide) (hown.keep hx17 fun _ _=>id) (lt_ hx.size hx17.size) hf (x:=x.name)
      (cs := [.string x.name]) rfl (fun v hv => by obtain rfl:v=.string x.name:=by simpa using hv
                                                   exact hs1) rfl (fun x cs h=>by rw [h];rfl) (by omega) 71 #[false,false]
    have hx20:EF w w20:=(hx.then hx17).trans x2 fun b hb hbl=>by
      have:=((hown.keep hx17 fun _ _=>id).base b hbl).1;omega
    refine ⟨A2,L+1,C2,w20,r1,⟨k2 250 (by decide),trivial⟩,fun K hK=>?_⟩;have key:∀ b w',EF w20 w'->(b=false->e_2 types x)->K b w':=fun b w' hx' hy=>hK b w' ⟨fun _=>⟨false,rfl,hx20.then hx',nofun⟩,fun hb=>by
      rw [a_a h0 (by omega)];refine next h0 hlt ⟨hx20.then hx',a_g h0 hn hxs (hy hb),by omega,cells2,o2.keep hx' fun _ _=>id,?_⟩
      rw [show (i+1).toNat=i.toNat+1 by omega,List.take_succ,hxs];simpa using f2⟩
    refine (c_8 hs2 (hv1.keep hx20.keep) (hx20.at id hp) (hT.keep hx20.keep)).mono ?_;rintro _ w3 ⟨rfl,hx3⟩;refine ⟨_,rfl,by simp [hx3.keepT],?_⟩;refine (RetB.base (f_U _ w3) hx3).mono ?_;rintro _ w4 ⟨b,rfl,hk,hx4,hb⟩;refine ⟨b,rfl,by simp [hk],fun hb'=>⟨fun hz=>key _ _ hx4 fun _=>?_,fun _=>key _ _ hx4 tf⟩,fun _=>key _ _ hx4 tf⟩;obtain ⟨j2,k2'⟩:=hv2.len;obtain ⟨j3,k3'⟩:=hv3.len;rw [b_p (by omega) (by omega)] at hz;have hz:m2+m3=0:=by simp at hz;omega
    exact ⟨hb.1 (by simpa using hb'),List.length_eq_zero_iff.1 (by omega),List.length_eq_zero_iff.1 (by omega)⟩
  · have hall:=a_o e1 hge hn
    have hle:=odf hge;rw [tl_ (by omega)] at hf;refine (RetB.base (d_A (hown.sl hf (by omega) (by omega))) hx).mono ?_;rintro _ w2 ⟨b,rfl,hk,hx2,hb⟩;exact ⟨b,rfl,trivial,b,rfl,hx2,fun h=>⟨(hb h).1,hall⟩⟩
theorem e_r {xs ys:List Typ}(IH:∀ x∈xs,∀ y∈ys,∀ (n:BA) (a:OA) (l c:Nat) (b:Bool) (n':BA) (a':OA) (l' c':Nat) (b':Bool) (w:World),RTyp w x n a l c b->RTyp w y n' a' l' c' b'->
   CP 225 #[.agg #[.string n,.slice a l c,.bool b],.agg #[.string n',.slice a' l' c',.bool b']] w (RetB w fun _=>True))
       (hl:SlL w 63 3 (RTypE w) a l c xs) (hl':SlL w 63 3 (RTypE w) a' l' c' ys):
  CP 230 #[.slice a l c,.slice a' l' c',.func (.func 225) #[] #[]] w (RetB w fun _=>True):=by
 obtain ⟨e1,e3⟩:=hl.len;refine g_C a l c a' l' c' _ w _ ⟨fun _=>⟨false,rfl,Ext.refl w,trivial⟩,fun hne=>?_⟩;have hll:l=l':=by
  have:(l:Int)=l':=by simpa using hne
  omega
 subst hll;refine ⟨fun i w1=>0<=i/\i<=l/\EF w w1,fun i _=>((l:Int)-i).toNat,⟨by omega,by omega,Ext.refl w⟩,?_⟩;rintro i w1 ⟨h0,h1,hx⟩;refine ⟨fun hlt=>?_,fun hge=>⟨true,rfl,hx,trivial⟩⟩;have hlt:=odt hlt;rintro w2 rfl;have hx:=hx.drew;obtain ⟨p,x,hp,hxs,cs,hc,n,a1,l1,c1,b,rfl,hv⟩:=hl.get h0 hlt;obtain ⟨p',x',hp',hxs',cs',hc',n',a1',l1',c1',b',rfl,hv'⟩:=hl'.get h0 hlt;obtain ⟨⟨_,_,hc0⟩,hs0,⟨_,_,hc1⟩,hs1,⟨_,_,hc2⟩,-⟩:=hc;obtain ⟨⟨_,_,hd0⟩,ht0,⟨_,_,hd1⟩,ht1,⟨_,_,hd2⟩,-⟩:=hc';refine ⟨p,hp,⟨h0,hlt⟩,_,hx.cell hc0 id,_,_,_,hx.cell hc1 id,_,hx.cell hc2 id,p',hp',⟨h0,hlt⟩,_,hx.cell hd0 id,_,_,_,hx.cell hd1 id,_,hx.cell hd2 id,225,[],rfl,Tryz.f225,Tryz.func225,by kernel_rfl,?_⟩;refine (IH x (mg_ hxs) x' (mg_ hxs') _ _ _ _ _ _ _ _ _ _ _ (hv.keep hx.keep) (hv'.keep hx.keep)).mono ?_;rintro _ w3 ⟨b3,rfl,hx3,-⟩;refine ⟨b3,rfl,trivial,trivial,fun _=>⟨false,rfl,hx.then hx3,trivial⟩,fun _=>?_⟩;rw [a_a h0 (by omega)];exact next h0 hlt (hx.then hx3)
theorem g_Y (n:BA)(el:List Typ)(nn:Bool)
  (IH:∀ x∈el,∀ (y:Typ) (n:BA) (a:OA) (l c:Nat) (b:Bool) (n':BA) (a':OA) (l' c':Nat) (b':Bool) (w:World),RTyp w x n a l c b->RTyp w y n' a' l' c' b'->
   CP 225 #[.agg #[.string n,.slice a l c,.bool b],.agg #[.string n',.slice a' l' c',.bool b']] w (RetB w fun _=>True))
  (a:OA) (l c:Nat) (y:Typ) (n':BA) (a':OA) (l' c':Nat) (b':Bool) (w:World) (hl:SlL w 63 3 (RTypE w) a l c el) (hy:RTyp w y n' a' l' c' b'):
  CP 225 #[.agg #[.string n,.slice a l c,.bool nn],.agg #[.string n',.slice a' l' c',.bool b']] w (RetB w fun _=>True):=by
 obtain ⟨n1,el',nn1⟩:=y;obtain ⟨rfl,rfl,hl'⟩:=b_M.1 hy;have hx:=((Ext.refl (X:=fun _=>False) w).alloc (.cells #[.string n,.slice a l c,.bool nn] 63)).alloc (.cells #[.string n',.slice a' l' c',.bool b'] 63);refine m_K n a l c nn n' a' l' c' b' w _ ⟨trivial,trivial,fun K hK=>?_⟩;have key:∀ b w',EF w w'->K b w':=by
  intro b w' hx';refine hK b w' ⟨fun _=>⟨false,rfl,hx',trivial⟩,fun _=>?_⟩;refine (RetB.base (e_r (fun x hx y _=>IH x hx y) (SlL.keep hx'.keep (by decide) hl fun _ _ _ ⟨n,a,l,c,b,h1,h2⟩=>⟨n,a,l,c,b,h1,h2.keep hx'.keep⟩)
   (SlL.keep hx'.keep (by decide) hl' fun _ _ _ ⟨n,a,l,c,b,h1,h2⟩=>⟨n,a,l,c,b,h1,h2.keep hx'.keep⟩)) hx').mono ?_
  rintro _ w3 ⟨b3,rfl,hk,hx3,-⟩;exact ⟨b3,rfl,by simp [hk],b3,rfl,hx3,trivial⟩
 exact ⟨fun _=>⟨fun _=>key _ _ hx,fun _=>key _ _ hx⟩,fun _=>key _ _ hx⟩
mutual
theorem f_V:∀ (x y:Typ) (n:BA) (a:OA) (l c:Nat) (b:Bool) (n':BA) (a':OA) (l' c':Nat) (b':Bool) (w:World),RTyp w x n a l c b->RTyp w y n' a' l' c' b'->
  CP 225 #[.agg #[.string n,.slice a l c,.bool b],.agg #[.string n',.slice a' l' c',.bool b']] w (RetB w fun _=>True)
 | .mk n0 el nn,y,n,a,l,c,b,n',a',l',c',b',w,h,h'=>by
  obtain ⟨rfl,rfl,hl⟩:=b_M.1 h;exact g_Y n el b (fun x hx=>c367s el x hx) a l c y n' a' l' c' b' w hl h'
theorem c367s:∀ (el:List Typ) (x:Typ),x∈el->∀ (y:Typ) (n:BA) (a:OA) (l c:Nat) (b:Bool) (n':BA) (a':OA) (l' c':Nat) (b':Bool) (w:World),RTyp w x n a l c b->RTyp w y n' a' l' c' b'->
  CP 225 #[.agg #[.string n,.slice a l c,.bool b],.agg #[.string n',.slice a' l' c',.bool b']] w (RetB w fun _=>True)
 | v::l,x,hx=>by
  rcases mc_.1 hx with e|hx
  ·rw [e];exact f_V v
  ·exact c367s l x hx
end
theorem RValE.keep {w':World}(h:Keep w w'){x:Val}{cs:List Value}:RValE w x cs->RValE w' x cs
 | ⟨k,r,a,l,c,h1,h2⟩=>⟨k,r,a,l,c,h1,h2.keep h⟩
theorem d_1 {xs ys:List Argm}(IH:∀ x∈xs,∀ y∈ys,∀ (cs cs':List Value) (w:World),RArgm w x cs->RArgm w y cs'->CP 232 #[.agg cs.toArray,.agg cs'.toArray] w (RetB w fun _=>True))
       (hl:SlL w 253 4 (RArgm w) a l c xs) (hl':SlL w 253 4 (RArgm w) a' l' c' ys):
  CP 231 #[.slice a l c,.slice a' l' c',.func (.func 232) #[] #[]] w (RetB w fun _=>True):=by
 obtain ⟨e1,e3⟩:=hl.len;refine f_x a l c a' l' c' _ w _ ⟨fun _=>⟨false,rfl,Ext.refl w,trivial⟩,fun hne=>?_⟩;have hll:l=l':=by
  have:(l:Int)=l':=by simpa using hne
  omega
 subst hll;refine ⟨fun i w1=>0<=i/\i<=l/\EF w w1,fun i _=>((l:Int)-i).toNat,⟨by omega,by omega,Ext.refl w⟩,?_⟩;rintro i w1 ⟨h0,h1,hx⟩;refine ⟨fun hlt=>?_,fun hge=>⟨true,rfl,hx,trivial⟩⟩;have hlt:=odt hlt;rintro w2 rfl;have hx:=hx.drew;obtain ⟨p,x,hp,hxs,cs,hc,hv⟩:=hl.get h0 hlt;obtain ⟨p',x',hp',hxs',cs',hc',hv'⟩:=hl'.get h0 hlt;have hu:=hv;have hu':=hv';obtain ⟨k,r,a1,l1,c1,rfl,-⟩:=hu;obtain ⟨kx,rx,a1x,l1x,c1x,rfl,-⟩:=hu';obtain ⟨⟨_,_,hc0⟩,hcs0,⟨_,_,hc1⟩,hcs1,⟨_,_,hc2⟩,hcs2,⟨_,_,hc3⟩,hcs3,-⟩:=hc;obtain ⟨⟨_,_,hd0⟩,hds0,⟨_,_,hd1⟩,hds1,⟨_,_,hd2⟩,hds2,⟨_,_,hd3⟩,hds3,-⟩:=hc';refine ⟨p,hp,⟨h0,hlt⟩,_,hx.cell hc0 id,_,hx.cell hc1 id,_,hx.cell hc2 id,_,_,_,hx.cell hc3 id,p',hp',⟨h0,hlt⟩,_,hx.cell hd0 id,_,hx.cell hd1 id,_,hx.cell hd2 id,_,_,_,hx.cell hd3 id,232,[],rfl,Tryz.f232,Tryz.func232,by kernel_rfl,?_⟩;refine (IH x (mg_ hxs) x' (mg_ hxs') _ _ _ (RArgm.keep hx.keep hv) (RArgm.keep hx.keep hv')).mono ?_;rintro _ w3 ⟨b3,rfl,hx3,-⟩;refine ⟨b3,rfl,trivial,trivial,fun _=>⟨false,rfl,hx.then hx3,trivial⟩,fun _=>?_⟩;rw [a_a h0 (by omega)];exact next h0 hlt (hx.then hx3)
theorem c_q {xs ys:List Dir}(IH:∀ x∈xs,∀ y∈ys,∀ (cs cs':List Value) (w:World),RDir w x cs->RDir w y cs'->CP 227 #[.agg cs.toArray,.agg cs'.toArray] w (RetB w fun _=>True))
       (hl:SlL w 87 2 (RDir w) a l c xs) (hl':SlL w 87 2 (RDir w) a' l' c' ys):
  CP 226 #[.slice a l c,.slice a' l' c',.func (.func 227) #[] #[]] w (RetB w fun _=>True):=by
 obtain ⟨e1,e3⟩:=hl.len;refine g_B a l c a' l' c' _ w _ ⟨fun _=>⟨false,rfl,Ext.refl w,trivial⟩,fun hne=>?_⟩;have hll:l=l':=by
  have:(l:Int)=l':=by simpa using hne
  omega
 subst hll;refine ⟨fun i w1=>0<=i/\i<=l/\EF w w1,fun i _=>((l:Int)-i).toNat,⟨by omega,by omega,Ext.refl w⟩,?_⟩;rintro i w1 ⟨h0,h1,hx⟩;refine ⟨fun hlt=>?_,fun hge=>⟨true,rfl,hx,trivial⟩⟩;have hlt:=odt hlt;rintro w2 rfl;have hx:=hx.drew;obtain ⟨p,x,hp,hxs,cs,hc,hv⟩:=hl.get h0 hlt;obtain ⟨p',x',hp',hxs',cs',hc',hv'⟩:=hl'.get h0 hlt;have hu:=hv;have hu':=hv';obtain ⟨a1,l1,c1,rfl,-⟩:=hu;obtain ⟨a1x,l1x,c1x,rfl,-⟩:=hu';obtain ⟨⟨_,_,hc0⟩,hcs0,⟨_,_,hc1⟩,hcs1,-⟩:=hc;obtain ⟨⟨_,_,hd0⟩,hds0,⟨_,_,hd1⟩,hds1,-⟩:=hc';refine ⟨p,hp,⟨h0,hlt⟩,_,hx.cell hc0 id,_,_,_,hx.cell hc1 id,p',hp',⟨h0,hlt⟩,_,hx.cell hd0 id,_,_,_,hx.cell hd1 id,227,[],rfl,Tryz.f227,Tryz.func227,by kernel_rfl,?_⟩;refine (IH x (mg_ hxs) x' (mg_ hxs') _ _ _ (RDir.keep hx.keep hv) (RDir.keep hx.keep hv')).mono ?_;rintro _ w3 ⟨b3,rfl,hx3,-⟩;refine ⟨b3,rfl,trivial,trivial,fun _=>⟨false,rfl,hx.then hx3,trivial⟩,fun _=>?_⟩;rw [a_a h0 (by omega)];exact next h0 hlt (hx.then hx3)
theorem d_a {xs ys:List ArgDef}(IH:∀ x∈xs,∀ y∈ys,∀ (cs cs':List Value) (w:World),b_v w x cs->b_v w y cs'->CP 222 #[.agg cs.toArray,.agg cs'.toArray] w (RetB w fun _=>True))
       (hl:SlL w 250 7 (b_v w) a l c xs) (hl':SlL w 250 7 (b_v w) a' l' c' ys):
  CP 221 #[.slice a l c,.slice a' l' c',.func (.func 222) #[] #[]] w (RetB w fun _=>True):=by
 obtain ⟨e1,e3⟩:=hl.len;refine e_H a l c a' l' c' _ w _ ⟨fun _=>⟨false,rfl,Ext.refl w,trivial⟩,fun hne=>?_⟩;have hll:l=l':=by
  have:(l:Int)=l':=by simpa using hne
  omega
 subst hll;refine ⟨fun i w1=>0<=i/\i<=l/\EF w w1,fun i _=>((l:Int)-i).toNat,⟨by omega,by omega,Ext.refl w⟩,?_⟩;rintro i w1 ⟨h0,h1,hx⟩;refine ⟨fun hlt=>?_,fun hge=>⟨true,rfl,hx,trivial⟩⟩;have hlt:=odt hlt;rintro w2 rfl;have hx:=hx.drew;obtain ⟨p,x,hp,hxs,cs,hc,hv⟩:=hl.get h0 hlt;obtain ⟨p',x',hp',hxs',cs',hc',hv'⟩:=hl'.get h0 hlt;have hu:=hv;have hu':=hv';obtain ⟨n,a1,l1,c1,nn,a2,l2,c2,a3,l3,c3,rfl,-⟩:=hu;obtain ⟨nx,a1x,l1x,c1x,nnx,a2x,l2x,c2x,a3x,l3x,c3x,rfl,-⟩:=hu';obtain ⟨⟨_,_,hc0⟩,hcs0,⟨_,_,hc1⟩,hcs1,⟨_,_,hc2⟩,hcs2,⟨_,_,hc3⟩,hcs3,⟨_,_,hc4⟩,hcs4,⟨_,_,hc5⟩,hcs5,⟨_,_,hc6⟩,hcs6,-⟩:=hc;obtain ⟨⟨_,_,hd0⟩,hds0,⟨_,_,hd1⟩,hds1,⟨_,_,hd2⟩,hds2,⟨_,_,hd3⟩,hds3,⟨_,_,hd4⟩,hds4,⟨_,_,hd5⟩,hds5,⟨_,_,hd6⟩,hds6,-⟩:=hc';refine ⟨p,hp,⟨h0,hlt⟩,_,hx.cell hc0 id,_,hx.cell hc1 id,_,hx.cell hc2 id,_,_,_,hx.cell hc3 id,_,hx.cell hc4 id,_,_,_,hx.cell hc5 id,_,_,_,hx.cell hc6 id,p',hp',⟨h0,hlt⟩,_,hx.cell hd0 id,_,hx.cell hd1 id,_,hx.cell hd2 id,_,_,_,hx.cell hd3 id,_,hx.cell hd4 id,_,_,_,hx.cell hd5 id,_,_,_,hx.cell hd6 id,222,[],rfl,Tryz.f222,Tryz.func222,by kernel_rfl,?_⟩;refine (IH x (mg_ hxs) x' (mg_ hxs') _ _ _ (b_v.keep hx.keep hv) (b_v.keep hx.keep hv')).mono ?_;rintro _ w3 ⟨b3,rfl,hx3,-⟩;refine ⟨b3,rfl,trivial,trivial,fun _=>⟨false,rfl,hx.then hx3,trivial⟩,fun _=>?_⟩;rw [a_a h0 (by omega)];exact next h0 hlt (hx.then hx3)
theorem c_r {xs ys:List Val}(IH:∀ x∈xs,∀ y∈ys,∀ (cs cs':List Value) (w:World),RValE w x cs->RValE w y cs'->CP 224 #[.agg cs.toArray,.agg cs'.toArray] w (RetB w fun _=>True))
       (hl:SlL w 115 3 (RValE w) a l c xs) (hl':SlL w 115 3 (RValE w) a' l' c' ys):
  CP 223 #[.slice a l c,.slice a' l' c',.func (.func 224) #[] #[]] w (RetB w fun _=>True):=by
 obtain ⟨e1,e3⟩:=hl.len;refine g_D a l c a' l' c' _ w _ ⟨fun _=>⟨false,rfl,Ext.refl w,trivial⟩,fun hne=>?_⟩;have hll:l=l':=by
  have:(l:Int)=l':=by simpa using hne
  omega
 subst hll;refine ⟨fun i w1=>0<=i/\i<=l/\EF w w1,fun i _=>((l:Int)-i).toNat,⟨by omega,by omega,Ext.refl w⟩,?_⟩;rintro i w1 ⟨h0,h1,hx⟩;refine ⟨fun hlt=>?_,fun hge=>⟨true,rfl,hx,trivial⟩⟩;have hlt:=odt hlt;rintro w2 rfl;have hx:=hx.drew;obtain ⟨p,x,hp,hxs,cs,hc,hv⟩:=hl.get h0 hlt;obtain ⟨p',x',hp',hxs',cs',hc',hv'⟩:=hl'.get h0 hlt;have hu:=hv;have hu':=hv';obtain ⟨k,r,a1,l1,c1,rfl,-⟩:=hu;obtain ⟨kx,rx,a1x,l1x,c1x,rfl,-⟩:=hu';obtain ⟨⟨_,_,hc0⟩,hcs0,⟨_,_,hc1⟩,hcs1,⟨_,_,hc2⟩,hcs2,-⟩:=hc;obtain ⟨⟨_,_,hd0⟩,hds0,⟨_,_,hd1⟩,hds1,⟨_,_,hd2⟩,hds2,-⟩:=hc';refine ⟨p,hp,⟨h0,hlt⟩,_,hx.cell hc0 id,_,hx.cell hc1 id,_,_,_,hx.cell hc2 id,p',hp',⟨h0,hlt⟩,_,hx.cell hd0 id,_,hx.cell hd1 id,_,_,_,hx.cell hd2 id,224,[],rfl,Tryz.f224,Tryz.func224,by kernel_rfl,?_⟩;refine (IH x (mg_ hxs) x' (mg_ hxs') _ _ _ (RValE.keep hx.keep hv) (RValE.keep hx.keep hv')).mono ?_;rintro _ w3 ⟨b3,rfl,hx3,-⟩;refine ⟨b3,rfl,trivial,trivial,fun _=>⟨false,rfl,hx.then hx3,trivial⟩,fun _=>?_⟩;rw [a_a h0 (by omega)];exact next h0 hlt (hx.then hx3)
abbrev h_8 (x:Val):Prop:=∀ (y:Val) (cs cs':List Value) (w:World),RValE w x cs->RValE w y cs'->CP 224 #[.agg cs.toArray,.agg cs'.toArray] w (RetB w fun _=>True)
theorem g_Z (k0:Int)(r0:BA)(kids:List (BA × Val))(IH:∀ x∈kids,h_8 x.2):h_8 (.mk k0 r0 kids):=by
 rintro ⟨k0',r0',kids'⟩ cs cs' w ⟨k,r,a,l,c,rfl,hv⟩ ⟨k',r',a',l',c',rfl,hv'⟩;obtain ⟨rfl,rfl,hl⟩:=e_U.1 hv;obtain ⟨rfl,rfl,hl'⟩:=e_U.1 hv';obtain ⟨e1,e3⟩:=hl.len;have hx0:=((Ext.refl (X:=fun _=>False) w).alloc (.cells #[.int .i64 k,.string r,.slice a l c] 115)).alloc (.cells #[.int .i64 k',.string r',.slice a' l' c'] 115);refine m_L k r a l c k' r' a' l' c' w _ ⟨trivial,trivial,fun K9 hK9=>?_⟩;have key9:∀ b,(b=false->l=l')->K9 b (((w.alloc (.cells #[.int .i64 k,.string r,.slice a l c] 115)).alloc (.cells #[.int .i64 k',.string r',.slice a' l' c'] 115)))/\(b=true->True):=by
  intro b hll;refine ⟨hK9 b _ ⟨fun _=>⟨false,rfl,hx0,trivial⟩,fun hb K12 hK12=>?_⟩,fun _=>trivial⟩;obtain rfl:=hll hb;have key12:∀ b,K12 b (((w.alloc (.cells #[.int .i64 k,.string r,.slice a l c] 115)).alloc (.cells #[.int .i64 k',.string r',.slice a' l c'] 115))):=by
   intro b;refine hK12 b _ ⟨fun _=>⟨false,rfl,hx0,trivial⟩,fun _=>?_⟩;refine ⟨fun i w1=>0<=i/\i<=l/\EF w w1,fun i _=>((l:Int)-i).toNat,⟨by omega,by omega,hx0⟩,?_⟩;rintro i w1 ⟨h0,h1,hx⟩;refine ⟨fun hlt K19 hK19=>?_,fun hge=>⟨true,rfl,hx,trivial⟩⟩;have hlt:=odt hlt;have key19:∀ b w',EF w w'->K19 b w':=fun b w' hx'=>hK19 b w' ⟨fun _=>⟨false,rfl,hx',trivial⟩,fun _=>by
    rw [a_a h0 (by omega)];exact next h0 hlt hx'⟩
   rintro w2 rfl;have hx:=hx.drew;obtain ⟨p,x,hp,hxs,cs,hc,k1,r1,a1,l1,c1,rfl,hu⟩:=hl.get h0 hlt;obtain ⟨p',x',hp',hxs',cs',hc',k2,r2,a2,l2,c2,rfl,hu'⟩:=hl'.get h0 hlt;obtain ⟨⟨_,_,hc0⟩,hs0,⟨_,_,hc1⟩,hs1,⟨_,_,hc2⟩,hs2,⟨_,_,hc3⟩,-⟩:=hc;obtain ⟨⟨_,_,hd0⟩,ht0,⟨_,_,hd1⟩,ht1,⟨_,_,hd2⟩,ht2,⟨_,_,hd3⟩,-⟩:=hc';have call:CP 224 #[.agg #[.int .i64 k1,.string r1,.slice a1 l1 c1],.agg #[.int .i64 k2,.string r2,.slice a2 l2 c2]] w1.drew (fun e35 wv36=>∃ b37:Bool,e35=.returned (.bool b37)/\(KeepT 115 w1.drew wv36/\True)/\True/\K19 (!b37) wv36):=by
    refine (RetB.base (IH x (mg_ hxs) x'.2 [.int .i64 k1,.string r1,.slice a1 l1 c1] [.int .i64 k2,.string r2,.slice a2 l2 c2] w1.drew ⟨k1,r1,a1,l1,c1,rfl,hu.keep hx.keep⟩ ⟨k2,r2,a2,l2,c2,rfl,hu'.keep hx.keep⟩) hx).mono ?_;rintro _ w3 ⟨b,rfl,hk,hx3,-⟩;exact ⟨b,rfl,by simp [hk],trivial,key19 _ _ hx3⟩
   have g2:=hx.cell hc2 id;have g3:=hx.cell hc3 id;have f2:=hx.cell hd2 id;have f3:=hx.cell hd3 id;simp only [c_2] at g2 g3 f2 f3;have rest:∃ p27:Addr,a=some p27/\(0<=i/\i<(l:Int))/\∃ n28:Int,w1.drew.cell? ((p27.add (i.toNat*4)).add 1)=some (Value.int .i64 n28)/\∃ s29:BA,w1.drew.cell? (((p27.add (i.toNat*4)).add 1).add 1)=some (Value.string s29)/\∃ (a30:OA) (a30l a30c:Nat),w1.drew.cell? (((p27.add (i.toNat*4)).add 1).add 2)=some (Value.slice a30 a30l a30c)/\
     ∃ p31:Addr,a'=some p31/\(0<=i/\i<(l:Int))/\∃ n32:Int,w1.drew.cell? ((p31.add (i.toNat*4)).add 1)=some (Value.int .i64 n32)/\∃ s33:BA,w1.drew.cell? (((p31.add (i.toNat*4)).add 1).add 1)=some (Value.string s33)/\∃ (a34:OA) (a34l a34c:Nat),w1.drew.cell? (((p31.add (i.toNat*4)).add 1).add 2)=some (Value.slice a34 a34l a34c)/\
     CP 224 #[(Value.agg #[(Value.int .i64 n28),(Value.string s29),(Value.slice a30 a30l a30c)]),(Value.agg #[(Value.int .i64 n32),(Value.string s33),(Value.slice a34 a34l a34c)])] w1.drew (fun e35 wv36=>∃ b37:Bool,e35=.returned (.bool b37)/\(KeepT 115 w1.drew wv36/\True)/\True/\K19 (!b37) wv36):=
    ⟨p,hp,⟨h0,hlt⟩,_,hx.cell hc1 id,_,by rw [add_add' (p.add _) 1 1];exact g2,_,_,_,by rw [add_add' (p.add _) 1 2];exact g3,
     p',hp',⟨h0,hlt⟩,_,hx.cell hd1 id,_,by rw [add_add' (p'.add _) 1 1];exact f2,_,_,_,by rw [add_add' (p'.add _) 1 2];exact f3,call⟩
   exact ⟨fun _=>⟨p,hp,⟨h0,hlt⟩,_,hx.cell hc0 id,p',hp',⟨h0,hlt⟩,_,hx.cell hd0 id,fun _=>key19 _ _ hx,fun _=>rest⟩,fun _=>rest⟩
  exact ⟨fun _=>⟨fun _=>key12 _,fun _=>key12 _⟩,fun _=>key12 _⟩
 exact ⟨fun _=>(key9 _ fun h=>by
  have:(l:Int)=l':=by simpa using h
  omega).1,fun _=>(key9 _ tf).1⟩
mutual
theorem e_m:∀ (x:Val),h_8 x
 | .mk k r kids=>g_Z k r kids fun x hx=>c366s kids x hx
theorem c366s:∀ (kids:List (BA × Val)) (x:BA × Val),x∈kids->h_8 x.2
 | (n,v)::l,x,hx=>by
  rcases mc_.1 hx with e|hx
  ·rw [e];exact e_m v
  ·exact c366s l x hx
end
theorem l_7 (x y:Argm)(cs cs':List Value)(w:World)(h:RArgm w x cs)(h':RArgm w y cs'):CP 232 #[.agg cs.toArray,.agg cs'.toArray] w (RetB w fun _=>True):=by
 obtain ⟨k,r,a,l,c,rfl,hv⟩:=h;obtain ⟨k',r',a',l',c',rfl,hv'⟩:=h';have hx:=((Ext.refl (X:=fun _=>False) w).alloc (.cells #[.string x.name,.int .i64 k,.string r,.slice a l c] 253)).alloc (.cells #[.string y.name,.int .i64 k',.string r',.slice a' l' c'] 253);refine m_S _ k r a l c _ k' r' a' l' c' w _ ⟨trivial,trivial,fun K hK=>?_⟩;have key:∀ b w',EF w w'->K b w':=fun b w' hx'=>hK b w' ⟨b,rfl,hx',trivial⟩;refine ⟨fun _=>?_,fun _=>key _ _ hx⟩;refine (RetB.base (e_m x.v y.v [.int .i64 k,.string r,.slice a l c] [.int .i64 k',.string r',.slice a' l' c'] _ ⟨k,r,a,l,c,rfl,hv.keep hx.keep⟩ ⟨k',r',a',l',c',rfl,hv'.keep hx.keep⟩) hx).mono ?_;rintro _ w3 ⟨b,rfl,hk,hx3,-⟩;exact ⟨b,rfl,by simp [hk],key _ _ hx3⟩
theorem j_f (x y:Dir)(cs cs':List Value)(w:World)(h:RDir w x cs)(h':RDir w y cs'):CP 227 #[.agg cs.toArray,.agg cs'.toArray] w (RetB w fun _=>True):=by
 obtain ⟨a,l,c,rfl,hv⟩:=h;obtain ⟨a',l',c',rfl,hv'⟩:=h';have hx:=((Ext.refl (X:=fun _=>False) w).alloc (.cells #[.string x.name,.slice a l c] 87)).alloc (.cells #[.string y.name,.slice a' l' c'] 87);refine m_T _ a l c _ a' l' c' w _ ⟨trivial,trivial,fun K hK=>?_⟩;have key:∀ b w',EF w w'->K b w':=fun b w' hx'=>hK b w' ⟨b,rfl,hx',trivial⟩;refine ⟨fun _=>?_,fun _=>key _ _ hx⟩;refine (RetB.base (d_1 (fun x _ y _=>l_7 x y) (hv.keep hx.keep) (hv'.keep hx.keep)) hx).mono ?_;rintro _ w3 ⟨b,rfl,hk,hx3,-⟩;exact ⟨b,rfl,by simp [hk],key _ _ hx3⟩
theorem j_e (x y:ArgDef)(cs cs':List Value)(w:World)(h:b_v w x cs)(h':b_v w y cs'):CP 222 #[.agg cs.toArray,.agg cs'.toArray] w (RetB w fun _=>True):=by
 obtain ⟨n,a1,l1,c1,nn,a2,l2,c2,a3,l3,c3,rfl,hv1,hv2,hv3⟩:=h;obtain ⟨n',b1,m1,d1,nn',b2,m2,d2,b3,m3,d3,rfl,hu1,hu2,hu3⟩:=h';have hx:=((Ext.refl (X:=fun _=>False) w).alloc (.cells #[.string x.doc,.string x.name,.string n,.slice a1 l1 c1,.bool nn,.slice a2 l2 c2,.slice a3 l3 c3] 250)).alloc (.cells #[.string y.doc,.string y.name,.string n',.slice b1 m1 d1,.bool nn',.slice b2 m2 d2,.slice b3 m3 d3] 250);refine j_M _ _ n a1 l1 c1 nn a2 l2 c2 a3 l3 c3 _ _ n' b1 m1 d1 nn' b2 m2 d2 b3 m3 d3 w _ ⟨trivial,trivial,fun K hK=>?_⟩;have key:∀ b w',EF w w'->K b w':=fun b w' hx'=>hK b w' ⟨b,rfl,hx',trivial⟩;have call1:∀ {w1:World},EF w w1->_:=fun {w1} h=>f_V x.t y.t n a1 l1 c1 nn n' b1 m1 d1 nn' w1 (hv1.keep h.keep) (hu1.keep h.keep);have call2:∀ {w1:World},EF w w1->_:=fun {w1} h=>c_r (fun x _ y _=>e_m x y) (w:=w1) (hv2.keep h.keep) (hu2.keep h.keep);have call3:∀ {w1:World},EF w w1->_:=fun {w1} h=>c_q (fun x _ y _=>j_f x y) (w:=w1) (hv3.keep h.keep) (hu3.keep h.keep)
 repeat' first
  | exact trivial
  | exact ⟨rfl,trivial⟩
  | exact ff
  | exact tf
  | exact nf
  | exact nt
  | exact key _ _ (by assumption)
  | (refine (RetB.base (call1 (by assumption)) (by assumption)).mono ?_;rintro _ _ ⟨b,rfl,hk,hx,hb⟩;refine ⟨b,rfl,by simp [hk],?_⟩;clear hk;cases b<;>try replace hb:=hb rfl)
  | (refine (RetB.base (call2 (by assumption)) (by assumption)).mono ?_;rintro _ _ ⟨b,rfl,hk,hx,hb⟩;refine ⟨b,rfl,by simp [hk],?_⟩;clear hk;cases b<;>try replace hb:=hb rfl)
  | (refine (RetB.base (call3 (by assumption)) (by assumption)).mono ?_;rintro _ _ ⟨b,rfl,hk,hx,hb⟩;refine ⟨b,rfl,by simp [hk],?_⟩;clear hk;cases b<;>try replace hb:=hb rfl)
  | refine And.intro ?_ ?_
  | intro _
theorem l_8 (x y:Fld)(cs cs':List Value)(w:World)(h:RFld w x cs)(h':RFld w y cs'):CP 212 #[.agg cs.toArray,.agg cs'.toArray] w (RetB w fun _=>True):=by
 obtain ⟨a0,l0,c0,a2,l2,c2,n,a1,l1,c1,nn,a3,l3,c3,rfl,hv0,hv2,hv1,hv3⟩:=h;obtain ⟨b0,m0,d0,b2,m2,d2,n',b1,m1,d1,nn',b3,m3,d3,rfl,hu0,hu2,hu1,hu3⟩:=h';have hx:=((Ext.refl (X:=fun _=>False) w).alloc (.cells #[.string x.doc,.string x.name,.slice a0 l0 c0,.slice a2 l2 c2,.string n,.slice a1 l1 c1,.bool nn,.slice a3 l3 c3] 104)).alloc (.cells #[.string y.doc,.string y.name,.slice b0 m0 d0,.slice b2 m2 d2,.string n',.slice b1 m1 d1,.bool nn',.slice b3 m3 d3] 104);refine m_U _ _ a0 l0 c0 a2 l2 c2 n a1 l1 c1 nn a3 l3 c3 _ _ b0 m0 d0 b2 m2 d2 n' b1 m1 d1 nn' b3 m3 d3 w _ ⟨trivial,trivial,fun K hK=>?_⟩;have key:∀ b w',EF w w'->K b w':=fun b w' hx'=>hK b w' ⟨b,rfl,hx',trivial⟩;have call0:∀ {w1:World},EF w w1->_:=fun {w1} h=>d_a (fun x _ y _=>j_e x y) (w:=w1) (hv0.keep h.keep) (hu0.keep h.keep);have call1:∀ {w1:World},EF w w1->_:=fun {w1} h=>f_V x.t y.t n a1 l1 c1 nn n' b1 m1 d1 nn' w1 (hv1.keep h.keep) (hu1.keep h.keep);have call2:∀ {w1:World},EF w w1->_:=fun {w1} h=>c_r (fun x _ y _=>e_m x y) (w:=w1) (hv2.keep h.keep) (hu2.keep h.keep);have call3:∀ {w1:World},EF w w1->_:=fun {w1} h=>c_q (fun x _ y _=>j_f x y) (w:=w1) (hv3.keep h.keep) (hu3.keep h.keep)
 repeat' first
  | exact trivial
  | exact ⟨rfl,trivial⟩
  | exact ff
  | exact tf
  | exact nf
  | exact nt
  | exact key _ _ (by assumption)
  | (refine (RetB.base (call0 (by assumption)) (by assumption)).mono ?_;rintro _ _ ⟨b,rfl,hk,hx,hb⟩;refine ⟨b,rfl,by simp [hk],?_⟩;clear hk;cases b<;>try replace hb:=hb rfl)
  | (refine (RetB.base (call1 (by assumption)) (by assumption)).mono ?_;rintro _ _ ⟨b,rfl,hk,hx,hb⟩;refine ⟨b,rfl,by simp [hk],?_⟩;clear hk;cases b<;>try replace hb:=hb rfl)
  | (refine (RetB.base (call2 (by assumption)) (by assumption)).mono ?_;rintro _ _ ⟨b,rfl,hk,hx,hb⟩;refine ⟨b,rfl,by simp [hk],?_⟩;clear hk;cases b<;>try replace hb:=hb rfl)
  | (refine (RetB.base (call3 (by assumption)) (by assumption)).mono ?_;rintro _ _ ⟨b,rfl,hk,hx,hb⟩;refine ⟨b,rfl,by simp [hk],?_⟩;clear hk;cases b<;>try replace hb:=hb rfl)
  | refine And.intro ?_ ?_
  | intro _
theorem l_x (x:Def)(f:Fld)(cs cs':List Value)(w:World)(h:RDef w x cs)(h':RFld w f cs'):CP 201 #[.agg cs.toArray,.agg cs'.toArray] w (RetB w fun _=>True):=by
 have hf:=h';obtain ⟨a1,l1,c1,a2,l2,c2,a3,l3,c3,a4,l4,c4,a5,l5,c5,rfl,hv1,hv2,hl,hv4,hv5⟩:=h;obtain ⟨b0,m0,d0,b2,m2,d2,n',b1,m1,d1,nn',b3,m3,d3,rfl,hu0,hu2,hu1,hu3⟩:=h';obtain ⟨e1,e3⟩:=hl.len;have hx0:=((Ext.refl (X:=fun _=>False) w).alloc (.cells #[.string x.kind,.string x.doc,.string x.name,.slice a1 l1 c1,.slice a2 l2 c2,.slice a3 l3 c3,.slice a4 l4 c4,.slice a5 l5 c5] 96)).alloc
  (.cells #[.string f.doc,.string f.name,.slice b0 m0 d0,.slice b2 m2 d2,.string n',.slice b1 m1 d1,.bool nn',.slice b3 m3 d3] 104)
 refine l_P _ _ _ a1 l1 c1 a2 l2 c2 a3 l3 c3 a4 l4 c4 a5 l5 c5 _ _ b0 m0 d0 b2 m2 d2 n' b1 m1 d1 nn' b3 m3 d3 w _ ⟨trivial,trivial,?_⟩;refine ⟨fun i w1=>0<=i/\i<=l3/\EF w w1,fun i _=>((l3:Int)-i).toNat,⟨by omega,by omega,hx0⟩,?_⟩;rintro i w1 ⟨h0,h1,hx⟩;refine ⟨fun hlt=>?_,fun hge=>⟨false,rfl,hx,trivial⟩⟩;have hlt:=odt hlt;obtain ⟨p,y,hp,hxs,cs,hc,hy⟩:=hl.get h0 hlt;have hy':=hy;obtain ⟨g0,o0,j0,g2,o2,j2,n,g1,o1,j1,nn,g3,o3,j3,rfl,-⟩:=hy;obtain ⟨⟨_,_,hc0⟩,hs0,⟨_,_,hc1⟩,hs1,⟨_,_,hc2⟩,hs2,⟨_,_,hc3⟩,hs3,⟨_,_,hc4⟩,hs4,⟨_,_,hc5⟩,hs5,⟨_,_,hc6⟩,hs6,⟨_,_,hc7⟩,-⟩:=hc;refine ⟨p,hp,⟨h0,hlt⟩,_,hx.cell hc0 id,_,hx.cell hc1 id,_,_,_,hx.cell hc2 id,_,_,_,hx.cell hc3 id,_,hx.cell hc4 id,_,_,_,hx.cell hc5 id,_,hx.cell hc6 id,_,_,_,hx.cell hc7 id,trivial,trivial,fun _=>?_,fun _=>?_⟩
 ·have hx':=hx.alloc (.cells #[.string y.doc,.string y.name,.slice g0 o0 j0,.slice g2 o2 j2,.string n,.slice g1 o1 j1,.bool nn,.slice g3 o3 j3] 104);refine (RetB.base (l_8 f y _ _ _ (hf.keep hx'.keep) (hy'.keep hx'.keep)) hx').mono ?_;rintro _ w3 ⟨b,rfl,hk,hx3,-⟩;exact ⟨b,rfl,by simp [hk],b,rfl,hx3,trivial⟩
 ·rw [a_a h0 (by omega)];exact next h0 hlt (hx.alloc _)
def rootD (roots:List RootD)(op:BA):BA:=
 match roots.find? (fun r=>r.op.toList==op.toList) with
 | some r=>r.t
 | none=>E0
theorem a_m {op:BA}{roots:List RootD}(hp:At w 92 (p.add 1) (.slice a l c))(hl:b_w w a l c roots):
  CP 51 #[.pointer (some p),.string op] w fun e w'=>e=.returned (.string (rootD roots op))/\EF w w':=by
 obtain ⟨e1,e3⟩:=hl.len;refine j_E (some p) op w _ ⟨p,rfl,a,l,c,hp.cell,?_⟩;refine ⟨fun i w1=>0<=i/\i<=l/\EF w w1/\(roots.take i.toNat).find? (fun r=>r.op.toList==op.toList)=none,fun i _=>((l:Int)-i).toNat,⟨by omega,by omega,Ext.refl w,by simp⟩,?_⟩;rintro i w1 ⟨h0,h1,hx,hn⟩;refine ⟨fun hlt=>?_,fun hge=>?_⟩
 ·have hlt:=odt hlt;obtain ⟨pe,y,hpe,hxs,cs,hc,rfl⟩:=hl.get h0 hlt;obtain ⟨⟨_,_,hc0⟩,hs0,⟨_,_,hc1⟩,-⟩:=hc;refine ⟨pe,hpe,⟨h0,hlt⟩,_,hx.cell hc0 id,_,hx.cell hc1 id,trivial,trivial,fun he=>⟨?_,hx.alloc _⟩,fun he=>?_⟩
  ·unfold rootD;rw [i_q hn hxs he]
  ·rw [a_a h0 (by omega)];exact next h0 hlt ⟨hx.alloc _,g_h h0 hn hxs he⟩
 ·have hle:=odf hge;rw [tl_ (by omega)] at hn;refine ⟨?_,hx⟩;unfold rootD;rw [hn]
def s_4 (types:List Def)(x:Def):Prop:=∀ s∈x.ifaces,∀ m∈(findD types s).1.ifaces,m∈x.ifaces
theorem i_d (x:Def)(cs:List Value)(hp:At w 92 p (.slice a l c))(hT:RDefs w a l c types)(h:RDef w x cs):
  CP 168 #[.pointer (some p),.agg cs.toArray] w (RetB w fun b=>b=true->s_4 types x):=by
 have hd:=h;obtain ⟨a1,l1,c1,a2,l2,c2,a3,l3,c3,a4,l4,c4,a5,l5,c5,rfl,hv1,hv2,hv3,hv4,hv5⟩:=h;obtain ⟨e1,e3⟩:=hv2.len;have hx0:=(Ext.refl (X:=fun _=>False) w).alloc (.cells #[.string x.kind,.string x.doc,.string x.name,.slice a1 l1 c1,.slice a2 l2 c2,.slice a3 l3 c3,.slice a4 l4 c4,.slice a5 l5 c5] 96);refine i_F (some p) _ _ _ a1 l1 c1 a2 l2 c2 a3 l3 c3 a4 l4 c4 a5 l5 c5 w _ ⟨trivial,?_⟩;refine ⟨fun i w1=>0<=i/\i<=l2/\EF w w1/\∀ s∈x.ifaces.take i.toNat,∀ m∈(findD types s).1.ifaces,m∈x.ifaces,fun i _=>((l2:Int)-i).toNat,⟨by omega,by omega,hx0,by simp⟩,?_⟩;rintro i w1 ⟨h0,h1,hx,hn⟩;refine ⟨fun hlt=>?_,fun hge=>⟨true,rfl,hx,fun _=>a_o e1 hge hn⟩⟩;have hlt:=odt hlt;obtain ⟨pe,s,hpe,hxs,cs,hc,rfl⟩:=hv2.get h0 hlt;refine ⟨pe,hpe,⟨h0,hlt⟩,s,hx.cell hc.1.choose_spec.2 id,(a_t hc.2.1 (hx.at id hp) (hT.keep hx.keep)).mono ?_⟩;rintro _ w2 ⟨cs,rfl,⟨b1,m1,d1,b2,m2,d2,b3,m3,d3,b4,m4,d4,b5,m5,d5,rfl,hu1,hu2,hu3,hu4,hu5⟩,-, hx2⟩;have hw2:=hx.then hx2;refine ⟨_,_,_,_,_,_,_,_,_,_,_,_,_,_,_,_,_,_,_,rfl,by simp [hx2.keepT],trivial,trivial,?_⟩;have hz:=hx2.keep;have hw3:=(Ext.refl (X:=fun _=>False) w2).alloc (.cells #[.string (findD types s).1.kind,.string (findD types s).1.doc,.string (findD types s).1.name,.slice b1 m1 d1,.slice b2 m2 d2,.slice b3 m3 d3,.slice b4 m4 d4,.slice b5 m5 d5] 96);obtain ⟨f1,f3⟩:=hu2.len;refine ⟨fun k w3=>0<=k/\k<=m2/\EF w2 w3/\∀ m∈(findD types s).1.ifaces.take k.toNat,m∈x.ifaces,fun k _=>((m2:Int)-k).toNat,⟨by omega,by omega,hw3,by simp⟩,?_⟩;clear hw3;rintro k w3 ⟨k0,k1,kx,kn⟩;refine ⟨fun klt=>?_,fun kge=>?_⟩
 ·have klt:=odt klt;obtain ⟨pk,s2,hpk,hks,cs,hc2,rfl⟩:=hu2.get k0 klt;refine ⟨pk,hpk,⟨k0,klt⟩,s2,kx.cell hc2.1.choose_spec.2 id,(RetB.base (c_in s2 (hv2.keep (hw2.then kx).keep)) kx).mono ?_⟩;rintro _ w4 ⟨b,rfl,hk,hx4,hb4⟩;refine ⟨b,rfl,by simp [hk],fun _=>⟨false,rfl,hw2.then hx4,nofun⟩,fun h=>?_⟩;rw [a_a k0 (by omega)];exact next k0 klt ⟨hx4,a_g k0 kn hks (hb4.1 (by simpa using h))⟩
 have hall2:=a_o f1 kge kn;clear kn;obtain ⟨g1,g3⟩:=hu3.len;refine ⟨fun k w3=>0<=k/\k<=m3/\EF w2 w3,fun k _=>((m3:Int)-k).toNat,⟨by omega,by omega,kx⟩,?_⟩;clear kx k0 k1 kge;rintro k w3 ⟨k0,k1,kx⟩;refine ⟨fun klt=>?_,fun kge=>?_⟩
 ·have klt:=odt klt;obtain ⟨pk,y,hpk,hks,cs,hc,hy⟩:=hu3.get k0 klt;have hy':=hy;obtain ⟨g0,o0,j0,g2,o2,j2,n,g1,o1,j1,nn,g3,o3,j3,rfl,-⟩:=hy;obtain ⟨⟨_,_,hc0⟩,hs0,⟨_,_,hc1⟩,hs1,⟨_,_,hc2⟩,hs2,⟨_,_,hc3⟩,hs3,⟨_,_,hc4⟩,hs4,⟨_,_,hc5⟩,hs5,⟨_,_,hc6⟩,hs6,⟨_,_,hc7⟩,-⟩:=hc;refine ⟨pk,hpk,⟨k0,klt⟩,_,kx.cell hc0 id,_,kx.cell hc1 id,_,_,_,kx.cell hc2 id,_,_,_,kx.cell hc3 id,_,kx.cell hc4 id,_,_,_,kx.cell hc5 id,_,kx.cell hc6 id,_,_,_,kx.cell hc7 id,trivial,trivial,?_⟩;have kx':=kx.alloc (.cells #[.string y.doc,.string y.name,.slice g0 o0 j0,.slice g2 o2 j2,.string n,.slice g1 o1 j1,.bool nn,.slice g3 o3 j3] 104);refine (RetB.base (l_x x y _ _ _ (hd.keep (hw2.then kx').keep) (hy'.keep kx'.keep)) kx').mono ?_;rintro _ w4 ⟨b,rfl,hk,hx4,-⟩;refine ⟨b,rfl,by simp [hk],fun _=>⟨false,rfl,hw2.then hx4,nofun⟩,fun _=>?_⟩;rw [a_a k0 (by omega)];exact next k0 klt hx4
 ·rw [a_a h0 (by omega)];exact next h0 hlt ⟨hw2.then kx,a_g h0 hn hxs hall2⟩
def n_Y (types:List Def)(kind:BA)(f:Fld):Prop:=
 f.dirs=[]/\f.dflt=[]/\(f.args.map (·.name)).Nodup/\(∀ y∈f.args,e_2 types y)/\
 (kind=b_f->g_l (findD types (a_n f.t)).1.kind)/\(kind≠b_f->(findD types (a_n f.t)).1.kind≠E0/\(findD types (a_n f.t)).1.kind≠b_f)
def d_H (types:List Def)(x:Def):Prop:=
 ((x.fields.map (·.name))++x.enums.map (·.name)).Nodup/\(∀ f∈x.fields,n_Y types x.kind f)/\(∀ e∈x.enums,e.dirs=[])/\
 (∀ s∈x.types,(findD types s).1.kind=a_V)/\(∀ s∈x.ifaces,(findD types s).1.kind=b_i/\s≠x.name)/\x.types.Nodup/\x.ifaces.Nodup/\x.dirs=[]
theorem sum_zero' {β:Type}{ys:List β}(e:l=xs.length)(e':l'=ys.length)(h:l<=4194304)(h':l'<=4194304)(hz:decide (wr ((l:Int)+(l':Int))>0)=false):xs=[]/\ys=[]:=by
 rw [b_p (by omega) (by omega)] at hz;have:l+l'=0:=by simp at hz;omega
 exact ⟨List.length_eq_zero_iff.1 (by omega),List.length_eq_zero_iff.1 (by omega)⟩
theorem i_Q {s:BA}(h:s.size<=4194304):∀ v∈[Value.string s],a_v v:=fun v hv=>by
 obtain rfl:v=.string s:=by simpa using hv
 exact h
theorem a_S {base:Nat}{cells:List Value}{xs:List BA}{s:BA}(hown:Own base w 9 1 a l c cells)(hb:base<=w.heap.size)(hf:Flat 1 RS xs cells)(hs:s.size<=4194304)(h2:l+1<=16777216):
  ∃ (A:OA) (C:Nat) (w':World),(Go.builtin .append #[71,71] 71 #[false,false] #[.slice a l c,.slice (some (adr w.heap.size)) 1 1]).run Tryz.prog (w.alloc (.cells #[.string s] 9))=.ok (.value (.slice A (l+1) C)) w'/\
   (∃ cells',Own base w' 9 1 A (l+1) C cells'/\Flat 1 RS (xs++[s]) cells')/\Ext (blkOf a) w w'/\(∀ T',T'≠9->KeepT T' (w.alloc (.cells #[.string s] 9)) w'):=
 d_y 71 9 Tryz.t9 _ 1 _ (by kernel_rfl) (by kernel_rfl) rfl (by kernel_rfl) rfl (by kernel_rfl) (by omega) (by decide) hown hb hf (x:=s) (cs:=[.string s]) rfl (i_Q hs) rfl (fun x cs h=>by rw [h];rfl) h2 71 #[false,false]
theorem g_4 (x:Def)(cs:List Value)(loose:Bool)(hp:At w 92 p (.slice a l c))(hT:RDefs w a l c types)(h:RDef w x cs)(hsum:x.fields.length+x.enums.length<=4194304):
  CP 107 #[.pointer (some p),.agg cs.toArray,.bool loose] w (RetB w fun b=>b=true->d_H types x/\(loose=false->s_4 types x)):=by
 have hd:=h;obtain ⟨a1,l1,c1,a2,l2,c2,a3,l3,c3,a4,l4,c4,a5,l5,c5,rfl,hv1,hv2,hv3,hv4,hv5⟩:=h;obtain ⟨e1,s1⟩:=hv1.len;obtain ⟨e2,s2⟩:=hv2.len;obtain ⟨e3,s3⟩:=hv3.len;obtain ⟨e4,s4⟩:=hv4.len;obtain ⟨e5,s5⟩:=hv5.len;have hx0:=(Ext.refl (X:=fun _=>False) w).alloc (.cells #[.string x.kind,.string x.doc,.string x.name,.slice a1 l1 c1,.slice a2 l2 c2,.slice a3 l3 c3,.slice a4 l4 c4,.slice a5 l5 c5] 96);refine h_g (some p) _ _ _ a1 l1 c1 a2 l2 c2 a3 l3 c3 a4 l4 c4 a5 l5 c5 loose w _ ⟨trivial,?_⟩;refine ⟨fun A L C i w1=>0<=i/\i<=l3/\EF w w1/\(∀ f∈x.fields.take i.toNat,n_Y types x.kind f)/\L=i.toNat/\∃ cells,Own w.heap.size w1 9 1 A L C cells/\Flat 1 RS ((x.fields.take i.toNat).map (·.name)) cells,fun _ _ _ i _=>((l3:Int)-i).toNat,
  ⟨by omega,by omega,hx0,by simp,rfl,[],Own.nil ..,.nil⟩,?_⟩
 rintro A L C i w1 ⟨h0,h1,hx,hn,hL,cells,hown,hf⟩;refine ⟨fun hlt=>?_,fun hge=>?_⟩
 ·have hlt:=odt hlt;obtain ⟨pe,f,hpe,hxs,cs,hc,b0,m0,d0,b2,m2,d2,n,b1,m1,d1,nn,b3,m3,d3,rfl,hu0,hu2,hu1,hu3⟩:=hv3.get h0 hlt;obtain ⟨⟨_,_,hc0⟩,hs0,⟨_,_,hc1⟩,hs1,⟨_,_,hc2⟩,hs2,⟨_,_,hc3⟩,hs3,⟨_,_,hc4⟩,hs4,⟨_,_,hc5⟩,hs5,⟨_,_,hc6⟩,hs6,⟨_,_,hc7⟩,-⟩:=hc;refine ⟨pe,hpe,⟨h0,hlt⟩,_,hx.cell hc0 id,_,hx.cell hc1 id,_,_,_,hx.cell hc2 id,_,_,_,hx.cell hc3 id,_,hx.cell hc4 id,_,_,_,hx.cell hc5 id,_,hx.cell hc6 id,_,_,_,hx.cell hc7 id,trivial,trivial,trivial,?_⟩;have hx17:EF w1 (w1.alloc (.cells #[.string f.doc,.string f.name,.slice b0 m0 d0,.slice b2 m2 d2,.string n,.slice b1 m1 d1,.bool nn,.slice b3 m3 d3] 104)):=(Ext.refl w1).alloc _;obtain ⟨A2,C2,w20,r1,⟨cells2,o2,f2⟩,x2,k2⟩:=a_S (hown.keep hx17 fun _ _=>id) (lt_ hx.size hx17.size) hf (s:=f.name) hs1 (by omega);have hx20:EF w w20:=(hx.then hx17).trans x2 fun b hb hbl=>by
   have:=((hown.keep hx17 fun _ _=>id).base b hbl).1;omega
  refine ⟨A2,L+1,C2,w20,r1,⟨k2 96 (by decide),k2 104 (by decide),trivial⟩,fun K hK=>?_⟩;have key:∀ b w',EF w20 w'->(b=false->f.dirs=[]/\f.dflt=[]/\(f.args.map (·.name)).Nodup/\∀ y∈f.args,e_2 types y)->K b w':=by
   intro b w' hx' hy;refine hK b w' ⟨fun _=>⟨false,rfl,hx20.then hx',nofun⟩,fun hb=>?_⟩;have hy:=hy hb;have hw':=hx20.then hx';refine (c_8 hs4 (hu1.keep hw'.keep) (hw'.at id hp) (hT.keep hw'.keep)).mono ?_;rintro _ w3 ⟨rfl,hx3⟩;refine ⟨_,rfl,by simp [hx3.keepT],fun K2 hK2=>?_⟩;have hw3:=hx'.then hx3;have key2:∀ b w',EF w20 w'->(b=false->(x.kind=b_f->g_l (findD types (a_n f.t)).1.kind)/\(x.kind≠b_f->(findD types (a_n f.t)).1.kind≠E0/\(findD types (a_n f.t)).1.kind≠b_f))->K2 b w':=
    fun b w' hx' hz=>hK2 b w' ⟨fun _=>⟨false,rfl,hx20.then hx',nofun⟩,fun hb=>by
     rw [a_a h0 (by omega)];refine next h0 hlt ⟨hx20.then hx',a_g h0 hn hxs ⟨hy.1,hy.2.1,hy.2.2.1,hy.2.2.2,(hz hb).1,(hz hb).2⟩,by omega,cells2,o2.keep hx' fun _ _=>id,?_⟩
     rw [show (i+1).toNat=i.toNat+1 by omega,List.take_succ,hxs];simpa using f2⟩
   refine ⟨fun hk=>?_,fun hk=>?_⟩
   ·have hk:=a_b.1 hk;refine (RetB.base (f_U _ w3) hw3).mono ?_;rintro _ w4 ⟨b,rfl,hkk,hx4,hb4⟩;refine ⟨b,rfl,by simp [hkk],fun hbf=>⟨fun hne=>absurd hk (g_r hne),fun _=>key2 _ _ hx4 fun _=>⟨fun _=>hb4.1 (by simpa using hbf),fun hne=>absurd hk hne⟩⟩,fun _=>key2 _ _ hx4 tf⟩
   ·have hk:=a_f.1 hk;refine ⟨fun _=>?_,fun hne=>absurd (b_2 hne) hk⟩;refine (RetB.base (l_v _ w3) hw3).mono ?_;rintro _ w4 ⟨b,rfl,hkk,hx4,hb4⟩;exact ⟨b,rfl,by simp [hkk],key2 _ _ hx4 fun hbf=>⟨fun he=>absurd he hk,fun _=>hb4.1 (by simpa using hbf)⟩⟩
  have j0:=Ext.refl (X:=fun _=>False) w20;refine ⟨fun hz=>⟨fun _=>?_,fun _=>key _ _ j0 tf⟩,fun _=>key _ _ j0 tf⟩;obtain ⟨z1,z2⟩:=sum_zero' hu3.len.1 hu2.len.1 hu3.len.2 hu2.len.2 hz;refine (RetB.base (d_P (hx20.at id hp) (hT.keep hx20.keep) (hu0.keep hx20.keep)) j0).mono ?_;rintro _ w3 ⟨b,rfl,hk,hx3,hb⟩;exact ⟨b,rfl,by simp [hk],key _ _ hx3 fun h=>⟨z1,z2,hb (by simpa using h)⟩⟩
 have hflds:=a_o e3 hge hn;have hle:=odf hge;rw [tl_ (by omega)] at hf;refine ⟨fun A L C i w1=>0<=i/\i<=l5/\EF w w1/\(∀ f∈x.enums.take i.toNat,f.dirs=[])/\L=l3+i.toNat/\∃ cells,Own w.heap.size w1 9 1 A L C cells/\Flat 1 RS (x.fields.map (·.name)++(x.enums.take i.toNat).map (·.name)) cells,fun _ _ _ i _=>((l5:Int)-i).toNat,
  ⟨by omega,by omega,hx,by simp,by omega,cells,hown,by simpa using hf⟩,?_⟩
 clear hown hf hL hn hx hle hge h0 h1;rintro A L C i w1 ⟨h0,h1,hx,hn,hL,cells,hown,hf⟩;refine ⟨fun hlt=>?_,fun hge=>?_⟩
 ·have hlt:=odt hlt;obtain ⟨pe,f,hpe,hxs,cs,hc,b1,m1,d1,rfl,hu1⟩:=hv5.get h0 hlt;obtain ⟨⟨_,_,hc0⟩,hs0,⟨_,_,hc1⟩,hs1,⟨_,_,hc2⟩,-⟩:=hc;refine ⟨pe,hpe,⟨h0,hlt⟩,_,hx.cell hc0 id,_,hx.cell hc1 id,_,_,_,hx.cell hc2 id,trivial,trivial,trivial,?_⟩;have hx17:EF w1 (w1.alloc (.cells #[.string f.doc,.string f.name,.slice b1 m1 d1] 259)):=(Ext.refl w1).alloc _;obtain ⟨A2,C2,w20,r1,⟨cells2,o2,f2⟩,x2,k2⟩:=a_S (hown.keep hx17 fun _ _=>id) (lt_ hx.size hx17.size) hf (s:=f.name) hs1 (by omega);have hx20:EF w w20:=(hx.then hx17).trans x2 fun b hb hbl=>by
   have:=((hown.keep hx17 fun _ _=>id).base b hbl).1;omega
  refine ⟨A2,L+1,C2,w20,r1,⟨k2 96 (by decide),k2 259 (by decide),trivial⟩,fun K hK=>?_⟩;have key:∀ b,(b=false->f.dirs=[])->K b w20:=fun b hy=>hK b w20 ⟨fun _=>⟨false,rfl,hx20,nofun⟩,fun hb=>by
   rw [a_a h0 (by omega)];refine next h0 hlt ⟨hx20,a_g h0 hn hxs (hy hb),by omega,cells2,o2,?_⟩
   rw [show (i+1).toNat=i.toNat+1 by omega,List.take_succ,hxs];simpa using f2⟩
  exact ⟨fun hz=>key _ fun _=>List.length_eq_zero_iff.1 (by have:=hu1.len.1;have:=odf hz;omega),fun _=>key _ tf⟩
 have henums:=a_o e5 hge hn;have hle:=odf hge;rw [tl_ (by omega)] at hf;have hall:SlL w1 9 1 RS A L C _:=hown.sl hf (by omega) (by omega);refine ⟨fun i w2=>0<=i/\i<=l4/\EF w1 w2/\∀ s∈x.types.take i.toNat,(findD types s).1.kind=a_V,fun i _=>((l4:Int)-i).toNat,⟨by omega,by omega,Ext.refl _,by simp⟩,?_⟩;clear hn hle hge h0 h1;rintro i w2 ⟨h0,h1,kx,hn⟩;refine ⟨fun hlt=>?_,fun hge=>?_⟩
 ·have hlt:=odt hlt;obtain ⟨pe,s,hpe,hxs,cs,hc,rfl⟩:=hv4.get h0 hlt;have hw2:=hx.then kx;refine ⟨pe,hpe,⟨h0,hlt⟩,s,hw2.cell hc.1.choose_spec.2 id,(a_t hc.2.1 (hw2.at id hp) (hT.keep hw2.keep)).mono ?_⟩;rintro _ w3 ⟨cs,rfl,⟨b1,m1,d1,b2,m2,d2,b3,m3,d3,b4,m4,d4,b5,m5,d5,rfl,hu1,hu2,hu3,hu4,hu5⟩,-, hx3⟩;refine ⟨_,_,_,_,_,_,_,_,_,_,_,_,_,_,_,_,_,_,_,rfl,by simp [hx3.keepT],trivial,trivial,fun hz=>⟨false,rfl,(hw2.then hx3).alloc _,nofun⟩,fun hz=>?_⟩;rw [a_a h0 (by omega)];exact next h0 hlt ⟨(kx.then hx3).alloc _,a_g h0 hn hxs (b_2 hz)⟩
 have htypes:=a_o e4 hge hn;refine ⟨fun i w2=>0<=i/\i<=l2/\EF w1 w2/\∀ s∈x.ifaces.take i.toNat,(findD types s).1.kind=b_i/\s≠x.name,fun i _=>((l2:Int)-i).toNat,⟨by omega,by omega,kx,by simp⟩,?_⟩;clear hn hge h0 h1 kx;rintro i w2 ⟨h0,h1,kx,hn⟩;have hw2:=hx.then kx;refine ⟨fun hlt=>?_,fun hge K hK=>?_⟩
 ·have hlt:=odt hlt;obtain ⟨pe,s,hpe,hxs,cs,hc,rfl⟩:=hv2.get h0 hlt;refine ⟨pe,hpe,⟨h0,hlt⟩,s,hw2.cell hc.1.choose_spec.2 id,(a_t hc.2.1 (hw2.at id hp) (hT.keep hw2.keep)).mono ?_⟩;rintro _ w3 ⟨cs,rfl,⟨b1,m1,d1,b2,m2,d2,b3,m3,d3,b4,m4,d4,b5,m5,d5,rfl,hu1,hu2,hu3,hu4,hu5⟩,-, hx3⟩;refine ⟨_,_,_,_,_,_,_,_,_,_,_,_,_,_,_,_,_,_,_,rfl,by simp [hx3.keepT],trivial,trivial,fun K hK=>?_⟩;have key:∀ b w',EF w1 w'->(b=false->(findD types s).1.kind=b_i/\s≠x.name)->K b w':=fun b w' j hy=>hK b w' ⟨fun _=>⟨false,rfl,hx.then j,nofun⟩,fun hb=>by
   rw [a_a h0 (by omega)];exact next h0 hlt ⟨j,a_g h0 hn hxs (hy hb)⟩⟩
  exact ⟨fun hz=>key _ _ ((kx.then hx3).alloc _) fun hy=>⟨b_2 hz,a_f.1 hy⟩,fun _=>key _ _ ((kx.then hx3).alloc _) tf⟩
 have hif:=a_o e2 hge hn;have key:∀ b w',EF w w'->(b=true->d_H types x/\(loose=false->s_4 types x))->K b w':=fun b w' hx' hy=>hK b w' ⟨b,rfl,hx',hy⟩;refine (RetB.base (d_A (SlL.keep kx.keep (by decide) hall fun _ _ _ e=>e)) hw2).mono ?_;rintro _ w3 ⟨b,rfl,hk,hx3,hb3⟩;refine ⟨b,rfl,by simp [hk],fun g3=>?_,fun _=>key _ _ hx3 ff⟩;refine (RetB.base (d_A (hv4.keep hx3.keep)) hx3).mono ?_;rintro _ w4 ⟨b,rfl,hk,hx4,hb4⟩;refine ⟨b,rfl,by simp [hk],fun g4=>?_,fun _=>key _ _ hx4 ff⟩;refine (RetB.base (d_A (hv2.keep hx4.keep)) hx4).mono ?_;rintro _ w5 ⟨b,rfl,hk,hx5,hb5⟩;refine ⟨b,rfl,by simp [hk],fun g5=>?_,fun _=>key _ _ hx5 ff⟩;refine ⟨fun hz=>⟨fun _=>?_,fun _=>key _ _ hx5 ff⟩,fun _=>key _ _ hx5 ff⟩;have fin:d_H types x:=⟨(hb3 g3).1,hflds,henums,htypes,hif,(hb4 g4).1,(hb5 g5).1,e_B e1 hz⟩;refine ⟨fun _=>?_,fun hl=>key _ _ hx5 fun _=>⟨fin,fun h=>by rw [h] at hl;cases hl⟩⟩;refine (RetB.base (i_d x _ (hx5.at id hp) (hT.keep hx5.keep) (hd.keep hx5.keep)) hx5).mono ?_;rintro _ w6 ⟨b,rfl,hk,hx6,hb6⟩;exact ⟨b,rfl,by simp [hk],key _ _ hx6 fun h=>⟨fin,fun _=>hb6 h⟩⟩
end Go.VC
