/- Part of the proof of a law of a rule over documents (MakeC), where what the arguments hold is of bulk at most 1048576. -/
import Derived.Test.YtmnhdjhlcgfpkaaGreatMakeB
import Derived.Test.YtmnhdjhlcgfpkaaGreatBaseC
import Derived.Test.YtmnhdjhlcgfpkaaGreatWideB
set_option linter.unusedVariables false
set_option linter.unusedSimpArgs false
set_option linter.unusedSectionVars false
set_option linter.deprecated false
namespace Go.VC
open Go Go.Proofs
variable [DB]
theorem a_6 {mb:Nat}{c:Nat}{w:World}:CP 180 #[.pointer (some (adr mb)),.slice none 0 c] w fun e w'=>e=.returned (.slice none 0 0)/\w'=w:=by
 refine c_X (some (adr mb)) none 0 c w _ ⟨fun A L C i w1=>A=none/\L=0/\C=0/\i=0/\w1=w,fun _ _ _ _ _=>0,⟨rfl,rfl,rfl,rfl,rfl⟩,?_⟩;rintro A L C i w1 ⟨rfl,rfl,rfl,rfl,rfl⟩;refine ⟨fun h=>?_,fun _=>⟨rfl,rfl⟩⟩;have:=odt h;omega
theorem e_R:Stays fun S w=>Ptr (a_Q S w):=fun _ _ _ _ _ _ h=>Ptr.keep fun _ _=>a_Q.keep h
theorem h_2:Stays (fun (_:Nat->Prop) (_:World) (s:BA) (v:Value)=>v=.string s):=fun _ _ _ _ _ _ _ h=>h
theorem Made.rfl' {mb:Nat}{w:World}(h:Mk w mb):Made mb w w:=⟨Ext.refl _,h⟩
def PDoc (S:Nat->Prop)(w:World)(types:List Def)(dirs:List DirDef)(b:Nat):Prop:=∃ (A2:OA) (L2 C2:Nat) (A4:OA) (L4 C4:Nat) (A5:OA) (L5 C5:Nat) (pos:OA),S b/\
 Blk w b 291 [.slice none 0 0,.slice none 0 0,.slice A2 L2 C2,.slice none 0 0,.slice A4 L4 C4,.slice A5 L5 C5,.pointer pos,.pointer none]/\d_w S w A2 L2 C2 dirs/\PDefs S w A4 L4 C4 types
theorem d_3 {mb:Nat}{a3:OA}{l3 c3:Nat}{a4:OA}{l4 c4:Nat}{dirs:List DirDef}{types:List Def}{w:World}(hl3:a_Y w a3 l3 c3 dirs)(hl4:RDefs w a4 l4 c4 types)
  (ok3:∀ x∈dirs,∀ y∈x.args,a_s y) (ok4:∀ x∈types,okDef x) (hm:Mk w mb):
  CP 139 #[.pointer (some (adr mb)),.agg #[.slice none 0 0,.slice none 0 0,.slice a3 l3 c3,.slice a4 l4 c4,.slice none 0 0]] w fun e w'=>∃ b,e=.returned (.pointer (some (adr b)))/\Made mb w w'/\PDoc (New w) w' types dirs b:=by
 obtain ⟨el,gl⟩:=hl3.len;have hmlt:=hm.lt;refine e_f (some (adr mb)) none 0 0 none 0 0 a3 l3 c3 a4 l4 c4 none 0 0 w _ ⟨trivial,fun w8 e8=>?_⟩;have hx8:EF w w8:=by rw [e8];exact ((Ext.refl w).alloc _).drew
 clear e8;have hm8:=hm.ext hx8 id;refine (a_6).mono ?_;rintro _ _ ⟨rfl,rfl⟩;refine ⟨_,_,_,rfl,⟨fun _ _ _ h=>h,trivial⟩,by simp,?_⟩;refine (a_6).mono ?_;rintro _ _ ⟨rfl,rfl⟩;rename_i w8;refine ⟨_,_,_,rfl,⟨fun _ _ _ h=>h,trivial⟩,by simp,?_⟩;refine (c_E (hl4.keep hx8.keep) ok4 hm8).mono ?_;rintro _ w16 ⟨A4,L4,C4,rfl,d16,hdefs⟩;refine ⟨_,_,_,rfl,⟨d16.keepT hm8 _ (by decide),trivial⟩,by simp,?_⟩;refine (c_E (xs:=[]) (SlL.nil ..) (by simp) d16.mkr).mono ?_;rintro _ w19 ⟨A5,L5,C5,rfl,d19,hnone⟩;refine ⟨_,_,_,rfl,⟨d19.keepT d16.mkr _ (by decide),trivial⟩,trivial,?_⟩;refine (a_c d19.mkr).mono ?_;rintro _ w22 ⟨q22,rfl,d22⟩;refine ⟨_,rfl,⟨d22.keepT d19.mkr _ (by decide),trivial⟩,trivial,trivial,trivial,trivial,trivial,?_⟩;have B24:=Blk.made w22 291 [.slice none 0 0,.slice none 0 0,.slice none 0 0,.slice none 0 0,.slice A4 L4 C4,.slice A5 L5 C5,.pointer q22,.pointer none];have hx24:EF w22 (w22.alloc (.cells #[.slice none 0 0,.slice none 0 0,.slice none 0 0,.slice none 0 0,.slice A4 L4 C4,.slice A5 L5 C5,.pointer q22,.pointer none] 291)):=(Ext.refl _).alloc _;have hz24:(w22.alloc (.cells #[.slice none 0 0,.slice none 0 0,.slice none 0 0,.slice none 0 0,.slice A4 L4 C4,.slice A5 L5 C5,.pointer q22,.pointer none] 291)).heap.size=w22.heap.size+1:=by simp
 have d22':Made mb w w22:=Made.pre hx8 ((d16.trans d19).trans d22);have hz22:=d22'.ext.size;have hzd:=((d19.trans d22)).ext.size;generalize (w22.alloc (.cells #[.slice none 0 0,.slice none 0 0,.slice none 0 0,.slice none 0 0,.slice A4 L4 C4,.slice A5 L5 C5,.pointer q22,.pointer none] 291))=w24 at B24 hx24 hz24 ⊢;generalize hnb0:w22.heap.size=nb at B24 hz24 hz22 hzd ⊢;have d24:=d22'.then hx24;have hne:nb≠mb:=by omega
 have hmb:mb<w24.heap.size:=by omega
 have hnb:nb<w24.heap.size:=by omega
 have h16:=hx8.size;have kdef:Keeps (New w8) (fun b=>w.heap.size<=b/\b<nb) w16 w24:=((d19.trans d22).then hx24).keeps (fun b hb hl=>⟨lt_ h16 hb,by omega⟩) fun b hb e=>by
  have:w8.heap.size<=b:=hb;omega
 have hdefs24:=PDefs.keep kdef hdefs;have kd24:=d24.keep hm;have kn:∀ {w2:World},Ext (X2 mb nb) w24 w2->Keep w w2:=fun h=>kd24.trans (by
  obtain ⟨hB0,src,n,hmm⟩:=d24.mkr;exact h.keep2 hmm B24 (by decide) (by decide) hB0 (by omega))
 refine ⟨fun i w1=>0<=i/\i<=l3/\∃ (A:OA) (L C:Nat),L=i.toNat/\NSt 292 (fun S w=>Ptr (a_Q S w)) mb nb w24 291 (fun A L C=>[.slice none 0 0,.slice none 0 0,.slice A L C,.slice none 0 0,.slice A4 L4 C4,.slice A5 L5 C5,.pointer q22,.pointer none]) A L C (dirs.take i.toNat) w1,
  fun i _=>((l3:Int)-i).toNat,⟨by omega,by omega,none,0,0,rfl,Ext.refl _,d24.mkr,B24,by simpa using Bld.nil⟩,?_⟩
 rintro i w1 ⟨h0,hi,A,_,C,rfl,hst⟩;have hz1:=hst.ext.size;have hk1:=kn hst.ext;refine ⟨fun hlt=>?_,fun hge=>?_⟩
 ·have hlt:=odt hlt;obtain ⟨p,x,hp,hxs,cs,hc,b1,m1,n1,b2,m2,n2,rfl,hv1,hv2⟩:=(hl3.keep hk1).get h0 hlt;obtain ⟨⟨_,_,hc0⟩,hcs0,⟨_,_,hc1⟩,hcs1,⟨_,_,hc2⟩,hcs2,⟨_,_,hc3⟩,hcs3,⟨_,_,hc4⟩,hcs4,-⟩:=hc;have hxm:=mg_ hxs;obtain ⟨e2,g2⟩:=hv2.len;refine ⟨p,hp,⟨h0,hlt⟩,_,hc0.cell,_,hc1.cell,_,_,_,hc2.cell,_,_,_,hc3.cell,_,hc4.cell,trivial,trivial,fun w37 e37=>?_⟩;have hx37:EF w1 w37:=by rw [e37];exact ((Ext.refl w1).alloc _).drew
  clear e37;have d37:Made mb w1 w37:=⟨hx37.toM _,hst.mkr.ext hx37 id⟩;refine (b_0 (hv1.keep (d37.keep hst.mkr)) (ok3 x hxm) d37.mkr).mono ?_;rintro _ w39 ⟨A6,L6,C6,rfl,d39,hargs⟩;refine ⟨_,_,_,rfl,⟨d39.keepT d37.mkr _ (by decide),d39.keepT d37.mkr _ (by decide),trivial⟩,by simp,?_⟩;refine (a_c d39.mkr).mono ?_;rintro _ w42 ⟨q42,rfl,d42⟩;have B44:=Blk.made w42 295 [.string x.doc,.string x.name,.slice A6 L6 C6,.slice none 0 0,.slice none 0 0,.bool x.rep,.pointer q42,.pointer none,.pointer none];have hx44:EF w42 (w42.alloc (.cells #[.string x.doc,.string x.name,.slice A6 L6 C6,.slice none 0 0,.slice none 0 0,.bool x.rep,.pointer q42,.pointer none,.pointer none] 295)):=(Ext.refl _).alloc _;have hz44:(w42.alloc (.cells #[.string x.doc,.string x.name,.slice A6 L6 C6,.slice none 0 0,.slice none 0 0,.bool x.rep,.pointer q42,.pointer none,.pointer none] 295)).heap.size=w42.heap.size+1:=by simp
  refine ⟨_,rfl,⟨d42.keepT d39.mkr _ (by decide),d42.keepT d39.mkr _ (by decide),trivial⟩,by simp,trivial,trivial,trivial,trivial,?_⟩;have z37:=hx37.size;have z39:=d39.ext.size;have z42:=d42.ext.size;generalize (w42.alloc (.cells #[.string x.doc,.string x.name,.slice A6 L6 C6,.slice none 0 0,.slice none 0 0,.bool x.rep,.pointer q42,.pointer none,.pointer none] 295))=w44 at B44 hx44 hz44 ⊢;generalize hyb0:w42.heap.size=yb at B44 hz44 z42 ⊢;have d44:Made mb w1 w44:=((d37.trans d39).trans d42).then hx44;have hney:yb≠mb:=by omega
  have hnyn:yb≠nb:=by omega
  have kargs:Keeps (New w37) (fun b=>w1.heap.size<=b/\b<yb) w39 w44:=(d42.then hx44).keeps (fun b hb hl=>⟨lt_ z37 hb,by omega⟩) fun b hb e=>by
   have:w37.heap.size<=b:=hb;omega
  have hargs44:=a_1.keep kargs hargs;refine ⟨fun j w2=>0<=j/\j<=m2/\∃ (A':OA) (L' C':Nat),L'=j.toNat/\NSt 348 (fun (_:Nat->Prop) (_:World) (s:BA) (v:Value)=>v=.string s) mb yb w44 295 (fun A' L' C'=>[.string x.doc,.string x.name,.slice A6 L6 C6,.slice none 0 0,.slice A' L' C',.bool x.rep,.pointer q42,.pointer none,.pointer none]) A' L' C' (x.locs.take j.toNat) w2,
   fun j _=>((m2:Int)-j).toNat,⟨by omega,by omega,none,0,0,rfl,Ext.refl _,d44.mkr,B44,by simpa using Bld.nil⟩,?_⟩
  rintro j w2 ⟨j0,hj,B,_,D,rfl,hst2⟩;have hz2:=hst2.ext.size;have dd2:Made mb w1 w2:=⟨d44.ext.trans hst2.ext fun b hb e=>by
   rcases e with e|e
   ·exact e
   ·omega,hst2.mkr⟩
  refine ⟨fun hlt2=>?_,fun hge2=>?_⟩
  ·have hlt2:=odt hlt2;obtain ⟨pl,s,hpl,hls,cs,hd,rfl⟩:=(hv2.keep (dd2.keep hst.mkr)).get j0 hlt2;obtain ⟨A',C',w',r,k',B',st'⟩:=hst2.push (T:=348) (j:=4) h_2 293 Tryz.t348 _ _ (by kernel_rfl) (by kernel_rfl) rfl (by kernel_rfl) rfl (by kernel_rfl) (by decide) (by omega) (by omega) hney (fun _ _ _ _ _ _=>rfl) (Made.rfl' hst2.mkr) (x:=s) (v:=.string s) rfl hd.2.1 rfl (by omega) 293 #[false,false];refine ⟨pl,hpl,⟨j0,hlt2⟩,s,hd.1.choose_spec.2.cell,B,j.toNat,D,(hst2.blk.at (j:=4) rfl).cell,trivial,A',j.toNat+1,C',w',r,⟨k' _ (by decide),k' _ (by decide),trivial⟩,B'.off (j:=4) (n:=1) (by simp) (q:=fun T=>(Nat.beq 26 T||(Nat.beq 120 T||false))) rfl,trivial,?_⟩;rw [a_a j0 (by omega)];refine next j0 hlt2 ⟨A',j.toNat+1,C',by omega,?_⟩
   rw [show (j+1).toNat=j.toNat+1 by omega,List.take_succ,hls];exact st'
  ·have hle:=odf hge2;rw [tl_ (by omega)] at hst2;have hlocs:=hst2.bld.done h_2 (by omega);have kl:Keeps (fun b=>w44.heap.size<=b) (New w1) w2 w2:=Keeps.all w2 fun b hb _=>by
    have:w44.heap.size<=b:=hb;show w1.heap.size<=b;omega
   have ka:Keeps (fun b=>w1.heap.size<=b/\b<yb) (New w1) w44 w2:=hst2.ext.keeps (fun b hb _=>hb.1) fun b hb _ e=>by
    have:=hb.1;have:=hb.2;rcases e with e|e<;>omega
   have Bn2:=(d44.blk hst.blk hne).ext hst2.ext fun e=>by
    rcases e with e|e<;>omega
   obtain ⟨A',C',w',r,k',B',st'⟩:=hst.push (T:=292) (j:=2) e_R 287 Tryz.t292 _ _ (by kernel_rfl) (by kernel_rfl) rfl (by kernel_rfl) rfl (by kernel_rfl) (by decide) hmb hnb hne (fun _ _ _ _ _ _=>rfl) dd2 (x:=x) (v:=.pointer (some (adr yb))) rfl (a_G rfl)
    ⟨yb,rfl,A6,L6,C6,B,j.toNat,D,q42,by show w1.heap.size<=yb;omega,hst2.blk,a_1.keep ka hargs44,PSl.keep kl hlocs fun _ _ _ e=>e⟩ (by omega) 287 #[false,false]
   refine ⟨A,i.toNat,C,(Bn2.at (j:=2) rfl).cell,trivial,A',i.toNat+1,C',w',r,⟨k' _ (by decide),k' _ (by decide),trivial⟩,B'.off (j:=2) (n:=1) (by simp) (q:=fun T=>(Nat.beq 26 T||(Nat.beq 120 T||false))) rfl,trivial,?_⟩;rw [a_a h0 (by omega)];refine next h0 hlt ⟨A',i.toNat+1,C',by omega,?_⟩
   rw [show (i+1).toNat=i.toNat+1 by omega,List.take_succ,hxs];exact st'
 ·have hle:=odf hge;rw [tl_ (by omega)] at hst;have hdd:=hst.bld.done e_R (by omega);have kl:Keeps (fun b=>w24.heap.size<=b) (New w) w1 w1:=Keeps.all w1 fun b hb _=>by
   have:w24.heap.size<=b:=hb;show w.heap.size<=b;omega
  have ka:Keeps (fun b=>w.heap.size<=b/\b<nb) (New w) w24 w1:=hst.ext.keeps (fun b hb _=>hb.1) fun b hb _ e=>by
   have:=hb.1;have:=hb.2;rcases e with e|e<;>omega
  refine ⟨nb,rfl,⟨d24.ext.trans hst.ext fun b hb e=>?_,hst.mkr⟩,A,i.toNat,C,A4,L4,C4,A5,L5,C5,q22,hz22,hst.blk,PSl.keep kl hdd fun _ _ _=>Ptr.keep fun _ _=>a_Q.keep kl,PDefs.keep ka hdefs24⟩;rcases e with e|e
  ·exact e
  ·omega
theorem b_F (m:List (BA × Value))(u k:BA)(v:Value):mget (mput m u v) k=if k=u then some v else mget m k:=by
 induction m with
 | nil=>
  by_cases h:k=u
  ·subst h;simp [mput,mget,h_v]
  ·have:(k==u)=false:=by
    cases hb:(k==u) with
    | false=>rfl
    | true=>exact absurd (h_v.1 hb) h
   simp [mput,mget,this,h]
 | cons x m ih=>
  simp only [mput];by_cases hx:(u==x.1)=true
  ·rw [if_pos hx];have e:=h_v.1 hx;by_cases h:k=u
   ·subst h;rw [if_pos rfl];simp [mget,hx]
   ·rw [if_neg h];have:(k==x.1)=false:=by
     cases hb:(k==x.1) with
     | false=>rfl
     | true=>exact absurd ((h_v.1 hb).trans e.symm) h
    simp [mget,this]
  ·rw [if_neg hx];have hcons:∀ m',mget (x::m') k=if (k==x.1)=true then some x.2 else mget m' k:=by
    intro m';unfold mget;cases hb:(k==x.1)<;>simp [hb]
   rw [hcons,hcons,ih];by_cases hb:(k==x.1)=true
   ·rw [if_pos hb,if_pos hb];have:k≠u:=by
     rintro rfl;exact hx hb
    rw [if_neg this]
   ·rw [if_neg hb,if_neg hb]
theorem Ext.keepTmap {w w':World}{b:Nat}{m:List (BA × Value)}(hx:Ext (fun k=>k=b) w w')(hm:SMap w b m)(T:TypeId):KeepT T w w':=fun k cs fr hk=>by
 refine hx.old k _ (fun e=>?_) hk;obtain ⟨ents,cl,h1,_⟩:=hm;rw [show k=b from e,h1] at hk;cases hk
abbrev RB:Nat->List Value->Prop:=fun b cs=>cs=[.pointer (some (adr b))]
def PM (base:Nat)(w:World)(mb:Nat)(pushes:List (BA × Nat)):Prop:=∃ pm:List (BA × Value),SMap w mb pm/\(∀ k v,mget pm k=some v->∃ (A:OA) (L C:Nat),v=.slice A L C/\OwnR 165 1 RB base w A L C ((pushes.filter fun x=>decide (x.1=k)).map (·.2)))/\
 (∀ k,mget pm k=none->pushes.filter (fun x=>decide (x.1=k))=[])/\
 ∀ k k' A L C A' L' C',k≠k'->mget pm k=some (.slice A L C)->mget pm k'=some (.slice A' L' C')->∀ b,blkOf A b->¬ blkOf A' b
theorem PM.keep {base:Nat}{w w':World}{mb:Nat}{pushes:List (BA × Nat)}(h:PM base w mb pushes){X:Nat->Prop}(hx:Ext X w w')(hm:¬ X mb)(hX:∀ b,base<=b->b<w.heap.size->¬ X b):PM base w' mb pushes:=by
 obtain ⟨pm,h1,h2,h3,h4⟩:=h;refine ⟨pm,h1.ext hx hm,fun k v hk=>?_,h3,h4⟩;obtain ⟨A,L,C,e,o⟩:=h2 k v hk;exact ⟨A,L,C,e,o.keep hx fun b hb=>hX b (o.ge b hb).1 (o.ge b hb).2⟩
theorem b_6 {w:World}{sb mb base:Nat}{name:BA}{b:Nat}{scells:List Value}{pushes:List (BA × Nat)}(hs:Blk w sb 230 scells)(h6:scells[6]? =some (.map (some mb)))(hm:PM base w mb pushes)(hmb:mb<base)(hsb:sb<base)(hbase:base<=w.heap.size)(hlen:pushes.length<=4194304):
  CP 140 #[.pointer (some (adr sb)),.string name,.pointer (some (adr b))] w fun e w'=>e=.returned (.tuple #[])/\PM base w' mb (pushes++[(name,b)])/\Ext (fun k=>k=mb∨base<=k) w w'/\∀ T,T≠165->KeepT T w w':=by
 refine b_7 (some (adr sb)) name (some (adr b)) w _ fun w4 e4=>?_;have hx4:EF w w4:=by rw [e4];exact (Ext.refl w).drew
 clear e4;have hs4:=hs.ext hx4 id;have hm4:=hm.keep hx4 id fun _ _ _=>id;obtain ⟨pm,m1,m2,m3,m5⟩:=hm4;have hb4:base<=w4.heap.size:=lt_ hbase hx4.size;have cell6:∀ {w':World},Blk w' sb 230 scells->w'.cell? ((adr sb).add 6)=some (.map (some mb)):=fun h=>(h.at (j:=6) h6).cell;refine ⟨adr sb,rfl,_,cell6 hs4,adr sb,rfl,_,cell6 hs4,?_⟩;have hr:=a_W (t:=228) (kt:=9) (e:=288) (u:=name) (i:=Tryz.t288) (by kernel_rfl) (by kernel_rfl) (by kernel_rfl) rfl m1 false;have hv:∃ (A:OA) (L C:Nat),(mget pm name).getD (.slice none 0 0)=.slice A L C/\OwnR 165 1 RB base w4 A L C ((pushes.filter fun x=>decide (x.1=name)).map (·.2))/\(A≠none->mget pm name=some (.slice A L C)):=by
  cases hg:mget pm name with
  | none=>exact ⟨none,0,0,rfl,by rw [m3 name hg];exact OwnR.nil,fun h=>absurd rfl h⟩
  | some v=>
   obtain ⟨A,L,C,rfl,o⟩:=m2 name v hg;exact ⟨A,L,C,rfl,o,fun _=>rfl⟩
 obtain ⟨A,L,C,hA,o4,hAn⟩:=hv;have hr':(Instr.lookup 228 (.map (some mb)) (.string name) false).run Tryz.prog w4=.ok (.slice A L C) w4:=by
  rw [hr];show Result.ok ((mget pm name).getD (.slice none 0 0)) w4=_;rw [hA]
 have hL:L<=4194304:=by
  have h1:=o4.len (by omega);have h2:=List.length_filter_le (fun x:BA × Nat=>decide (x.1=name)) pushes;simp only [List.length_map] at h1;omega
 refine ⟨A,L,C,hr',trivial,?_⟩;have hxa:EF w4 (w4.alloc (.cells #[.pointer (some (adr b))] 165)):=(Ext.refl w4).alloc _;have hsa:=hs4.ext hxa id;obtain ⟨A',C',w13,r,o',x',k',n'⟩:=o4.one 288 Tryz.t165 _ _ (by kernel_rfl) (by kernel_rfl) rfl (by kernel_rfl) rfl (by kernel_rfl) (by omega) (by decide) hb4 (x:=b) (cs:=[.pointer (some (adr b))]) rfl (fun v hv=>by
  obtain rfl:v=.pointer (some (adr b)):=by simpa using hv
  exact a_G rfl) rfl (by omega) 288 #[false,false]
 have hsA:¬ blkOf A sb:=o4.ne (.inl hsb);have hmA:¬ blkOf A mb:=o4.ne (.inl hmb);have hs13:=hs4.ext x' hsA;have m13:=m1.ext x' hmA;obtain ⟨w14,r14,m14,x14⟩:=b_T (t:=228) (kt:=9) (e:=288) (u:=name) (v:=.slice A' (L+1) C') (by kernel_rfl) (by kernel_rfl) m13;refine ⟨⟨fun b11 hb11=>?_,(cell6 hsa).trans (cell6 hs4).symm,(cell6 hsa).trans (cell6 hs4).symm,trivial⟩,A',L+1,C',w13,r,trivial,⟨(cell6 hs13).trans (cell6 hsa).symm,trivial⟩,w14,r14,trivial,trivial,rfl,?_,?_,?_⟩
 ·obtain rfl:mb=b11:=by simpa using hb11
  rw [b_R,if_neg (by have:=m1.lt;omega)]
 ·refine ⟨_,m14,fun k v hk=>?_,fun k hk=>?_,fun k k' A1 L1 C1 A2 L2 C2 hne h1 h2=>?_⟩
  ·rw [b_F] at hk;by_cases hkn:k=name
   ·subst hkn;rw [if_pos rfl] at hk;obtain rfl:Value.slice A' (L+1) C'=v:=by simpa using hk
    refine ⟨A',L+1,C',rfl,?_⟩;rw [List.filter_append];simp only [List.filter_cons,decide_true,if_true,List.filter_nil,List.map_append,List.map_cons,List.map_nil];exact o'.keep x14 fun b' hb' e=>by
     have h1:=(o'.ge b' hb').1;have h2:b'=mb:=e;omega
   ·rw [if_neg hkn] at hk;obtain ⟨A1,L1,C1,rfl,o1⟩:=m2 k v hk;refine ⟨A1,L1,C1,rfl,?_⟩;have hf:(pushes++[(name,b)]).filter (fun x=>decide (x.1=k))=pushes.filter (fun x=>decide (x.1=k)):=by
     rw [List.filter_append];simp [List.filter_cons,Ne.symm hkn]
    rw [hf];refine (o1.keep x' fun b' hb' ha=>?_).keep x14 fun b' hb' e=>by
     have h1:=(o1.ge b' hb').1;have h2:b'=mb:=e;omega
    have hAs:A≠none:=by
     obtain ⟨p,hp,_⟩:=ha;rw [hp];simp
    exact m5 k name A1 L1 C1 A L C hkn hk (hAn hAs) b' hb' ha
  ·rw [b_F] at hk;by_cases hkn:k=name
   ·rw [if_pos hkn] at hk;cases hk
   ·rw [if_neg hkn] at hk;rw [List.filter_append,m3 k hk];simp [List.filter_cons,Ne.symm hkn]
  ·rw [b_F] at h1 h2;intro bb hb1 hb2;have fresh:∀ k2 A2 L2 C2,k2≠name->mget pm k2=some (.slice A2 L2 C2)->∀ bb,blkOf A' bb->¬ blkOf A2 bb:=by
    intro k2 A2 L2 C2 hk2 hg bb hb1 hb2;obtain ⟨A3,L3,C3,e3,o3⟩:=m2 k2 _ hg;simp only [Value.slice.injEq] at e3;obtain ⟨rfl,rfl,rfl⟩:=e3;rcases n' bb hb1 with h|h
    ·have hAs:A≠none:=by
      obtain ⟨p,hp,_⟩:=h;rw [hp];simp
     exact m5 name k2 A L C A2 L2 C2 (Ne.symm hk2) (hAn hAs) hg bb h hb2
    ·have:=(o3.ge bb hb2).2;omega
   by_cases hk1:k=name
   ·subst hk1;rw [if_pos rfl] at h1;rw [if_neg (Ne.symm hne)] at h2;simp only [Option.some.injEq,Value.slice.injEq] at h1;obtain ⟨rfl,-⟩:=h1;exact fresh k' A2 L2 C2 (Ne.symm hne) h2 bb hb1 hb2
   ·rw [if_neg hk1] at h1;by_cases hk2:k'=name
    ·subst hk2;rw [if_pos rfl] at h2;simp only [Option.some.injEq,Value.slice.injEq] at h2;obtain ⟨rfl,-⟩:=h2;exact fresh k A1 L1 C1 hk1 h1 bb hb2 hb1
    ·rw [if_neg hk2] at h2;exact m5 k k' A1 L1 C1 A2 L2 C2 hne h1 h2 bb hb1 hb2
 ·refine ((hx4.toM _).trans (x'.mono fun b' _ hb'=>?_) fun _ _ h=>h).trans (x14.mono fun b' _ e=>.inl e) fun _ _ h=>h;exact .inr (o4.ge b' hb').1
 ·intro T hT b' cs fr hb';exact x14.keepTmap m13 T b' cs fr (k' T hT b' cs fr ((hx4.then hxa).keepT T b' cs fr hb'))
theorem c_l {w:World}{sb mb base:Nat}{name:BA}{b:Nat}{scells:List Value}{pushes:List (BA × Nat)}(hs:Blk w sb 230 scells)(h6:scells[7]? =some (.map (some mb)))(hm:PM base w mb pushes)(hmb:mb<base)(hsb:sb<base)(hbase:base<=w.heap.size)(hlen:pushes.length<=4194304):
  CP 141 #[.pointer (some (adr sb)),.string name,.pointer (some (adr b))] w fun e w'=>e=.returned (.tuple #[])/\PM base w' mb (pushes++[(name,b)])/\Ext (fun k=>k=mb∨base<=k) w w'/\∀ T,T≠165->KeepT T w w':=by
 refine c_m (some (adr sb)) name (some (adr b)) w _ fun w4 e4=>?_;have hx4:EF w w4:=by rw [e4];exact (Ext.refl w).drew
 clear e4;have hs4:=hs.ext hx4 id;have hm4:=hm.keep hx4 id fun _ _ _=>id;obtain ⟨pm,m1,m2,m3,m5⟩:=hm4;have hb4:base<=w4.heap.size:=lt_ hbase hx4.size;have cell6:∀ {w':World},Blk w' sb 230 scells->w'.cell? ((adr sb).add 7)=some (.map (some mb)):=fun h=>(h.at (j:=7) h6).cell;refine ⟨adr sb,rfl,_,cell6 hs4,adr sb,rfl,_,cell6 hs4,?_⟩;have hr:=a_W (t:=228) (kt:=9) (e:=288) (u:=name) (i:=Tryz.t288) (by kernel_rfl) (by kernel_rfl) (by kernel_rfl) rfl m1 false;have hv:∃ (A:OA) (L C:Nat),(mget pm name).getD (.slice none 0 0)=.slice A L C/\OwnR 165 1 RB base w4 A L C ((pushes.filter fun x=>decide (x.1=name)).map (·.2))/\(A≠none->mget pm name=some (.slice A L C)):=by
  cases hg:mget pm name with
  | none=>exact ⟨none,0,0,rfl,by rw [m3 name hg];exact OwnR.nil,fun h=>absurd rfl h⟩
  | some v=>
   obtain ⟨A,L,C,rfl,o⟩:=m2 name v hg;exact ⟨A,L,C,rfl,o,fun _=>rfl⟩
 obtain ⟨A,L,C,hA,o4,hAn⟩:=hv;have hr':(Instr.lookup 228 (.map (some mb)) (.string name) false).run Tryz.prog w4=.ok (.slice A L C) w4:=by
  rw [hr];show Result.ok ((mget pm name).getD (.slice none 0 0)) w4=_;rw [hA]
 have hL:L<=4194304:=by
  have h1:=o4.len (by omega);have h2:=List.length_filter_le (fun x:BA × Nat=>decide (x.1=name)) pushes;simp only [List.length_map] at h1;omega
 refine ⟨A,L,C,hr',trivial,?_⟩;have hxa:EF w4 (w4.alloc (.cells #[.pointer (some (adr b))] 165)):=(Ext.refl w4).alloc _;have hsa:=hs4.ext hxa id;obtain ⟨A',C',w13,r,o',x',k',n'⟩:=o4.one 288 Tryz.t165 _ _ (by kernel_rfl) (by kernel_rfl) rfl (by kernel_rfl) rfl (by kernel_rfl) (by omega) (by decide) hb4 (x:=b) (cs:=[.pointer (some (adr b))]) rfl (fun v hv=>by
  obtain rfl:v=.pointer (some (adr b)):=by simpa using hv
  exact a_G rfl) rfl (by omega) 288 #[false,false]
 have hsA:¬ blkOf A sb:=o4.ne (.inl hsb);have hmA:¬ blkOf A mb:=o4.ne (.inl hmb);have hs13:=hs4.ext x' hsA;have m13:=m1.ext x' hmA;obtain ⟨w14,r14,m14,x14⟩:=b_T (t:=228) (kt:=9) (e:=288) (u:=name) (v:=.slice A' (L+1) C') (by kernel_rfl) (by kernel_rfl) m13;refine ⟨⟨fun b11 hb11=>?_,(cell6 hsa).trans (cell6 hs4).symm,(cell6 hsa).trans (cell6 hs4).symm,trivial⟩,A',L+1,C',w13,r,trivial,⟨(cell6 hs13).trans (cell6 hsa).symm,trivial⟩,w14,r14,trivial,trivial,rfl,?_,?_,?_⟩
 ·obtain rfl:mb=b11:=by simpa using hb11
  rw [b_R,if_neg (by have:=m1.lt;omega)]
 ·refine ⟨_,m14,fun k v hk=>?_,fun k hk=>?_,fun k k' A1 L1 C1 A2 L2 C2 hne h1 h2=>?_⟩
  ·rw [b_F] at hk;by_cases hkn:k=name
   ·subst hkn;rw [if_pos rfl] at hk;obtain rfl:Value.slice A' (L+1) C'=v:=by simpa using hk
    refine ⟨A',L+1,C',rfl,?_⟩;rw [List.filter_append];simp only [List.filter_cons,decide_true,if_true,List.filter_nil,List.map_append,List.map_cons,List.map_nil];exact o'.keep x14 fun b' hb' e=>by
     have h1:=(o'.ge b' hb').1;have h2:b'=mb:=e;omega
   ·rw [if_neg hkn] at hk;obtain ⟨A1,L1,C1,rfl,o1⟩:=m2 k v hk;refine ⟨A1,L1,C1,rfl,?_⟩;have hf:(pushes++[(name,b)]).filter (fun x=>decide (x.1=k))=pushes.filter (fun x=>decide (x.1=k)):=by
     rw [List.filter_append];simp [List.filter_cons,Ne.symm hkn]
    rw [hf];refine (o1.keep x' fun b' hb' ha=>?_).keep x14 fun b' hb' e=>by
     have h1:=(o1.ge b' hb').1;have h2:b'=mb:=e;omega
    have hAs:A≠none:=by
     obtain ⟨p,hp,_⟩:=ha;rw [hp];simp
    exact m5 k name A1 L1 C1 A L C hkn hk (hAn hAs) b' hb' ha
  ·rw [b_F] at hk;by_cases hkn:k=name
   ·rw [if_pos hkn] at hk;cases hk
   ·rw [if_neg hkn] at hk;rw [List.filter_append,m3 k hk];simp [List.filter_cons,Ne.symm hkn]
  ·rw [b_F] at h1 h2;intro bb hb1 hb2;have fresh:∀ k2 A2 L2 C2,k2≠name->mget pm k2=some (.slice A2 L2 C2)->∀ bb,blkOf A' bb->¬ blkOf A2 bb:=by
    intro k2 A2 L2 C2 hk2 hg bb hb1 hb2;obtain ⟨A3,L3,C3,e3,o3⟩:=m2 k2 _ hg;simp only [Value.slice.injEq] at e3;obtain ⟨rfl,rfl,rfl⟩:=e3;rcases n' bb hb1 with h|h
    ·have hAs:A≠none:=by
      obtain ⟨p,hp,_⟩:=h;rw [hp];simp
     exact m5 name k2 A L C A2 L2 C2 (Ne.symm hk2) (hAn hAs) hg bb h hb2
    ·have:=(o3.ge bb hb2).2;omega
   by_cases hk1:k=name
   ·subst hk1;rw [if_pos rfl] at h1;rw [if_neg (Ne.symm hne)] at h2;simp only [Option.some.injEq,Value.slice.injEq] at h1;obtain ⟨rfl,-⟩:=h1;exact fresh k' A2 L2 C2 (Ne.symm hne) h2 bb hb1 hb2
   ·rw [if_neg hk1] at h1;by_cases hk2:k'=name
    ·subst hk2;rw [if_pos rfl] at h2;simp only [Option.some.injEq,Value.slice.injEq] at h2;obtain ⟨rfl,-⟩:=h2;exact fresh k A1 L1 C1 hk1 h1 bb hb2 hb1
    ·rw [if_neg hk2] at h2;exact m5 k k' A1 L1 C1 A2 L2 C2 hne h1 h2 bb hb1 hb2
 ·refine ((hx4.toM _).trans (x'.mono fun b' _ hb'=>?_) fun _ _ h=>h).trans (x14.mono fun b' _ e=>.inl e) fun _ _ h=>h;exact .inr (o4.ge b' hb').1
 ·intro T hT b' cs fr hb';exact x14.keepTmap m13 T b' cs fr (k' T hT b' cs fr ((hx4.then hxa).keepT T b' cs fr hb'))
def lastN {α:Type}(nm:α->BA)(l:List α)(k:BA):Option α:=(l.filter fun d=>decide (nm d=k)).getLast?
theorem l_D {α:Type}{nm:α->BA}{xs:List α}{i:Int}{x:α}(h0:0<=i)(hx:xs[i.toNat]? =some x)(k:BA):lastN nm (xs.take (i+1).toNat) k=if nm x=k then some x else lastN nm (xs.take i.toNat) k:=by
 unfold lastN;rw [a_J h0 hx];by_cases h:nm x=k
 ·simp [h]
 ·simp [h]
def OptR {α:Type}(P:α->Nat->Prop):Option α->Option Value->Prop
 | none,none=>True
 | some d,some v=>∃ b,v=.pointer (some (adr b))/\P d b
 | _,_=>False
theorem OptR.mono {α:Type}{P P':α->Nat->Prop}(h:∀ x b,P x b->P' x b):∀ {d:Option α} {v:Option Value},OptR P d v->OptR P' d v
 | none,none,_=>trivial
 | some d,some v,⟨b,h1,h2⟩=>⟨b,h1,h d b h2⟩
 | none,some _,h=>h.elim
 | some _,none,h=>h.elim
def OptQ {α:Type}(P:α->Nat->Prop):Option α->OA->Prop
 | none,q=>q=none
 | some d,q=>∃ b,q=some (adr b)/\P d b
theorem OptQ.mono {α:Type}{P P':α->Nat->Prop}(h:∀ x b,P x b->P' x b):∀ {d:Option α} {q:OA},OptQ P d q->OptQ P' d q
 | none,_,h=>h
 | some d,q,⟨b,h1,h2⟩=>⟨b,h1,h d b h2⟩
def NMap {α:Type}(nm:α->BA)(P:α->Nat->Prop)(l:List α)(m:List (BA × Value)):Prop:=∀ k,OptR P (lastN nm l k) (mget m k)
theorem NMap.put {α:Type}{nm:α->BA}{P:α->Nat->Prop}{xs:List α}{m:List (BA × Value)}{i:Int}{x:α}{b:Nat}(h:NMap nm P (xs.take i.toNat) m)(h0:0<=i)(hx:xs[i.toNat]? =some x)(hp:P x b):
  NMap nm P (xs.take (i+1).toNat) (mput m (nm x) (.pointer (some (adr b)))):=by
 intro k;rw [l_D h0 hx,b_F];by_cases hk:nm x=k
 ·rw [if_pos hk,if_pos hk.symm];exact ⟨b,rfl,hp⟩
 ·rw [if_neg hk,if_neg (Ne.symm hk)];exact h k
theorem NMap.look {α:Type}{nm:α->BA}{P:α->Nat->Prop}{l:List α}{m:List (BA × Value)}(h:NMap nm P l m)(k:BA):∃ q,(mget m k).getD (.pointer none)=.pointer q/\OptQ P (lastN nm l k) q:=by
 have hk:=h k;cases hl:lastN nm l k with
 | none=>
  cases hm:mget m k with
  | none=>exact ⟨none,rfl,rfl⟩
  | some v=>rw [hl,hm] at hk;exact hk.elim
 | some d=>
  cases hm:mget m k with
  | none=>rw [hl,hm] at hk;exact hk.elim
  | some v=>
   rw [hl,hm] at hk;obtain ⟨b,rfl,hp⟩:=hk;exact ⟨_,rfl,b,rfl,hp⟩
inductive F2 {α β:Type} (R:α->β->Prop):List α->List β->Prop
 | nil:F2 R [] []
 | cons {x:α} {y:β} {xs:List α} {ys:List β}:R x y->F2 R xs ys->F2 R (x::xs) (y::ys)
theorem F2.snoc {α β:Type}{R:α->β->Prop}{xs:List α}{ys:List β}{x:α}{y:β}(h:F2 R xs ys)(hr:R x y):F2 R (xs++[x]) (ys++[y]):=by
 induction h with
 | nil=>exact .cons hr .nil
 | cons h1 _ ih=>exact .cons h1 ih
theorem F2.mono {α β:Type}{R R':α->β->Prop}{xs:List α}{ys:List β}(h:F2 R xs ys)(hr:∀ x y,R x y->R' x y):F2 R' xs ys:=by
 induction h with
 | nil=>exact .nil
 | cons h1 _ ih=>exact .cons (hr _ _ h1) ih
theorem F2.len {α β:Type}{R:α->β->Prop}{xs:List α}{ys:List β}(h:F2 R xs ys):xs.length=ys.length:=by
 induction h with
 | nil=>rfl
 | cons _ _ ih=>simp [ih]
def b_W (types:List Def)(name:BA)(ns:List BA):List (BA × Def):=ns.filterMap fun n=>(lastN Def.name types n).map fun d=>(name,d)
def pushD (types:List Def)(l:List Named):List (BA × Def):=l.flatMap fun x=>b_W types x.name x.names
abbrev RPush (P:Def->Nat->Prop):BA × Def->BA × Nat->Prop:=fun x y=>x.1=y.1/\P x.2 y.2
structure SS (w11:World) (q1 q2 q3:OA) (tm dm:List (BA × Value)) (w1:World):Prop where
 ext:EF w11 w1
 size:w11.heap.size+5<=w1.heap.size
 blk:Blk w1 (w11.heap.size+4) 230 [.pointer q1,.pointer q2,.pointer q3,.slice none 0 0,.map (some w11.heap.size),.map (some (w11.heap.size+1)),.map (some (w11.heap.size+2)),.map (some (w11.heap.size+3)),.string E0,.pointer none]
 tmap:SMap w1 w11.heap.size tm
 dmap:SMap w1 (w11.heap.size+1) dm
 pmap:SMap w1 (w11.heap.size+2) []
 imap:SMap w1 (w11.heap.size+3) []
section
variable {w11:World} {q1 q2 q3:OA} {tm dm:List (BA × Value)} {w1:World}
theorem SS.keep {w2:World}(h:SS w11 q1 q2 q3 tm dm w1)(hx:EF w1 w2):SS w11 q1 q2 q3 tm dm w2:=
 ⟨h.ext.then hx,lt_ h.size hx.size,h.blk.ext hx id,h.tmap.ext hx id,h.dmap.ext hx id,h.pmap.ext hx id,h.imap.ext hx id⟩
theorem SS.tput (h:SS w11 q1 q2 q3 tm dm w1)(u:BA)(v:Value):∃ w2,(Instr.mapUpdate 226 (.map (some w11.heap.size)) (.string u) v).run Tryz.prog w1=.ok () w2/\SS w11 q1 q2 q3 (mput tm u v) dm w2/\∀ T,KeepT T w1 w2:=by
 obtain ⟨w2,r,m,x⟩:=b_T (t:=226) (kt:=9) (e:=165) (u:=u) (v:=v) (by kernel_rfl) (by kernel_rfl) h.tmap;exact ⟨w2,r,⟨h.ext.trans x fun b hb e=>by have:b=w11.heap.size:=e;omega,lt_ h.size x.size,h.blk.ext x (by simp),m,h.dmap.ext x (by simp),h.pmap.ext x (by simp),h.imap.ext x (by simp)⟩,fun T=>x.keepTmap h.tmap T⟩
theorem SS.dput (h:SS w11 q1 q2 q3 tm dm w1)(u:BA)(v:Value):∃ w2,(Instr.mapUpdate 227 (.map (some (w11.heap.size+1))) (.string u) v).run Tryz.prog w1=.ok () w2/\SS w11 q1 q2 q3 tm (mput dm u v) w2/\∀ T,KeepT T w1 w2:=by
 obtain ⟨w2,r,m,x⟩:=b_T (t:=227) (kt:=9) (e:=292) (u:=u) (v:=v) (by kernel_rfl) (by kernel_rfl) h.dmap;exact ⟨w2,r,⟨h.ext.trans x fun b hb e=>by have:b=w11.heap.size+1:=e;omega,lt_ h.size x.size,h.blk.ext x (by simp),h.tmap.ext x (by simp),m,h.pmap.ext x (by simp),h.imap.ext x (by simp)⟩,fun T=>x.keepTmap h.dmap T⟩
theorem SS.look (h:SS w11 q1 q2 q3 tm dm w1){P:Def->Nat->Prop}{types:List Def}(hn:NMap Def.name P types tm)(u:BA):∃ q,(Instr.lookup 226 (.map (some w11.heap.size)) (.string u) false).run Tryz.prog w1=.ok (.pointer q) w1/\OptQ P (lastN Def.name types u) q:=by
 obtain ⟨q,hq,ho⟩:=hn.look u;refine ⟨q,?_,ho⟩;have:=a_W (t:=226) (kt:=9) (e:=165) (u:=u) (i:=Tryz.t165) (by kernel_rfl) (by kernel_rfl) (by kernel_rfl) rfl h.tmap false;rw [this];show Result.ok ((mget tm u).getD (.pointer none)) w1=_;rw [hq]
end
theorem PM.weaken {base base':Nat}{w:World}{mb:Nat}{pushes:List (BA × Nat)}(h:PM base w mb pushes)(hb:base'<=base):PM base' w mb pushes:=by
 obtain ⟨pm,h1,h2,h3,h4⟩:=h;exact ⟨pm,h1,fun k v hk=>by
  obtain ⟨A,L,C,e,o⟩:=h2 k v hk;exact ⟨A,L,C,e,o.weaken hb⟩,h3,h4⟩
theorem PM.nil {w:World}{mb base:Nat}(h:SMap w mb []):PM base w mb []:=⟨[],h,fun k v h=>by simp [mget] at h,fun _ _=>rfl,fun k k' A L C A' L' C' _ h=>by simp [mget] at h⟩
theorem j_x {types:List Def}{l:List Named}{i:Nat}{x:Named}(hx:l[i]? =some x)(j:Nat):(pushD types (l.take i)++b_W types x.name (x.names.take j)).length<=(pushD types l).length:=by
 have hi:i<l.length:=(List.getElem?_eq_some_iff.1 hx).1;have e:l=l.take i++x::l.drop (i+1):=by
  have h1:=(List.take_append_drop i l).symm;rw [List.drop_eq_getElem_cons hi] at h1
  rwa [show l[i]=x from (List.getElem?_eq_some_iff.1 hx).2] at h1
 have e2:x.names=x.names.take j++x.names.drop j:=(List.take_append_drop j x.names).symm;have h3:pushD types l=pushD types (l.take i)++(b_W types x.name x.names++pushD types (l.drop (i+1))):=by
  conv=>lhs;rw [e]
  simp [pushD]
 have h4:b_W types x.name x.names=b_W types x.name (x.names.take j)++b_W types x.name (x.names.drop j):=by
  unfold b_W;rw [<- List.filterMap_append,List.take_append_drop]
 rw [h3,h4];simp
theorem g_v {types:List Def}{name:BA}{xs:List BA}{j:Int}{s:BA}(h0:0<=j)(hx:xs[j.toNat]? =some s):b_W types name (xs.take (j+1).toNat)=b_W types name (xs.take j.toNat)++(match lastN Def.name types s with |some d=>[(name,d)]|none=>[]):=by
 unfold b_W;rw [show (j+1).toNat=j.toNat+1 by omega,List.take_succ,hx,List.filterMap_append];cases h:lastN Def.name types s<;>simp [h]
theorem h_Q {types:List Def}{xs:List Named}{j:Int}{x:Named}(h0:0<=j)(hx:xs[j.toNat]? =some x):pushD types (xs.take (j+1).toNat)=pushD types (xs.take j.toNat)++b_W types x.name x.names:=by
 unfold pushD;rw [show (j+1).toNat=j.toNat+1 by omega,List.take_succ,hx,List.flatMap_append];simp
theorem tlook {w1:World}{N:Nat}{tm:List (BA × Value)}(h:SMap w1 N tm){P:Def->Nat->Prop}{types:List Def}(hn:NMap Def.name P types tm)(u:BA):∃ q,(Instr.lookup 226 (.map (some N)) (.string u) false).run Tryz.prog w1=.ok (.pointer q) w1/\OptQ P (lastN Def.name types u) q:=by
 obtain ⟨q,hq,ho⟩:=hn.look u;refine ⟨q,?_,ho⟩;have:=a_W (t:=226) (kt:=9) (e:=165) (u:=u) (i:=Tryz.t165) (by kernel_rfl) (by kernel_rfl) (by kernel_rfl) rfl h false;rw [this];show Result.ok ((mget tm u).getD (.pointer none)) w1=_;rw [hq]
def n_3 (S:Nat->Prop)(w:World)(wd:WorldD)(b:Nat):Prop:=∃ (m1 m2 m3 m4 base:Nat) (q1 q2 q3:OA) (tm dm:List (BA × Value)) (p3 p4:List (BA × Nat)),S b/\S m1/\S m2/\S m3/\S m4/\(∀ b,base<=b->S b)/\
 Blk w b 230 [.pointer q1,.pointer q2,.pointer q3,.slice none 0 0,.map (some m1),.map (some m2),.map (some m3),.map (some m4),.string E0,.pointer none]/\SMap w m1 tm/\SMap w m2 dm/\PM base w m3 p3/\PM base w m4 p4/\
 NMap Def.name (PDef S w) wd.types tm/\NMap DirDef.name (a_Q S w) wd.dirs dm/\OptQ (PDef S w) (lastN Def.name wd.types wd.query) q1/\OptQ (PDef S w) (lastN Def.name wd.types wd.mutation) q2/\OptQ (PDef S w) (lastN Def.name wd.types wd.subscription) q3/\
 F2 (RPush (PDef S w)) (pushD wd.types wd.possible) p3/\F2 (RPush (PDef S w)) (pushD wd.types wd.implements) p4
theorem e_u {mb:Nat}{wd:WorldD}{cs:List Value}{w:World}(hw:c_6 w wd cs)(ok3:∀ x∈wd.dirs,∀ y∈x.args,a_s y)(ok4:∀ x∈wd.types,okDef x)(hm:Mk w mb)
  (few6:(pushD wd.types wd.possible).length<=4194304) (few7:(pushD wd.types wd.implements).length<=4194304):
  CP 79 #[.pointer (some (adr mb)),.agg cs.toArray] w fun e w'=>∃ b,e=.returned (.pointer (some (adr b)))/\Made mb w w'/\n_3 (New w) w' wd b:=by
 obtain ⟨a1,l1,c1,a2,l2,c2,a6,l6,c6,a7,l7,c7,rfl,hT,hD,hP,hI⟩:=hw;have hmlt:=hm.lt;refine e_K (some (adr mb)) a1 l1 c1 a2 l2 c2 wd.query wd.mutation wd.subscription a6 l6 c6 a7 l7 c7 w _ ⟨trivial,trivial,?_⟩;have hx9:EF w (w.alloc (.cells #[.slice a1 l1 c1,.slice a2 l2 c2,.string wd.query,.string wd.mutation,.string wd.subscription,.slice a6 l6 c6,.slice a7 l7 c7] 40)):=(Ext.refl w).alloc _;refine (d_3 (hD.keep hx9.keep) (hT.keep hx9.keep) ok3 ok4 (hm.ext hx9 id)).mono ?_;rintro _ w11 ⟨db,rfl,d11,A2,L2,C2,A4,L4,C4,A5,L5,C5,pos,hdb,hB,hdirs,hdefs⟩;refine ⟨_,rfl,⟨d11.keepT (hm.ext hx9 id) _ (by decide),trivial⟩,?_⟩;have d11':=Made.pre hx9 d11;have kd:=d11'.keep hm;have s13:(w11.alloc (.map #[] 0)).heap.size=w11.heap.size+1:=by simp
 have s14:((w11.alloc (.map #[] 0)).alloc (.map #[] 0)).heap.size=w11.heap.size+2:=by simp
 have s15:(((w11.alloc (.map #[] 0)).alloc (.map #[] 0)).alloc (.map #[] 0)).heap.size=w11.heap.size+3:=by simp
 have s16:((((w11.alloc (.map #[] 0)).alloc (.map #[] 0)).alloc (.map #[] 0)).alloc (.map #[] 0)).heap.size=w11.heap.size+4:=by simp
 refine ⟨trivial,trivial,?_⟩;have e1:EF w11 (w11.alloc (.map #[] 0)):=(Ext.refl _).alloc _;have e2:EF (w11.alloc (.map #[] 0)) ((w11.alloc (.map #[] 0)).alloc (.map #[] 0)):=(Ext.refl _).alloc _;have e3:EF ((w11.alloc (.map #[] 0)).alloc (.map #[] 0)) (((w11.alloc (.map #[] 0)).alloc (.map #[] 0)).alloc (.map #[] 0)):=(Ext.refl _).alloc _;have e4:EF (((w11.alloc (.map #[] 0)).alloc (.map #[] 0)).alloc (.map #[] 0)) ((((w11.alloc (.map #[] 0)).alloc (.map #[] 0)).alloc (.map #[] 0)).alloc (.map #[] 0)):=(Ext.refl _).alloc _;have t1:=SMap.made w11;have t2:=SMap.made (w11.alloc (.map #[] 0));have t3:=SMap.made ((w11.alloc (.map #[] 0)).alloc (.map #[] 0));have t4:=SMap.made (((w11.alloc (.map #[] 0)).alloc (.map #[] 0)).alloc (.map #[] 0));rw [s13] at t2;rw [s14] at t3;rw [s15] at t4;rw [s13,s14,s15,s16];generalize ((((w11.alloc (.map #[] 0)).alloc (.map #[] 0)).alloc (.map #[] 0)).alloc (.map #[] 0))=w16 at e4 t4 s16 ⊢;have B17:=Blk.made w16 230 [.pointer none,.pointer none,.pointer none,.slice none 0 0,.map (some w11.heap.size),.map (some (w11.heap.size+1)),.map (some (w11.heap.size+2)),.map (some (w11.heap.size+3)),.string E0,.pointer none];have e5:EF w16 (w16.alloc (.cells #[.pointer none,.pointer none,.pointer none,.slice none 0 0,.map (some w11.heap.size),.map (some (w11.heap.size+1)),.map (some (w11.heap.size+2)),.map (some (w11.heap.size+3)),.string E0,.pointer none] 230)):=(Ext.refl _).alloc _;have s17:(w16.alloc (.cells #[.pointer none,.pointer none,.pointer none,.slice none 0 0,.map (some w11.heap.size),.map (some (w11.heap.size+1)),.map (some (w11.heap.size+2)),.map (some (w11.heap.size+3)),.string E0,.pointer none] 230)).heap.size=w11.heap.size+5:=by simp [s16]
 rw [s16] at B17;generalize (w16.alloc (.cells #[.pointer none,.pointer none,.pointer none,.slice none 0 0,.map (some w11.heap.size),.map (some (w11.heap.size+1)),.map (some (w11.heap.size+2)),.map (some (w11.heap.size+3)),.string E0,.pointer none] 230))=w17 at B17 e5 s17 ⊢;have ss17:SS w11 none none none [] [] w17:=⟨e1.then (e2.then (e3.then (e4.then e5))),by omega,B17,t1.ext (e2.then (e3.then (e4.then e5))) id,t2.ext (e3.then (e4.then e5)) id,t3.ext (e4.then e5) id,t4.ext e5 id⟩;have hn11:=d11'.ext.size;have adb:∀ {w':World} (j:Nat) (v:Value),EF w11 w'->([.slice none 0 0,.slice none 0 0,.slice A2 L2 C2,.slice none 0 0,.slice A4 L4 C4,.slice A5 L5 C5,.pointer pos,.pointer none]:List Value)[j]? =some v->w'.cell? ⟨db,j,none⟩=some v:=fun j v hx hj=>((hB.ext hx id).at hj).cell;refine ⟨adr db,rfl,A4,L4,C4,adb 4 _ ss17.ext rfl,?_⟩;obtain ⟨el4,gc4,gl4,hel4⟩:=hdefs;obtain ⟨el2,gc2,gl2,hel2⟩:=hdirs;have hdefs:PDefs (New (w.alloc (.cells #[.slice a1 l1 c1,.slice a2 l2 c2,.string wd.query,.string wd.mutation,.string wd.subscription,.slice a6 l6 c6,.slice a7 l7 c7] 40))) w11 A4 L4 C4 wd.types:=⟨el4,gc4,gl4,hel4⟩;have hdirs:d_w (New (w.alloc (.cells #[.slice a1 l1 c1,.slice a2 l2 c2,.string wd.query,.string wd.mutation,.string wd.subscription,.slice a6 l6 c6,.slice a7 l7 c7] 40))) w11 A2 L2 C2 wd.dirs:=⟨el2,gc2,gl2,hel2⟩;have kN:Keeps (New (w.alloc (.cells #[.slice a1 l1 c1,.slice a2 l2 c2,.string wd.query,.string wd.mutation,.string wd.subscription,.slice a6 l6 c6,.slice a7 l7 c7] 40))) (New w) w11 w11:=Keeps.all w11 fun b hb _=>lt_ hx9.size hb;have hdefs:=PDefs.keep kN hdefs;have hdirs:=d_w.keep kN hdirs;refine ⟨fun i w1=>0<=i/\i<=L4/\∃ tm,SS w11 none none none tm [] w1/\NMap Def.name (PDef (New w) w11) (wd.types.take i.toNat) tm,fun i _=>((L4:Int)-i).toNat,⟨by omega,by omega,[],ss17,fun k=>by simp [lastN,mget,OptR]⟩,?_⟩;rintro i w1 ⟨h0,hi,tm,ss,hn⟩;refine ⟨fun hlt=>?_,fun hge=>?_⟩
 ·have hlt:=odt hlt;obtain ⟨p,x,v,hp,hxs,hs,ha,b,rfl,hpd⟩:=hdefs.get h0 hlt;refine ⟨p,hp,⟨h0,hlt⟩,_,(ss.ext.at id ha).cell,fun w26 e26=>?_⟩;have ss26:=ss.keep (w2:=w26) (by rw [e26];exact (Ext.refl w1).drew);clear e26;have hpd':=hpd;obtain ⟨_,_,_,_,_,_,_,_,_,_,_,_,_,_,_,_,hsb,hBd,-⟩:=hpd';obtain ⟨w30,r30,ss30,k30⟩:=ss26.tput x.name (.pointer (some (adr b)));refine ⟨_,(ss26.blk.at (j:=4) rfl).cell,adr b,rfl,x.name,((hBd.ext ss26.ext id).at (j:=2) rfl).cell,w30,r30,⟨k30 _,trivial⟩,trivial,?_⟩;rw [a_a h0 (by omega)];exact next h0 hlt ⟨_,ss30,hn.put h0 hxs hpd⟩
 have hle:=odf hge;rw [tl_ (by omega)] at hn;refine ⟨adr db,rfl,A2,L2,C2,adb 2 _ ss.ext rfl,?_⟩;refine ⟨fun j w2=>0<=j/\j<=L2/\∃ dm,SS w11 none none none tm dm w2/\NMap DirDef.name (a_Q (New w) w11) (wd.dirs.take j.toNat) dm,fun j _=>((L2:Int)-j).toNat,⟨by omega,by omega,[],ss,fun k=>by simp [lastN,mget,OptR]⟩,?_⟩;clear ss hge hle h0 hi;rintro i w1 ⟨h0,hi,dm,ss,hnd⟩;refine ⟨fun hlt=>?_,fun hge=>?_⟩
 ·have hlt:=odt hlt;obtain ⟨p,x,v,hp,hxs,hs,ha,b,rfl,hpd⟩:=hdirs.get h0 hlt;refine ⟨p,hp,⟨h0,hlt⟩,_,(ss.ext.at id ha).cell,fun w26 e26=>?_⟩;have ss26:=ss.keep (w2:=w26) (by rw [e26];exact (Ext.refl w1).drew);clear e26;have hpd':=hpd;obtain ⟨_,_,_,_,_,_,_,hsb,hBd,-⟩:=hpd';obtain ⟨w30,r30,ss30,k30⟩:=ss26.dput x.name (.pointer (some (adr b)));refine ⟨_,(ss26.blk.at (j:=5) rfl).cell,adr b,rfl,x.name,((hBd.ext ss26.ext id).at (j:=1) rfl).cell,w30,r30,⟨k30 _,trivial⟩,trivial,?_⟩;rw [a_a h0 (by omega)];exact next h0 hlt ⟨_,ss30,hnd.put h0 hxs hpd⟩
 have hle:=odf hge;rw [tl_ (by omega)] at hnd;intro w44 e44;have ss44:=ss.keep (w2:=w44) (by rw [e44];exact (Ext.refl w1).drew);clear e44 ss hge hle h0 hi;obtain ⟨q1,r1,hq1⟩:=ss44.look hn wd.query;obtain ⟨q2,r2,hq2⟩:=ss44.look hn wd.mutation;obtain ⟨q3,r3,hq3⟩:=ss44.look hn wd.subscription;have c4:=(ss44.blk.at (j:=4) rfl).cell;refine ⟨_,c4,q1,r1,_,c4,q2,r2,_,c4,q3,r3,?_⟩;have setq:∀ {w5:World} {u1 u2 u3:OA} (j:Nat) (q u1' u2' u3':OA),SS w11 u1 u2 u3 tm dm w5->(∀ rest:List Value,(Value.pointer u1::.pointer u2::.pointer u3::rest).set j (.pointer q)=.pointer u1'::.pointer u2'::.pointer u3'::rest)->SS w11 u1' u2' u3' tm dm (w5.setCell ⟨w11.heap.size+4,j,none⟩ (.pointer q)):=by
  intro w5 u1 u2 u3 j q u1' u2' u3' h hset;have x:Ext (XM (w11.heap.size+4)) w5 (w5.setCell ⟨w11.heap.size+4,j,none⟩ (.pointer q)):=Ext.setCell (X:=XM (w11.heap.size+4)) (Ext.refl w5) (a:=⟨w11.heap.size+4,j,none⟩) (.inl rfl) _;have hb:=h.blk.set j (.pointer q);rw [hset] at hb;exact ⟨h.ext.trans x fun b hb e=>by have:b=w11.heap.size+4:=e;omega,lt_ h.size x.size,hb,h.tmap.ext x (by simp),h.dmap.ext x (by simp),h.pmap.ext x (by simp),h.imap.ext x (by simp)⟩
 have ss51:=setq 0 q1 q1 none none ss44 (fun _=>rfl);have ss52:=setq 1 q2 q1 q2 none ss51 (fun _=>rfl);have ss53:SS w11 q1 q2 q3 tm dm (((w44.setCell (adr (w11.heap.size+4)) (.pointer q1)).setCell ((adr (w11.heap.size+4)).add 1) (.pointer q2)).setCell ((adr (w11.heap.size+4)).add 2) (.pointer q3)):=setq 2 q3 q1 q2 q3 ss52 (fun _=>rfl);refine ⟨ss44.blk.off (j:=0) (n:=1) (by simp) (q:=fun T=>(Nat.beq 40 T||false)) rfl,trivial,trivial,ss51.blk.off (j:=1) (n:=1) (by simp) (q:=fun T=>(Nat.beq 40 T||false)) rfl,trivial,trivial,ss52.blk.off (j:=2) (n:=1) (by simp) (q:=fun T=>(Nat.beq 40 T||false)) rfl,trivial,trivial,?_⟩;obtain ⟨el6,gl6⟩:=hP.len;obtain ⟨el7,gl7⟩:=hI.len;have hz53:=ss53.size;generalize (((w44.setCell (adr (w11.heap.size+4)) (.pointer q1)).setCell ((adr (w11.heap.size+4)).add 1) (.pointer q2)).setCell ((adr (w11.heap.size+4)).add 2) (.pointer q3))=w53 at ss53 hz53 ⊢;refine ⟨fun i w1=>0<=i/\i<=l6/\Ext (XM (w11.heap.size+2)) w53 w1/\∃ p3,PM w53.heap.size w1 (w11.heap.size+2) p3/\F2 (RPush (PDef (New w) w11)) (pushD wd.types (wd.possible.take i.toNat)) p3,fun i _=>((l6:Int)-i).toNat,⟨by omega,by omega,Ext.refl _,[],PM.nil ss53.pmap,.nil⟩,?_⟩;rintro i w1 ⟨h0,hi,hx,p3,pm,hf⟩;have hw1:EF w11 w1:=ss53.ext.trans hx fun b hb e=>by have:b=w11.heap.size+2:=e;omega
 refine ⟨fun hlt=>?_,fun hge=>?_⟩
 ·have hlt:=odt hlt;obtain ⟨p,x,hp,hxs,cs,hc,bn,mn,nn,rfl,hv⟩:=hP.get h0 hlt;obtain ⟨⟨_,_,hc0⟩,hcs0,⟨_,_,hc1⟩,hcs1,-⟩:=a_x.keep (kd.trans hw1.keep) (by decide) hc;have en:=hv.len;have hx62:EF w1 (w1.alloc (.cells #[.string x.name,.slice bn mn nn] 99)):=(Ext.refl w1).alloc _;refine ⟨p,hp,⟨h0,hlt⟩,_,hc0.cell,_,_,_,hc1.cell,trivial,trivial,?_⟩;refine ⟨fun j w2=>0<=j/\j<=mn/\Ext (XM (w11.heap.size+2)) w53 w2/\∃ p3,PM w53.heap.size w2 (w11.heap.size+2) p3/\F2 (RPush (PDef (New w) w11)) (pushD wd.types (wd.possible.take i.toNat)++b_W wd.types x.name (x.names.take j.toNat)) p3,fun j _=>((mn:Int)-j).toNat,⟨by omega,by omega,hx.then hx62,p3,pm.keep hx62 id fun _ _ _=>id,by simpa [b_W] using hf⟩,?_⟩;rintro j w2 ⟨j0,hj,hx2,p4,pm4,hf4⟩;have hz2:=hx2.size;have hw2:EF w11 w2:=ss53.ext.trans hx2 fun b hb e=>by have:b=w11.heap.size+2:=e;omega
  refine ⟨fun hlt2=>?_,fun hge2=>?_⟩
  ·have hlt2:=odt hlt2;intro K67 hK67;obtain ⟨pn,s,hpn,hns,cs,hd,rfl⟩:=(RStrs.keep (kd.trans hw2.keep) hv).get j0 hlt2;have blk2:=ss53.blk.ext hx2 (fun e=>by have:w11.heap.size+4=w11.heap.size+2:=e;omega);have tm2:=ss53.tmap.ext hx2 (fun e=>by have:w11.heap.size=w11.heap.size+2:=e;omega);obtain ⟨q,rq,hq⟩:=tlook tm2 hn s;have hstep:=g_v (types:=wd.types) (name:=x.name) j0 hns;refine ⟨pn,hpn,⟨j0,hlt2⟩,s,hd.1.choose_spec.2.cell,_,(blk2.at (j:=4) rfl).cell,q,rq,fun hsome=>?_,fun hnone=>hK67 _ ?_⟩
   ·cases hl:lastN Def.name wd.types s with
    | none=>
     rw [hl] at hq;have hq:q=none:=hq;rw [hq] at hsome;cases hsome
    | some d=>
     rw [hl] at hq;obtain ⟨b,rfl,hpd⟩:=hq;have hlen:=hf4.len;have hlen2:=j_x (types:=wd.types) hxs j.toNat;refine (b_6 blk2 rfl pm4 (by omega) (by omega) hz2 (by omega)).mono ?_;rintro _ w74 ⟨rfl,pm5,x5,k5⟩;refine ⟨rfl,⟨k5 _ (by decide),k5 _ (by decide),trivial⟩,hK67 _ ?_⟩;rw [a_a j0 (by omega)];refine next j0 hlt2 ⟨hx2.trans x5 fun b hb e=>?_,_,pm5,?_⟩
     ·rcases e with e|e
      ·exact e
      ·omega
     ·rw [hstep,hl,<- List.append_assoc];exact hf4.snoc ⟨rfl,hpd⟩
   ·rw [a_a j0 (by omega)];refine next j0 hlt2 ⟨hx2,p4,pm4,?_⟩
    cases hl:lastN Def.name wd.types s with
    | none=>
     rw [hstep,hl];simpa using hf4
    | some d=>
     rw [hl] at hq;obtain ⟨b,rfl,hpd⟩:=hq;cases hnone
  ·have hle2:=odf hge2;rw [tl_ (l:=x.names) (by omega)] at hf4;rw [a_a h0 (by omega)];refine next h0 hlt ⟨hx2,p4,pm4,?_⟩
   rw [h_Q h0 hxs];exact hf4
 have hle:=odf hge;rw [tl_ (by omega)] at hf;have blk9:=ss53.blk.ext hx (fun e=>by have:w11.heap.size+4=w11.heap.size+2:=e;omega);have tmap9:=ss53.tmap.ext hx (fun e=>by have:w11.heap.size=w11.heap.size+2:=e;omega);have dmap9:=ss53.dmap.ext hx (fun e=>by have:w11.heap.size+1=w11.heap.size+2:=e;omega);have imap9:=ss53.imap.ext hx (fun e=>by have:w11.heap.size+3=w11.heap.size+2:=e;omega);have hz9:=hx.size;have pm9:=pm;have hf9:=hf;have hw9:=hw1;clear hge hle h0 hi pm hf hw1;have hx9w:=hx;clear hx;obtain ⟨w9,hw9e⟩:∃ w9,w9=w1:=⟨w1,rfl⟩;subst hw9e;refine ⟨fun i w1=>0<=i/\i<=l7/\Ext (XM (w11.heap.size+3)) w9 w1/\∃ p3,PM w9.heap.size w1 (w11.heap.size+3) p3/\F2 (RPush (PDef (New w) w11)) (pushD wd.types (wd.implements.take i.toNat)) p3,fun i _=>((l7:Int)-i).toNat,⟨by omega,by omega,Ext.refl _,[],PM.nil imap9,.nil⟩,?_⟩;rintro i w1 ⟨h0,hi,hx,p3,pm,hf⟩;have hw1:EF w11 w1:=hw9.trans hx fun b hb e=>by have:b=w11.heap.size+3:=e;omega
 refine ⟨fun hlt=>?_,fun hge=>?_⟩
 ·have hlt:=odt hlt;obtain ⟨p,x,hp,hxs,cs,hc,bn,mn,nn,rfl,hv⟩:=hI.get h0 hlt;obtain ⟨⟨_,_,hc0⟩,hcs0,⟨_,_,hc1⟩,hcs1,-⟩:=a_x.keep (kd.trans hw1.keep) (by decide) hc;have en:=hv.len;have hx62:EF w1 (w1.alloc (.cells #[.string x.name,.slice bn mn nn] 99)):=(Ext.refl w1).alloc _;refine ⟨p,hp,⟨h0,hlt⟩,_,hc0.cell,_,_,_,hc1.cell,trivial,trivial,?_⟩;refine ⟨fun j w2=>0<=j/\j<=mn/\Ext (XM (w11.heap.size+3)) w9 w2/\∃ p3,PM w9.heap.size w2 (w11.heap.size+3) p3/\F2 (RPush (PDef (New w) w11)) (pushD wd.types (wd.implements.take i.toNat)++b_W wd.types x.name (x.names.take j.toNat)) p3,fun j _=>((mn:Int)-j).toNat,⟨by omega,by omega,hx.then hx62,p3,pm.keep hx62 id fun _ _ _=>id,by simpa [b_W] using hf⟩,?_⟩;rintro j w2 ⟨j0,hj,hx2,p4,pm4,hf4⟩;have hz2:=hx2.size;have hw2:EF w11 w2:=hw9.trans hx2 fun b hb e=>by have:b=w11.heap.size+3:=e;omega
  refine ⟨fun hlt2=>?_,fun hge2=>?_⟩
  ·have hlt2:=odt hlt2;intro K67 hK67;obtain ⟨pn,s,hpn,hns,cs,hd,rfl⟩:=(RStrs.keep (kd.trans hw2.keep) hv).get j0 hlt2;have blk2:=blk9.ext hx2 (fun e=>by have:w11.heap.size+4=w11.heap.size+3:=e;omega);have tm2:=tmap9.ext hx2 (fun e=>by have:w11.heap.size=w11.heap.size+3:=e;omega);obtain ⟨q,rq,hq⟩:=tlook tm2 hn s;have hstep:=g_v (types:=wd.types) (name:=x.name) j0 hns;refine ⟨pn,hpn,⟨j0,hlt2⟩,s,hd.1.choose_spec.2.cell,_,(blk2.at (j:=4) rfl).cell,q,rq,fun hsome=>?_,fun hnone=>hK67 _ ?_⟩
   ·cases hl:lastN Def.name wd.types s with
    | none=>
     rw [hl] at hq;have hq:q=none:=hq;rw [hq] at hsome;cases hsome
    | some d=>
     rw [hl] at hq;obtain ⟨b,rfl,hpd⟩:=hq;have hlen:=hf4.len;have hlen2:=j_x (types:=wd.types) hxs j.toNat;refine (c_l blk2 rfl pm4 (by omega) (by omega) hz2 (by omega)).mono ?_;rintro _ w74 ⟨rfl,pm5,x5,k5⟩;refine ⟨rfl,⟨k5 _ (by decide),k5 _ (by decide),trivial⟩,hK67 _ ?_⟩;rw [a_a j0 (by omega)];refine next j0 hlt2 ⟨hx2.trans x5 fun b hb e=>?_,_,pm5,?_⟩
     ·rcases e with e|e
      ·exact e
      ·omega
     ·rw [hstep,hl,<- List.append_assoc];exact hf4.snoc ⟨rfl,hpd⟩
   ·rw [a_a j0 (by omega)];refine next j0 hlt2 ⟨hx2,p4,pm4,?_⟩
    cases hl:lastN Def.name wd.types s with
    | none=>
     rw [hstep,hl];simpa using hf4
    | some d=>
     rw [hl] at hq;obtain ⟨b,rfl,hpd⟩:=hq;cases hnone
  ·have hle2:=odf hge2;rw [tl_ (l:=x.names) (by omega)] at hf4;rw [a_a h0 (by omega)];refine next h0 hlt ⟨hx2,p4,pm4,?_⟩
   rw [h_Q h0 hxs];exact hf4
 have hle:=odf hge;rw [tl_ (by omega)] at hf;have fin9:Ext (XM (w11.heap.size+3)) w9 w1:=hx;have kD:Keeps (New w) (New w) w11 w1:=hw1.keeps (fun b hb _=>hb) fun _ _ _=>id;refine ⟨w11.heap.size+4,rfl,d11'.then hw1,w11.heap.size,w11.heap.size+1,w11.heap.size+2,w11.heap.size+3,w11.heap.size+5,q1,q2,q3,tm,dm,_,p3,by show w.heap.size<=_;omega,by show w.heap.size<=_;omega,by show w.heap.size<=_;omega,by show w.heap.size<=_;omega,by show w.heap.size<=_;omega,
  fun b hb=>by show w.heap.size<=b;omega,blk9.ext hx (fun e=>by have:w11.heap.size+4=w11.heap.size+3:=e;omega),tmap9.ext hx (fun e=>by have:w11.heap.size=w11.heap.size+3:=e;omega),dmap9.ext hx (fun e=>by have:w11.heap.size+1=w11.heap.size+3:=e;omega),
  (pm9.keep hx (fun e=>by have:w11.heap.size+2=w11.heap.size+3:=e;omega) fun b hb _ e=>by have:b=w11.heap.size+3:=e;omega).weaken (by omega),pm.weaken (by omega),fun k=>(hn k).mono fun _ _=>PDef.keep kD,fun k=>(hnd k).mono fun _ _=>a_Q.keep kD,hq1.mono fun _ _=>PDef.keep kD,hq2.mono fun _ _=>PDef.keep kD,hq3.mono fun _ _=>PDef.keep kD,
  hf9.mono fun _ _ h=>⟨h.1,PDef.keep kD h.2⟩,hf.mono fun _ _ h=>⟨h.1,PDef.keep kD h.2⟩⟩
end Go.VC
namespace Go.VC
open Go Go.Proofs
abbrev l_1:BA:=⟨#[70,73,69,76,68]⟩
abbrev j_0:BA:=⟨#[73,78,76,73,78,69,95,70,82,65,71,77,69,78,84]⟩
abbrev h_9:BA:=⟨#[70,82,65,71,77,69,78,84,95,83,80,82,69,65,68]⟩
abbrev d_z:BA:=⟨#[70,82,65,71,77,69,78,84,95,68,69,70,73,78,73,84,73,79,78]⟩
abbrev d_Y:BA:=⟨#[86,65,82,73,65,66,76,69,95,68,69,70,73,78,73,84,73,79,78]⟩
abbrev bQLoc:BA:=⟨#[81,85,69,82,89]⟩
abbrev bMLoc:BA:=⟨#[77,85,84,65,84,73,79,78]⟩
abbrev bSLoc:BA:=⟨#[83,85,66,83,67,82,73,80,84,73,79,78]⟩
def opLoc (k:BA):BA:=if k=a_5∨k=E0 then bQLoc else if k=bMut then bMLoc else if k=bSub then bSLoc else E0
abbrev bTn:BA:=⟨#[95,95,116,121,112,101,110,97,109,101]⟩
abbrev bStr:BA:=⟨#[83,116,114,105,110,103]⟩
def a_h {α:Type}(nm:α->BA)(l:List α)(k:BA):Option α:=l.find? fun d=>decide (nm d=k)
def isFr (fs:List Frag)(n:BA):Bool:=(fs.find? fun f=>decide (f.name=n)).isSome
variable [DB]
theorem c_h {α:Type}{nm:α->BA}{xs:List α}{i:Int}{x:α}{k:BA}(h0:0<=i)(h:a_h nm (xs.take i.toNat) k=none)(hx:xs[i.toNat]? =some x)(hq:nm x≠k):a_h nm (xs.take (i+1).toNat) k=none:=
 g_h h0 h hx (by simp [hq])
theorem c_J {α:Type}{nm:α->BA}{xs:List α}{i:Nat}{x:α}{k:BA}(h:a_h nm (xs.take i) k=none)(hx:xs[i]? =some x)(hq:nm x=k):a_h nm xs k=some x:=i_q h hx (by simp [hq])
theorem a_U {α:Type}{nm:α->BA}{xs:List α}{x:α}{k:BA}(h:a_h nm xs k=some x):x∈xs/\nm x=k:=⟨List.mem_of_find?_eq_some h,by simpa using List.find?_some h⟩
theorem g_m {α:Type}{nm:α->BA}{xs:List α}{x:α}{k:BA}(h:lastN nm xs k=some x):x∈xs:=(List.mem_filter.1 (List.mem_of_getLast? h)).1
theorem n_J {l:List Sel}{i:Int}{x:Sel}(h0:0<=i)(hx:l[i.toNat]? =some x):spL (l.take (i+1).toNat)=spL (l.take i.toNat)++spS x:=by
 have h1:∀ a b,spL (a++b)=spL a++spL b:=by
  intro a b;induction a with
  | nil=>rfl
  | cons s a ih=>simp [spL,ih]
 rw [show (i+1).toNat=i.toNat+1 by omega,List.take_succ,hx,h1];simp [spL]
inductive Rch (fs:List Frag) (ks:List Sel):BA->Prop
 | base {n:BA}:n∈spL ks->isFr fs n=true->Rch fs ks n
 | step {n m:BA} {f:Frag}:Rch fs ks n->a_h Frag.name fs n=some f->m∈spL f.kids->isFr fs m=true->Rch fs ks m
end Go.VC
namespace Go.VC
open Go
mutual
def valW:Val->Nat
 | .mk _ _ kids=>1+kidsW kids
def kidsW:List (BA × Val)->Nat
 | []=>0
 | x::l=>1+valW x.2+kidsW l
end
theorem j_p:∀ l:List (BA × Val),kidsW l=(l.map fun x=>1+valW x.2).sum
 | []=>rfl
 | x::l=>by simp [kidsW,j_p l]
mutual
def typW:Typ->Nat
 | .mk n el _=>1+n.size+typsW el
def typsW:List Typ->Nat
 | []=>0
 | t::l=>typW t+typsW l
end
theorem j_U:∀ l:List Typ,typsW l=(l.map typW).sum
 | []=>rfl
 | t::l=>by simp [typsW,j_U l]
def valsW (l:List Val):Nat:=(l.map valW).sum
def argW (x:Argm):Nat:=1+valW x.v
def argsW (l:List Argm):Nat:=(l.map argW).sum
def dirW (x:Dir):Nat:=1+argsW x.args
def dirsW (l:List Dir):Nat:=(l.map dirW).sum
mutual
def selW:Sel->Nat
 | .mk _ _ _ _ args dirs kids=>1+argsW args+dirsW dirs+selsW kids
def selsW:List Sel->Nat
 | []=>0
 | s::l=>selW s+selsW l
end
theorem e_P:∀ l:List Sel,selsW l=(l.map selW).sum
 | []=>rfl
 | s::l=>by simp [selsW,e_P l]
def varW (x:VarD):Nat:=1+typW x.t+valsW x.dflt+dirsW x.dirs
def varsW (l:List VarD):Nat:=(l.map varW).sum
def opW (x:OpD):Nat:=1+varsW x.vars+dirsW x.dirs+selsW x.kids
def fragW (x:Frag):Nat:=1+dirsW x.dirs+selsW x.kids
def docW (ops:List OpD)(frags:List Frag):Nat:=(ops.map opW).sum+(frags.map fragW).sum
mutual
theorem p_b:∀ s:Sel,selS s<=selW s
 | .mk k al n on args dirs kids=>by
  have:=l_h kids;simp only [selS,selW];omega
theorem l_h:∀ l:List Sel,selL l<=selsW l
 | []=>Nat.le_refl _
 | s::l=>by
  have h1:=p_b s;have h2:=l_h l;simp only [selL,selsW];omega
end
theorem k_F {α:Type}{f g:α->Nat}:∀ {l:List α},(∀ x∈l,f x<=g x)->(l.map f).sum<=(l.map g).sum
 | [],_=>Nat.le_refl _
 | x::l,h=>by
  have h1:=h x (by simp);have h2:=k_F (l:=l) (f:=f) (g:=g) fun y hy=>h y (by simp [hy]);simp only [List.map_cons,List.sum_cons];omega
theorem f_I {α:Type}{f:α->Nat}:∀ {l:List α},(∀ x∈l,1<=f x)->l.length<=(l.map f).sum
 | [],_=>Nat.le_refl _
 | x::l,h=>by
  have h1:=h x (by simp);have h2:=f_I (l:=l) (f:=f) fun y hy=>h y (by simp [hy]);simp only [List.map_cons,List.sum_cons,List.length_cons];omega
theorem n_O (ops:List OpD)(frags:List Frag):e_O ops frags+(ops.map fun x=>x.vars.length).sum<=docW ops frags:=by
 have h1:∀ l:List OpD,(l.map fun x=>selL x.kids).sum+(l.map fun x=>x.vars.length).sum<=(l.map opW).sum:=fun l=>by
  induction l with
  | nil=>exact Nat.le_refl _
  | cons x r ih=>
   have h2:=l_h x.kids;have h3:x.vars.length<=varsW x.vars:=f_I fun y _=>by simp only [varW];omega
   simp only [List.map_cons,List.sum_cons,opW];omega
 have h2:(frags.map fun x=>selL x.kids).sum<=(frags.map fragW).sum:=k_F fun x _=>by
  have:=l_h x.kids;simp only [fragW];omega
 have:=h1 ops;unfold e_O docW;omega
end Go.VC
namespace Go.VC
open Go Go.Proofs
variable [DB]
theorem e_Z {α:Type}{l:List α}{x:α}:(l++[x]).Nodup↔l.Nodup/\x∉l:=by
 rw [List.nodup_append];simp;intro _;constructor
 ·intro h hx;exact h x hx rfl
 ·intro h a ha e;exact h (e▸ha)
theorem f_N {α:Type}(f:α->Nat)(k:Nat):∀ xs:List α,(xs.map fun x=>f x+k).sum=(xs.map f).sum+xs.length*k
 | []=>by simp
 | x::xs=>by
  simp only [List.map_cons,List.sum_cons,List.length_cons,f_N f k xs,Nat.add_mul];omega
theorem c_0 {α:Type}{f g:α->Nat}:∀ {xs:List α},(∀ x∈xs,f x<=g x)->(xs.map f).sum<=(xs.map g).sum
 | [],_=>Nat.le_refl _
 | x::xs,h=>by
  have h1:=h x (by simp);have h2:=c_0 (xs:=xs) fun y hy=>h y (by simp [hy]);simp only [List.map_cons,List.sum_cons];omega
mutual
def condS:Sel->List BA
 | .mk k al n on args dirs kids=>(if k=2/\on≠E0 then [on] else [])++condL kids
def condL:List Sel->List BA
 | []=>[]
 | s::l=>condS s++condL l
end
def onS:Sel->BA
 | .mk _ _ _ on _ _ _=>on
end Go.VC
