/- Part of the proof of a law of a rule over documents (SpecA), where what the arguments hold is of bulk at most 1048576. -/
import Derived.Test.YtmnhdjhlcgfpkaaGreatLexB
import Derived.Test.YtmnhdjhlcgfpkaaGreatBaseC
import Derived.Test.YtmnhdjhlcgfpkaaGreatTextC
import Derived.Test.YtmnhdjhlcgfpkaaGreatTextE
set_option linter.unusedVariables false
set_option linter.unusedSimpArgs false
set_option linter.unusedSectionVars false
set_option linter.deprecated false
namespace Go.VC
open Go Go.Proofs
variable [DB]
variable {α:Type}{xs:List Sel}{c l l':Nat}{a:OA}{w:World}
abbrev E0:BA:=⟨#[]⟩
mutual
def okVal:Val->Prop
 | .mk k _ kids=>0<=k/\k<=9/\h_O kids/\(k=9->∀ x∈kids,x.1≠E0)/\(k<8->kids=[])
def h_O:List (BA × Val)->Prop
 | []=>True
 | (_,v)::l=>okVal v/\h_O l
end
theorem e_3:∀ {l:List (BA × Val)},h_O l↔∀ x∈l,okVal x.2
 | []=>by simp [h_O]
 | (n,v)::l=>by simp [h_O,e_3 (l:=l)]
mutual
def fixV:Val->Prop
 | .mk k _ kids=>k≠0/\fixK kids
def fixK:List (BA × Val)->Prop
 | []=>True
 | (_,v)::l=>fixV v/\fixK l
end
theorem q_x:∀ {l:List (BA × Val)},fixK l↔∀ x∈l,fixV x.2
 | []=>by simp [fixK]
 | (n,v)::l=>by simp [fixK,q_x (l:=l)]
def okF (fixed:Bool)(v:Val):Prop:=okVal v/\(fixed=true->fixV v)
def okTyp:Typ->Prop
 | .mk n [] _=>n≠E0
 | .mk n [t] _=>n=E0/\okTyp t
 | _=>False
def e_E (l:List Argm):Prop:=∀ x∈l,x.name≠E0/\okVal x.v
def b_4 (l:List Dir):Prop:=∀ x∈l,e_E x.args
def g_t (l:List Val):Prop:=l.length<=1/\∀ x∈l,okVal x
theorem nm9 {k:Int}{b:Bool}(h:((k==9) !=b)=false)(e:k=9):b=true:=by
 subst e;cases b<;>simp_all
theorem g_X (k:Int)(r:BA)(kids:List (BA × Val))
  (IH:∀ y∈kids,∀ (k:Int) (r:BA) (a:OA) (l c:Nat) (fixed:Bool) (deep:Int) (w:World),r.size<=4194304->RVal w y.2 k r a l c->
   CP 194 #[.agg #[.int .i64 k,.string r,.slice a l c],.bool fixed,.int .i64 deep] w (RetB w fun b=>b=true->okF fixed y.2))
  (a:OA) (l c:Nat) (fixed:Bool) (deep:Int) (w:World) (hr:r.size<=4194304) (hl:SlL w 256 4 (RKid w) a l c kids):
  CP 194 #[.agg #[.int .i64 k,.string r,.slice a l c],.bool fixed,.int .i64 deep] w (RetB w fun b=>b=true->okF fixed (.mk k r kids)):=by
 obtain ⟨e1,e3⟩:=hl.len;refine m_H k r a l c fixed deep w _ ⟨trivial,fun K7 hK7=>?_⟩;have h6:EF w (w.alloc (.cells #[.int .i64 k,.string r,.slice a l c] 115)):=(Ext.refl w).alloc _;have hl0:∀ hk:(decide (k<8))=false∨(decide ((l:Int)>0))=false,k<8->kids=[]:=by
  intro hk hk8;rcases hk with hk|hk
  ·simp at hk;omega
  ·simp at hk;exact List.length_eq_zero_iff.1 (by omega)
 have key:∀ b w',EF w w'->(b=false->k<8->kids=[])->K7 b w':=by
  intro b8 w9 hx9 hkk;refine hK7 b8 w9 ⟨fun _=>⟨false,rfl,hx9,nofun⟩,fun hb8=>?_⟩;have hnil:=hkk hb8;have ok0:0<=k->k<8->(fixed=true->k≠0)->okF fixed (.mk k r kids):=fun h h' hf=>by
   rw [hnil h'];exact ⟨⟨h,by omega,trivial,by simp,fun _=>rfl⟩,fun e=>⟨hf e,trivial⟩⟩
  refine ⟨fun h0=>?_,fun h0=>?_⟩
  ·have h0:k=0:=by simpa using h0
   intro K hK;have hK':∀ b w',EF w w'->(b=true->fixed=false)->K b w':=fun b w' hx hf=>hK b w' ⟨b,rfl,hx,fun hb=>ok0 (by omega) (by omega) fun h=>by rw [hf hb] at h;cases h⟩;refine ⟨fun hfx=>(a_B r hr w9).mono ?_,fun _=>hK' _ _ hx9 nofun⟩;rintro _ w2 ⟨b,rfl,hx2,-⟩;exact ⟨b,rfl,⟨hx2.keepT _,trivial⟩,hK' _ _ (hx9.then hx2) fun _=>by simpa using hfx⟩
  ·have hk0:fixed=true->k≠0:=fun _ e=>by simp [e] at h0
   intro K16 hK16;have key16:∀ b w',EF w w'->(b=true->0<=k/\k<8)->K16 b w':=by
    intro b17 w18 hx18 hk17;refine hK16 b17 w18 ⟨fun hb=>?_,fun hb=>?_⟩
    ·refine (l_u r hr _ w18).mono ?_;rintro _ w2 ⟨b,rfl,hx2,-⟩;exact ⟨b,rfl,⟨hx2.keepT _,trivial⟩,b,rfl,hx18.then hx2,fun _=>ok0 (hk17 hb).1 (hk17 hb).2 hk0⟩
    ·refine ⟨fun h3=>?_,fun h3=>⟨fun h4=>?_,fun h4=>?_⟩⟩
     ·have h3:k=3:=by simpa using h3
      refine (o_O r hr w18).mono ?_;rintro _ w2 ⟨b,rfl,hx2,-⟩;exact ⟨b,rfl,⟨hx2.keepT _,trivial⟩,b,rfl,hx18.then hx2,fun _=>ok0 (by omega) (by omega) hk0⟩
     ·have h4:k=4:=by simpa using h4
      refine (h_y r hr w18).mono ?_;rintro _ w2 ⟨b,rfl,hx2,-⟩;exact ⟨b,rfl,⟨hx2.keepT _,trivial⟩,b,rfl,hx18.then hx2,fun _=>ok0 (by omega) (by omega) hk0⟩
     ·intro K28 hK28;have key28:∀ b,(b=true->0<=k/\k<8)->K28 b w18:=by
       intro b29 hk29;refine hK28 b29 w18 ⟨fun hb=>?_,fun hb=>?_⟩
       ·intro K31 hK31;have key31:∀ b w',EF w w'->K31 b w':=fun b w' hx=>hK31 b w' ⟨b,rfl,hx,fun _=>ok0 (hk29 hb).1 (hk29 hb).2 hk0⟩;rintro w34 rfl;refine (a_B r hr _).mono ?_;rintro _ w2 ⟨b,rfl,hx2,-⟩;refine ⟨b,rfl,⟨hx2.keepT _,trivial⟩,trivial,fun _=>(h_A r w2).mono ?_,fun _=>⟨trivial,key31 _ _ (hx18.drew.then hx2)⟩⟩;rintro _ w3 ⟨n,rfl,rfl⟩;exact ⟨n,rfl,⟨(Ext.refl _).keepT _,trivial⟩,⟨rfl,trivial⟩,trivial,key31 _ _ (hx18.drew.then hx2)⟩
       ·intro K41 hK41;have key41:∀ b,(b=true->k=8∨k=9)->K41 b w18:=by
         intro b42 hk42;refine hK41 b42 w18 ⟨fun hb42=>?_,fun _=>⟨false,rfl,hx18,nofun⟩⟩;have hk42:=hk42 hb42;refine ⟨fun i w'=>0<=i/\i<=l/\EF w w'/\∀ y∈kids.take i.toNat,okF fixed y.2/\(k=9->y.1≠E0),fun i _=>((l:Int)-i).toNat,⟨by omega,by omega,hx18,by simp⟩,?_⟩;rintro i w47 ⟨h0,h1,hx,hn⟩;refine ⟨fun hlt=>?_,fun hge=>⟨_,rfl,hx,fun _=>⟨⟨by omega,by omega,e_3.2 fun y hy=>(a_o e1 hge hn y hy).1.1,fun h9 y hy=>(a_o e1 hge hn y hy).2 h9,fun h8=>by omega⟩,fun hf=>⟨hk0 hf,q_x.2 fun y hy=>(a_o e1 hge hn y hy).1.2 hf⟩⟩⟩⟩;have hlt:=odt hlt;obtain ⟨p,y,hp,hys,cs,hc,k',r',a',l',c',rfl,hv⟩:=hl.get h0 hlt;obtain ⟨⟨_,_,hc0⟩,hs0,⟨_,_,hc1⟩,-, ⟨_,_,hc2⟩,hs2,⟨_,_,hc3⟩,-, -⟩:=hc;refine ⟨p,hp,⟨h0,hlt⟩,y.1,hx.cell hc0 id,k',hx.cell hc1 id,r',hx.cell hc2 id,a',l',c',hx.cell hc3 id,trivial,trivial,fun K55 hK55=>?_⟩;have key55:∀ b w',EF w w'->(b=false->okF fixed y.2/\(k=9->y.1≠E0))->K55 b w':=fun b w' hx' hy=>hK55 b w' ⟨fun _=>⟨false,rfl,hx',nofun⟩,fun hb=>by
          rw [a_a h0 (by omega)];exact next h0 hlt ⟨hx',a_g h0 hn hys (hy hb)⟩⟩
         rintro w58 rfl;refine (a_B y.1 hs0 _).mono ?_;rintro _ w60 ⟨b61,rfl,hx60,hnm⟩;have hw60:EF w w60:=((hx.alloc _).drew).then hx60;have call:(k=9->b61=true)->∀ (dp:Int),CP 194 #[.agg #[.int .i64 k',.string r',.slice a' l' c'],.bool fixed,.int .i64 dp] w60 (fun e w63=>∃ b64:Bool,e=.returned (.bool b64)/\(KeepT 115 w60 w63/\KeepT 256 w60 w63/\True)/\True/\K55 (!b64) w63):=by
          intro h9 dp;refine (IH y (mg_ hys) k' r' a' l' c' fixed dp w60 hs2 (hv.keep hw60.keep)).mono ?_;rintro _ w63 ⟨b64,rfl,hx63,hb⟩;exact ⟨b64,rfl,⟨hx63.keepT _,hx63.keepT _,trivial⟩,trivial,key55 _ _ (hw60.then hx63) fun h=>⟨hb (by simpa using h),fun e=>hnm (h9 e)⟩⟩
         refine ⟨b61,rfl,⟨hx60.keepT _,hx60.keepT _,trivial⟩,⟨rfl,trivial⟩,fun _=>key55 _ _ hw60 nofun,fun hne=>?_⟩;have h9:k=9->b61=true:=nm9 hne;exact ⟨fun _=>⟨fun _=>key55 _ _ hw60 nofun,fun _=>call h9 _⟩,fun _=>call h9 _⟩
        refine ⟨fun h8=>key41 _ fun _=>.inl (by simpa using h8),fun _=>key41 _ fun h9=>.inr (by simpa using h9)⟩
      refine ⟨fun h5=>key28 _ fun _=>?_,fun _=>⟨fun h6=>key28 _ fun _=>?_,fun _=>key28 _ fun h7=>?_⟩⟩
      ·have:k=5:=by simpa using h5
       omega
      ·have:k=6:=by simpa using h6
       omega
      ·have:k=7:=by simpa using h7
       omega
   refine ⟨fun h1=>key16 _ _ hx9 fun _=>?_,fun _=>key16 _ _ hx9 fun h2=>?_⟩
   ·have:k=1:=by simpa using h1
    omega
   ·have:k=2:=by simpa using h2
    omega
 refine ⟨fun _=>⟨fun hk=>key _ _ h6 fun hb _=>hl0 (.inr hb) (odt hk),fun hk=>key _ _ h6 fun _=>hl0 (.inl hk)⟩,fun _=>key _ _ h6 nofun⟩
mutual
theorem p_Z:∀ (x:Val) (k:Int) (r:BA) (a:OA) (l c:Nat) (fixed:Bool) (deep:Int) (w:World),r.size<=4194304->RVal w x k r a l c->
  CP 194 #[.agg #[.int .i64 k,.string r,.slice a l c],.bool fixed,.int .i64 deep] w (RetB w fun b=>b=true->okF fixed x)
 | .mk k r kids,k',r',a,l,c,fixed,deep,w,hr,h=>by
  obtain ⟨rfl,rfl,hl⟩:=e_U.1 h;exact g_X k' r' kids (fun y hy=>c321s kids y hy) a l c fixed deep w hr hl
theorem c321s:∀ (kids:List (BA × Val)) (y:BA × Val),y∈kids->∀ (k:Int) (r:BA) (a:OA) (l c:Nat) (fixed:Bool) (deep:Int) (w:World),r.size<=4194304->RVal w y.2 k r a l c->
  CP 194 #[.agg #[.int .i64 k,.string r,.slice a l c],.bool fixed,.int .i64 deep] w (RetB w fun b=>b=true->okF fixed y.2)
 | (n,v)::l,y,hy=>by
  rcases mc_.1 hy with e|hy
  ·rw [e];exact p_Z v
  ·exact c321s l y hy
end
theorem RetB.weak {Q Q':Bool->Prop}{f:FuncId}{args:Array Value}(h:CP f args w (RetB w Q))(hq:∀ b,Q b->Q' b):CP f args w (RetB w Q'):=h.mono (by
 rintro _ w' ⟨b,rfl,hx,hb⟩;exact ⟨b,rfl,hx,hq b hb⟩)
def okAF (fixed:Bool)(l:List Argm):Prop:=∀ x∈l,x.name≠E0/\okF fixed x.v
theorem p_4 {xs:List Argm}(fixed:Bool)(deep:Int)(hl:c_1 w a l c xs):
  CP 155 #[.slice a l c,.bool fixed,.int .i64 deep] w (RetB w fun b=>b=true->okAF fixed xs):=by
 obtain ⟨e1,e3⟩:=hl.len;refine l_M a l c fixed deep w _ ⟨fun i w1=>0<=i/\i<=l/\EF w w1/\∀ s∈xs.take i.toNat,s.name≠E0/\okF fixed s.v,fun i _=>((l:Int)-i).toNat,⟨by omega,by omega,Ext.refl w,by simp⟩,?_⟩;rintro i w1 ⟨h0,h1,hx,hn⟩;refine ⟨fun hlt=>?_,fun hge=>⟨true,rfl,hx,fun _=>a_o e1 hge hn⟩⟩;have hlt:=odt hlt;obtain ⟨p,x,hp,hxs,cs,hc,k,r,a',l',c',rfl,hv⟩:=hl.get h0 hlt;obtain ⟨⟨_,_,hc0⟩,hs0,⟨_,_,hc1⟩,hs1,⟨_,_,hc2⟩,hs2,⟨_,_,hc3⟩,-⟩:=hc;refine ⟨p,hp,⟨h0,hlt⟩,_,hx.cell hc0 id,_,hx.cell hc1 id,_,hx.cell hc2 id,_,_,_,hx.cell hc3 id,trivial,trivial,fun K hK=>?_⟩;have hx':=hx.alloc (.cells #[.string x.name,.int .i64 k,.string r,.slice a' l' c'] 253);have key:∀ b w',EF w w'->(b=false->x.name≠E0/\okF fixed x.v)->K b w':=fun b w' hx' hy=>hK b w' ⟨fun _=>⟨false,rfl,hx',nofun⟩,fun hb=>by
  rw [a_a h0 (by omega)];exact next h0 hlt ⟨hx',a_g h0 hn hxs (hy hb)⟩⟩
 replace hs0:x.name.size<=4194304:=hs0;replace hs2:r.size<=4194304:=hs2
 repeat' first
  | exact trivial
  | exact ⟨rfl,trivial⟩
  | exact key _ _ (by assumption) tf
  | exact key _ _ (by assumption) (by intro _;refine ⟨?_,?_⟩<;>(simp_all;done))
  | (refine (RetB.base (a_B _ (by assumption) _) (by assumption)).mono ?_;rintro _ _ ⟨b,rfl,hk,hx,hb⟩;refine ⟨b,rfl,by simp [hk],?_⟩)
  | (refine (RetB.base (p_Z x.v _ _ _ _ _ _ _ _ (by assumption) (RVal.keep (Ext.keep (by assumption)) (by assumption))) (by assumption)).mono ?_;rintro _ _ ⟨b,rfl,hk,hx,hb⟩;refine ⟨b,rfl,by simp [hk],?_⟩)
  | refine And.intro ?_ ?_
  | intro _
theorem h_z {xs:List Argm}(fixed:Bool)(deep:Int)(hl:c_1 w a l c xs):
  CP 155 #[.slice a l c,.bool fixed,.int .i64 deep] w (RetB w fun b=>b=true->e_E xs):=RetB.weak (p_4 fixed deep hl) fun b h hb x hx=>⟨(h hb x hx).1,(h hb x hx).2.1⟩
theorem p_5 {xs:List Dir}(fixed:Bool)(deep:Int)(hl:RDirs w a l c xs):
  CP 100 #[.slice a l c,.bool fixed,.int .i64 deep] w (RetB w fun b=>b=true->∀ x∈xs,okAF fixed x.args):=by
 obtain ⟨e1,e3⟩:=hl.len;refine l_N a l c fixed deep w _ ⟨fun i w1=>0<=i/\i<=l/\EF w w1/\∀ s∈xs.take i.toNat,okAF fixed s.args,fun i _=>((l:Int)-i).toNat,⟨by omega,by omega,Ext.refl w,by simp⟩,?_⟩;rintro i w1 ⟨h0,h1,hx,hn⟩;refine ⟨fun hlt=>?_,fun hge=>⟨true,rfl,hx,fun _=>a_o e1 hge hn⟩⟩;have hlt:=odt hlt;obtain ⟨p,x,hp,hxs,cs,hc,a',l',c',rfl,hv⟩:=hl.get h0 hlt;obtain ⟨⟨_,_,hc0⟩,hs0,⟨_,_,hc1⟩,-⟩:=hc;refine ⟨p,hp,⟨h0,hlt⟩,_,hx.cell hc0 id,_,_,_,hx.cell hc1 id,trivial,trivial,fun K hK=>?_⟩;have hx':=hx.alloc (.cells #[.string x.name,.slice a' l' c'] 87);have key:∀ b w',EF w w'->(b=false->okAF fixed x.args)->K b w':=fun b w' hx' hy=>hK b w' ⟨fun _=>⟨false,rfl,hx',nofun⟩,fun hb=>by
  rw [a_a h0 (by omega)];exact next h0 hlt ⟨hx',a_g h0 hn hxs (hy hb)⟩⟩
 replace hs0:x.name.size<=4194304:=hs0
 repeat' first
  | exact trivial
  | exact ⟨rfl,trivial⟩
  | exact key _ _ (by assumption) tf
  | exact key _ _ (by assumption) (by simpa using hb)
  | (refine (RetB.base (a_B _ (by assumption) _) (by assumption)).mono ?_;rintro _ _ ⟨b,rfl,hk,hx,hb⟩;refine ⟨b,rfl,by simp [hk],?_⟩)
  | (refine (RetB.base (p_4 _ _ (c_1.keep (Ext.keep (by assumption)) (by assumption))) (by assumption)).mono ?_;rintro _ _ ⟨b,rfl,hk,hx,hb⟩;refine ⟨b,rfl,by simp [hk],?_⟩)
  | refine And.intro ?_ ?_
  | intro _
theorem b_b {xs:List Dir}(fixed:Bool)(deep:Int)(hl:RDirs w a l c xs):
  CP 100 #[.slice a l c,.bool fixed,.int .i64 deep] w (RetB w fun b=>b=true->b_4 xs):=RetB.weak (p_5 fixed deep hl) fun b h hb d hd x hx=>⟨(h hb d hd x hx).1,(h hb d hd x hx).2.1⟩
theorem e_B {xs:List α}(e:l=xs.length)(h:((l:Int)==0)=true):xs=[]:=by
 have:(l:Int)=0:=by simpa using h
 exact List.length_eq_zero_iff.1 (by omega)
theorem m_r {xs:List α}(e:l=xs.length)(h:((l:Int)==1)=true):∃ x,xs=[x]:=by
 have:(l:Int)=1:=by simpa using h
 exact List.length_eq_one_iff.1 (by omega)
theorem g_W (n:BA)(el:List Typ)(nn:Bool)
  (IH:∀ y∈el,∀ (n:BA) (a:OA) (l c:Nat) (nn:Bool) (deep:Int) (w:World),n.size<=4194304->RTyp w y n a l c nn->
   CP 153 #[.agg #[.string n,.slice a l c,.bool nn],.int .i64 deep] w (RetB w fun b=>b=true->okTyp y))
  (a:OA) (l c:Nat) (deep:Int) (w:World) (hn:n.size<=4194304) (hl:SlL w 63 3 (RTypE w) a l c el):
  CP 153 #[.agg #[.string n,.slice a l c,.bool nn],.int .i64 deep] w (RetB w fun b=>b=true->okTyp (.mk n el nn)):=by
 obtain ⟨e1,e3⟩:=hl.len;have hx:=(Ext.refl (X:=fun _=>False) w).alloc (.cells #[.string n,.slice a l c,.bool nn] 63);refine m_G n a l c nn deep w _ ⟨trivial,fun h0=>?_,fun h0 K hK=>?_⟩
 ·have:=e_B e1 h0;subst this;refine (RetB.base (a_B n hn _) hx).mono ?_;rintro _ w2 ⟨b,rfl,hk,hx2,hb⟩;exact ⟨b,rfl,by simp [hk],b,rfl,hx2,hb⟩
 ·have key:∀ b w',EF w w'->(b=true->okTyp (.mk n el nn))->K b w':=fun b w' hx' hy=>hK b w' ⟨b,rfl,hx',hy⟩;refine ⟨fun _=>⟨fun h1=>⟨fun hne=>?_,fun _=>key _ _ hx (by intro hh;cases hh)⟩,fun _=>key _ _ hx (by intro hh;cases hh)⟩,fun _=>key _ _ hx (by intro hh;cases hh)⟩;obtain ⟨y,rfl⟩:=m_r e1 h1;have hlt:(0:Int)<(l:Int):=by simp at e1;omega
  obtain ⟨p,x,hp,hxs,cs,hc,n',a',l',c',nn',rfl,hv⟩:=hl.get (Int.le_refl 0) hlt;obtain ⟨⟨_,_,hc0⟩,hs0,⟨_,_,hc1⟩,hs1,⟨_,_,hc2⟩,-⟩:=hc;obtain rfl:y=x:=by simpa using hxs
  refine ⟨p,hp,⟨Int.le_refl 0,hlt⟩,_,hx.cell hc0 id,_,_,_,hx.cell hc1 id,_,hx.cell hc2 id,?_⟩;refine (RetB.base (IH y (by simp) n' a' l' c' nn' _ _ hs0 (hv.keep hx.keep)) hx).mono ?_;rintro _ w2 ⟨b,rfl,hk,hx2,hb⟩;exact ⟨b,rfl,by simp [hk],key _ _ hx2 fun h=>⟨a_b.1 hne,hb h⟩⟩
mutual
theorem e_l:∀ (x:Typ) (n:BA) (a:OA) (l c:Nat) (nn:Bool) (deep:Int) (w:World),n.size<=4194304->RTyp w x n a l c nn->
  CP 153 #[.agg #[.string n,.slice a l c,.bool nn],.int .i64 deep] w (RetB w fun b=>b=true->okTyp x)
 | .mk n el nn,n',a,l,c,nn',deep,w,hr,h=>by
  obtain ⟨rfl,rfl,hl⟩:=b_M.1 h;exact g_W n' el nn' (fun y hy=>c264s el y hy) a l c deep w hr hl
theorem c264s:∀ (el:List Typ) (y:Typ),y∈el->∀ (n:BA) (a:OA) (l c:Nat) (nn:Bool) (deep:Int) (w:World),n.size<=4194304->RTyp w y n a l c nn->
  CP 153 #[.agg #[.string n,.slice a l c,.bool nn],.int .i64 deep] w (RetB w fun b=>b=true->okTyp y)
 | v::l,y,hy=>by
  rcases mc_.1 hy with e|hy
  ·rw [e];exact e_l v
  ·exact c264s l y hy
end
theorem q_a {xs:List Val}(deep:Int)(hl:RVals w a l c xs):
  CP 154 #[.slice a l c,.int .i64 deep] w (RetB w fun b=>b=true->g_t xs/\∀ v∈xs,fixV v):=by
 obtain ⟨e1,e3⟩:=hl.len;have hx:=Ext.refl (X:=fun _=>False) w;refine m_N a l c deep w _ fun K hK=>?_;have key:∀ b w',EF w w'->(b=true->g_t xs/\∀ v∈xs,fixV v)->K b w':=fun b w' hx' hy=>hK b w' ⟨b,rfl,hx',hy⟩;refine ⟨fun _=>⟨fun h1=>?_,fun _=>key _ _ hx (by intro hh;cases hh)⟩,fun h0=>key _ _ hx fun _=>?_⟩
 ·obtain ⟨y,rfl⟩:=m_r e1 h1;have hlt:(0:Int)<(l:Int):=by simp at e1;omega
  obtain ⟨p,x,hp,hxs,cs,hc,k,r,a',l',c',rfl,hv⟩:=hl.get (Int.le_refl 0) hlt;obtain ⟨⟨_,_,hc0⟩,hs0,⟨_,_,hc1⟩,hs1,⟨_,_,hc2⟩,-⟩:=hc;obtain rfl:y=x:=by simpa using hxs
  refine ⟨p,hp,⟨Int.le_refl 0,hlt⟩,_,hx.cell hc0 id,_,hx.cell hc1 id,_,_,_,hx.cell hc2 id,?_⟩;refine (RetB.base (p_Z y _ _ _ _ _ _ _ _ hs1 hv) hx).mono ?_;rintro _ w2 ⟨b,rfl,hk,hx2,hb⟩;exact ⟨b,rfl,by simp [hk],key _ _ hx2 fun h=>⟨⟨by simp,by simpa using (hb h).1⟩,by simpa using (hb h).2 rfl⟩⟩
 ·rw [e_B e1 h0];exact ⟨⟨by simp,by simp⟩,by simp⟩
theorem f_2 {xs:List Val}(deep:Int)(hl:RVals w a l c xs):
  CP 154 #[.slice a l c,.int .i64 deep] w (RetB w fun b=>b=true->g_t xs):=RetB.weak (q_a deep hl) fun b h hb=>(h hb).1
def okVar (x:VarD):Prop:=okTyp x.t/\g_t x.dflt/\b_4 x.dirs/\x.name≠⟨#[]⟩/\(∀ v∈x.dflt,fixV v)/\∀ d∈x.dirs,∀ a∈d.args,fixV a.v
theorem q_H {x:VarD}(h1:okTyp x.t)(h2:g_t x.dflt/\∀ v∈x.dflt,fixV v)(h3:∀ d∈x.dirs,okAF true d.args)(h4:x.name≠E0):okVar x:=
 ⟨h1,h2.1,fun d hd a ha=>⟨(h3 d hd a ha).1,(h3 d hd a ha).2.1⟩,h4,h2.2,fun d hd a ha=>(h3 d hd a ha).2.2 rfl⟩
theorem l_w {xs:List VarD}(deep:Int)(hl:RVars w a l c xs):
  CP 99 #[.slice a l c,.int .i64 deep] w (RetB w fun b=>b=true->∀ x∈xs,okVar x):=by
 obtain ⟨e1,e3⟩:=hl.len;refine l_O a l c deep w _ ⟨fun i w1=>0<=i/\i<=l/\EF w w1/\∀ s∈xs.take i.toNat,okVar s,fun i _=>((l:Int)-i).toNat,⟨by omega,by omega,Ext.refl w,by simp⟩,?_⟩;rintro i w1 ⟨h0,h1,hx,hn⟩;refine ⟨fun hlt=>?_,fun hge=>⟨true,rfl,hx,fun _=>a_o e1 hge hn⟩⟩;have hlt:=odt hlt;obtain ⟨p,x,hp,hxs,cs,hc,n,a1,l1,c1,nn,a2,l2,c2,a3,l3,c3,rfl,hv1,hv2,hv3⟩:=hl.get h0 hlt;obtain ⟨⟨_,_,hc0⟩,hs0,⟨_,_,hc1⟩,hs1,⟨_,_,hc2⟩,hs2,⟨_,_,hc3⟩,hs3,⟨_,_,hc4⟩,hs4,⟨_,_,hc5⟩,-⟩:=hc;refine ⟨p,hp,⟨h0,hlt⟩,_,hx.cell hc0 id,_,hx.cell hc1 id,_,_,_,hx.cell hc2 id,_,hx.cell hc3 id,_,_,_,hx.cell hc4 id,_,_,_,hx.cell hc5 id,trivial,trivial,fun K hK=>?_⟩;have hx':=hx.alloc (.cells #[.string x.name,.string n,.slice a1 l1 c1,.bool nn,.slice a2 l2 c2,.slice a3 l3 c3] 66);have key:∀ b w',EF w w'->(b=false->okVar x)->K b w':=fun b w' hx' hy=>hK b w' ⟨fun _=>⟨false,rfl,hx',nofun⟩,fun hb=>by
  rw [a_a h0 (by omega)];exact next h0 hlt ⟨hx',a_g h0 hn hxs (hy hb)⟩⟩
 replace hs0:x.name.size<=4194304:=hs0;replace hs1:n.size<=4194304:=hs1
 repeat' first
  | exact trivial
  | exact ⟨rfl,trivial⟩
  | exact key _ _ (by assumption) tf
  | exact key _ _ (by assumption) (fun _=>q_H (by simp_all;done) (by simp_all;done) (by simp_all;done) (by simp_all;done))
  | (refine (RetB.base (a_B _ (by assumption) _) (by assumption)).mono ?_;rintro _ _ ⟨b,rfl,hk,hx,hb⟩;refine ⟨b,rfl,by simp [hk],?_⟩)
  | (refine (RetB.base (e_l _ _ _ _ _ _ _ _ (by assumption) (RTyp.keep (Ext.keep (by assumption)) (by assumption))) (by assumption)).mono ?_;rintro _ _ ⟨b,rfl,hk,hx,hb⟩;refine ⟨b,rfl,by simp [hk],?_⟩)
  | (refine (RetB.base (q_a _ (RVals.keep (Ext.keep (by assumption)) (by assumption))) (by assumption)).mono ?_;rintro _ _ ⟨b,rfl,hk,hx,hb⟩;refine ⟨b,rfl,by simp [hk],?_⟩)
  | (refine (RetB.base (p_5 _ _ (RDirs.keep (Ext.keep (by assumption)) (by assumption))) (by assumption)).mono ?_;rintro _ _ ⟨b,rfl,hk,hx,hb⟩;refine ⟨b,rfl,by simp [hk],?_⟩)
  | refine And.intro ?_ ?_
  | intro _
mutual
def okSel:Sel->Prop
 | .mk k _ _ _ args dirs kids=>(k=0∨k=1∨k=2)/\e_E args/\b_4 dirs/\a_z kids/\(k=1->args=[]/\kids=[])/\(k=2->args=[])
def a_z:List Sel->Prop
 | []=>True
 | s::l=>okSel s/\a_z l
end
theorem b_9:∀ {l:List Sel},a_z l↔∀ x∈l,okSel x
 | []=>by simp [a_z]
 | v::l=>by simp [a_z,b_9 (l:=l)]
theorem n_9 (d1 d2 d3:BA)(a1:OA)(l1 c1:Nat)(a2:OA)(l2 c2:Nat)(a3:OA)(l3 c3:Nat)(a4:OA)(l4 c4:Nat)(a5:OA)(l5 c5:Nat)(w:World):
  CP 166 #[.agg #[.string d1,.string d2,.string d3,.slice a1 l1 c1,.slice a2 l2 c2,.slice a3 l3 c3,.slice a4 l4 c4,.slice a5 l5 c5]] w (RetB w fun _=>True):=
 o_z d1 d2 d3 a1 l1 c1 a2 l2 c2 a3 l3 c3 a4 l4 c4 a5 l5 c5 w _ ⟨trivial,_,rfl,(Ext.refl w).alloc _,trivial⟩
theorem i_7 (s:BA)(w:World):CP 164 #[.string s] w (RetB w fun _=>True):=by
 have hx:=Ext.refl (X:=fun _=>False) w;refine j_C s w _ fun K2 hK2=>?_;have key2:∀ b,K2 b w:=by
  intro b;refine hK2 b w ⟨fun _=>⟨_,rfl,hx,trivial⟩,fun _ K5 hK5=>?_⟩;have key5:∀ b,K5 b w:=fun b=>hK5 b w ⟨fun _=>⟨_,rfl,hx,trivial⟩,fun _=>⟨_,rfl,hx,trivial⟩⟩
  repeat' first
   | exact trivial
   | exact ⟨rfl,trivial⟩
   | exact key5 _
   | refine And.intro ?_ ?_
   | intro _
 repeat' first
  | exact trivial
  | exact ⟨rfl,trivial⟩
  | exact key2 _
  | refine And.intro ?_ ?_
  | intro _
abbrev i_0 (y:Sel):Prop:=∀ (k:Int) (al n on:BA) (a:OA) (l c:Nat) (a':OA) (l' c':Nat) (a'':OA) (l'' c'':Nat) (deep:Int) (w:World),
 al.size<=4194304->n.size<=4194304->on.size<=4194304->RSel w y [.int .i64 k,.string al,.string n,.string on,.slice a l c,.slice a' l' c',.slice a'' l'' c'']->
 CP 156 #[.agg #[.int .i64 k,.string al,.string n,.string on,.slice a l c,.slice a' l' c',.slice a'' l'' c''],.int .i64 deep] w (RetB w fun b=>b=true->okSel y)
theorem e_k (IH:∀ y∈xs,i_0 y)(deep:Int)(hl:RSels w a l c xs):
  CP 101 #[.slice a l c,.int .i64 deep] w (RetB w fun b=>b=true->a_z xs):=by
 obtain ⟨e1,e3⟩:=hl.len;have hx:=Ext.refl (X:=fun _=>False) w;refine l_I a l c deep w _ fun K hK=>?_;have key:∀ b,K b w:=by
  intro b;refine hK b w ⟨fun _=>⟨false,rfl,hx,nofun⟩,fun _=>?_⟩;refine ⟨fun i w1=>0<=i/\i<=l/\EF w w1/\∀ s∈xs.take i.toNat,okSel s,fun i _=>((l:Int)-i).toNat,⟨by omega,by omega,Ext.refl w,by simp⟩,?_⟩;rintro i w1 ⟨h0,h1,hx,hn⟩;refine ⟨fun hlt=>?_,fun hge=>⟨true,rfl,hx,fun _=>b_9.2 (a_o e1 hge hn)⟩⟩;have hlt:=odt hlt;obtain ⟨p,x,hp,hxs,cs,hc,hv⟩:=hl.get h0 hlt;have hxm:=IH x (mg_ hxs);obtain ⟨k,al,n,on,args,dirs,kids⟩:=x;have hv':=hv;obtain ⟨a1,l1,c1,a2,l2,c2,a3,l3,c3,rfl,hv1,hv2,hv3⟩:=c_w.1 hv;obtain ⟨⟨_,_,hc0⟩,hs0,⟨_,_,hc1⟩,hs1,⟨_,_,hc2⟩,hs2,⟨_,_,hc3⟩,hs3,⟨_,_,hc4⟩,hs4,⟨_,_,hc5⟩,hs5,⟨_,_,hc6⟩,-⟩:=hc;refine ⟨p,hp,⟨h0,hlt⟩,_,hx.cell hc0 id,_,hx.cell hc1 id,_,hx.cell hc2 id,_,hx.cell hc3 id,_,_,_,hx.cell hc4 id,_,_,_,hx.cell hc5 id,_,_,_,hx.cell hc6 id,trivial,trivial,?_⟩;have hx':=hx.alloc (.cells #[.int .i64 k,.string al,.string n,.string on,.slice a1 l1 c1,.slice a2 l2 c2,.slice a3 l3 c3] 78);refine (RetB.base (hxm k al n on a1 l1 c1 a2 l2 c2 a3 l3 c3 deep _ hs1 hs2 hs3 (hv'.keep hx'.keep)) hx').mono ?_;rintro _ w2 ⟨b,rfl,hk,hx2,hb⟩;refine ⟨b,rfl,by simp [hk],fun _=>⟨false,rfl,hx2,nofun⟩,fun hb'=>?_⟩;rw [a_a h0 (by omega)];exact next h0 hlt ⟨hx2,a_g h0 hn hxs (hb (by simpa using hb'))⟩
 exact ⟨fun _=>key _,fun _=>key _⟩
theorem sum_zero {β:Type}{xs:List α}{ys:List β}(e:l=xs.length)(e':l'=ys.length)(h:l<=4194304)(h':l'<=4194304)(hz:(wr ((l:Int)+(l':Int))==0)=true):xs=[]/\ys=[]:=by
 have:=a_a (n:=(l:Int)+(l':Int)-1);have hz:wr ((l:Int)+(l':Int))=0:=by simpa using hz
 rcases Nat.eq_zero_or_pos (l+l') with h0|h0
 ·exact ⟨List.length_eq_zero_iff.1 (by omega),List.length_eq_zero_iff.1 (by omega)⟩
 ·have:=this (by omega) (by omega);rw [show (l:Int)+(l':Int)-1+1=l+l' by omega] at this;omega
theorem g_6 (k:Int)(al n on:BA)(args:List Argm)(dirs:List Dir)(kids:List Sel)(IH:∀ y∈kids,i_0 y):i_0 (.mk k al n on args dirs kids):=by
 intro k' al' n' on' a l c a' l' c' a'' l'' c'' deep w s1 s2 s3 hr;obtain ⟨b1,m1,d1,b2,m2,d2,b3,m3,d3,e,hv1,hv2,hv3⟩:=c_w.1 hr;simp only [List.cons.injEq,Value.int.injEq,Value.string.injEq,Value.slice.injEq,true_and,and_true] at e;obtain ⟨rfl,rfl,rfl,rfl,⟨rfl,rfl,rfl⟩,⟨rfl,rfl,rfl⟩,rfl,rfl,rfl⟩:=e;obtain ⟨e1,f1⟩:=hv1.len;obtain ⟨e3,f3⟩:=hv3.len;have hx0:=(Ext.refl (X:=fun _=>False) w).alloc (.cells #[.int .i64 k',.string al',.string n',.string on',.slice a l c,.slice a' l' c',.slice a'' l'' c''] 78);have c_FitsSels':∀ {w0 w1:World} (deep:Int),RSels w0 a'' l'' c'' kids->EF w0 w1->CP 101 #[.slice a'' l'' c'',.int .i64 deep] w1 (RetB w1 fun b=>b=true->a_z kids):=
  fun deep h hx=>e_k IH deep (h.keep hx.keep)
 refine m_P k' al' n' on' a l c a' l' c' a'' l'' c'' deep w _ ⟨trivial,?_⟩;refine (RetB.base (b_b _ _ (hv2.keep hx0.keep)) hx0).mono ?_;rintro _ w2 ⟨bd,rfl,hk,hx,hd⟩;refine ⟨bd,rfl,by simp [hk],fun _=>⟨false,rfl,hx,nofun⟩,fun hbd=>?_⟩;have hd:b_4 dirs:=hd (by simpa using hbd);refine ⟨fun hk0 K hK=>?_,fun _=>⟨fun hk1 K hK=>?_,fun _=>⟨fun hk2 K hK=>?_,fun _=>⟨false,rfl,hx,nofun⟩⟩⟩⟩
 ·have hk0:k'=0:=by simpa using hk0
  have key:∀ b w',EF w w'->(b=true->e_E args/\a_z kids)->K b w':=fun b w' hx' hy=>hK b w' ⟨b,rfl,hx',fun h=>⟨.inl hk0,(hy h).1,hd,(hy h).2,fun e=>absurd (hk0.symm.trans e) (by decide),fun e=>absurd (hk0.symm.trans e) (by decide)⟩⟩
  repeat' first
   | exact trivial
   | exact ⟨rfl,trivial⟩
   | exact key _ _ (by assumption) ff
   | exact key _ _ (by assumption) (by intro hh;have:=e_B e3 (by assumption);subst this;simp_all [a_z];done)
   | exact key _ _ (by assumption) (by intro hh;exact ⟨by simp_all;done,by simp_all;done⟩)
   | (refine (RetB.base (a_B _ (by assumption) _) (by assumption)).mono ?_;rintro _ _ ⟨b,rfl,hk,hx,hb⟩;refine ⟨b,rfl,by simp [hk],?_⟩)
   | (refine (RetB.base (h_z _ _ (c_1.keep (Ext.keep (by assumption)) (by assumption))) (by assumption)).mono ?_;rintro _ _ ⟨b,rfl,hk,hx,hb⟩;refine ⟨b,rfl,by simp [hk],?_⟩)
   | (refine (RetB.base (c_FitsSels' _ (by assumption) (by assumption)) (by assumption)).mono ?_;rintro _ _ ⟨b,rfl,hk,hx,hb⟩;refine ⟨b,rfl,by simp [hk],?_⟩)
   | refine And.intro ?_ ?_
   | intro _
 ·have hk1:k'=1:=by simpa using hk1
  have key:∀ b w',EF w w'->(b=true->args=[]/\kids=[])->K b w':=fun b w' hx' hy=>hK b w' ⟨b,rfl,hx',fun h=>⟨.inr (.inl hk1),by rw [(hy h).1];simp [e_E],hd,by rw [(hy h).2];trivial,fun _=>hy h,fun _=>(hy h).1⟩⟩;refine (RetB.base (a_B _ s2 _) hx).mono ?_;rintro _ w3 ⟨b,rfl,hk,hx,hb⟩;refine ⟨b,rfl,by simp [hk],fun _=>⟨fun _=>?_,fun _=>key _ _ hx nofun⟩,fun _=>key _ _ hx nofun⟩;refine ⟨_,_,b_E,b_q (by omega) (by omega),⟨(Ext.refl _).keepT _,trivial⟩,fun _=>key _ _ hx fun hz=>?_,fun _=>key _ _ hx nofun⟩;obtain ⟨rfl,rfl⟩:=sum_zero e1 e3 f1 f3 hz;exact ⟨rfl,rfl⟩
 ·have hk2:k'=2:=by simpa using hk2
  have key:∀ b w',EF w w'->(b=true->args=[]/\a_z kids)->K b w':=fun b w' hx' hy=>hK b w' ⟨b,rfl,hx',fun h=>⟨.inr (.inr hk2),by rw [(hy h).1];simp [e_E],hd,(hy h).2,fun e=>absurd (hk2.symm.trans e) (by decide),fun _=>(hy h).1⟩⟩;refine ⟨_,_,b_E,b_q (by omega) (by omega),⟨(Ext.refl _).keepT _,trivial⟩,fun _=>?_,fun _=>key _ _ hx nofun⟩
  repeat' first
   | exact trivial
   | exact ⟨rfl,trivial⟩
   | exact key _ _ (by assumption) ff
   | exact key _ _ (by assumption) (by intro hh;have:=e_B e1 (by assumption);subst this;exact ⟨rfl,by simp_all;done⟩)
   | (refine (RetB.base (a_B _ (by assumption) _) (by assumption)).mono ?_;rintro _ _ ⟨b,rfl,hk,hx,hb⟩;refine ⟨b,rfl,by simp [hk],?_⟩)
   | (refine (RetB.base (c_FitsSels' _ (by assumption) (by assumption)) (by assumption)).mono ?_;rintro _ _ ⟨b,rfl,hk,hx,hb⟩;refine ⟨b,rfl,by simp [hk],?_⟩)
   | refine And.intro ?_ ?_
   | intro _
mutual
theorem j_c:∀ (x:Sel),i_0 x
 | .mk k al n on args dirs kids=>g_6 k al n on args dirs kids (fun y hy=>c267s kids y hy)
theorem c267s:∀ (l:List Sel) (y:Sel),y∈l->i_0 y
 | v::l,y,hy=>by
  rcases mc_.1 hy with e|hy
  ·rw [e];exact j_c v
  ·exact c267s l y hy
end
theorem c_FitsSels (deep:Int)(hl:RSels w a l c xs):
  CP 101 #[.slice a l c,.int .i64 deep] w (RetB w fun b=>b=true->a_z xs):=e_k (fun y _=>j_c y) deep hl
abbrev a_5:BA:=⟨#[113,117,101,114,121]⟩
abbrev bMut:BA:=⟨#[109,117,116,97,116,105,111,110]⟩
abbrev bSub:BA:=⟨#[115,117,98,115,99,114,105,112,116,105,111,110]⟩
def n_X (k:BA):Prop:=k=a_5∨k=bMut∨k=bSub
theorem b_2 {a b:BA}(h:(!(a.toList==b.toList))=false):a=b:=a_b.1 (by simpa using h)
theorem g_r {a b:BA}(h:(!(a.toList==b.toList))=true):a≠b:=a_f.1 (by simpa using h)
def okOp (x:OpD):Prop:=n_X x.kind/\(∀ v∈x.vars,okVar v)/\b_4 x.dirs/\a_z x.kids
def b_j (x:Frag):Prop:=b_4 x.dirs/\a_z x.kids/\x.name≠⟨#[]⟩
theorem j_1 {a':OA}{c':Nat}{ops:List OpD}{frags:List Frag}(deep:Int)(hl:ROps w a l c ops)(hl':a_X w a' l' c' frags):
  CP 34 #[.agg #[.slice a l c,.slice a' l' c'],.int .i64 deep] w (RetB w fun b=>b=true->(∀ x∈ops,okOp x)/\∀ x∈frags,b_j x):=by
 obtain ⟨e1,e3⟩:=hl.len;obtain ⟨e1',e3'⟩:=hl'.len;have hx0:=(Ext.refl (X:=fun _=>False) w).alloc (.cells #[.slice a l c,.slice a' l' c'] 30);refine k_p a l c a' l' c' deep w _ ⟨trivial,?_⟩;refine ⟨fun i w1=>0<=i/\i<=l/\EF w w1/\∀ s∈ops.take i.toNat,okOp s,fun i _=>((l:Int)-i).toNat,⟨by omega,by omega,hx0,by simp⟩,?_⟩;rintro i w1 ⟨h0,h1,hx,hn⟩;refine ⟨fun hlt=>?_,fun hge=>?_⟩
 ·have hlt:=odt hlt;obtain ⟨p,x,hp,hxs,cs,hc,a1,l1,c1,a2,l2,c2,a3,l3,c3,rfl,hv1,hv2,hv3⟩:=hl.get h0 hlt;obtain ⟨⟨_,_,hc0⟩,hs0,⟨_,_,hc1⟩,hs1,⟨_,_,hc2⟩,hs2,⟨_,_,hc3⟩,hs3,⟨_,_,hc4⟩,-⟩:=hc;refine ⟨p,hp,⟨h0,hlt⟩,_,hx.cell hc0 id,_,hx.cell hc1 id,_,_,_,hx.cell hc2 id,_,_,_,hx.cell hc3 id,_,_,_,hx.cell hc4 id,trivial,trivial,fun K hK=>?_⟩;have hx':=hx.alloc (.cells #[.string x.kind,.string x.name,.slice a1 l1 c1,.slice a2 l2 c2,.slice a3 l3 c3] 58);have key:∀ b w',EF w w'->(b=false->n_X x.kind)->K b w':=by
   intro b w' hx' hkd;refine hK b w' ⟨fun _=>⟨false,rfl,hx',nofun⟩,fun hb K2 hK2=>?_⟩;have hkd:=hkd hb;have key2:∀ b w',EF w w'->(b=false->(∀ v∈x.vars,okVar v)/\b_4 x.dirs/\a_z x.kids)->K2 b w':=fun b w' hx' hy=>hK2 b w' ⟨fun _=>⟨false,rfl,hx',nofun⟩,fun hb=>by
    rw [a_a h0 (by omega)];exact next h0 hlt ⟨hx',a_g h0 hn hxs ⟨hkd,hy hb⟩⟩⟩
   replace hs1:x.name.size<=4194304:=hs1
   repeat' first
    | exact trivial
    | exact ⟨rfl,trivial⟩
    | exact ff
    | exact tf
    | exact nf
    | exact nt
    | exact key2 _ _ (by assumption) tf
    | exact key2 _ _ (by assumption) nf
    | exact key2 _ _ (by assumption) (fun _=>by refine ⟨?_,?_,?_⟩<;>assumption)
    | (refine (RetB.base (a_B _ (by assumption) _) (by assumption)).mono ?_;rintro _ _ ⟨b,rfl,hk,hx,hb⟩;refine ⟨b,rfl,by simp [hk],?_⟩;clear hk;cases b<;>try replace hb:=hb rfl)
    | (refine (RetB.base (l_w _ (RVars.keep (Ext.keep (by assumption)) (by assumption))) (by assumption)).mono ?_;rintro _ _ ⟨b,rfl,hk,hx,hb⟩;refine ⟨b,rfl,by simp [hk],?_⟩;clear hk;cases b<;>try replace hb:=hb rfl)
    | (refine (RetB.base (b_b _ _ (RDirs.keep (Ext.keep (by assumption)) (by assumption))) (by assumption)).mono ?_;rintro _ _ ⟨b,rfl,hk,hx,hb⟩;refine ⟨b,rfl,by simp [hk],?_⟩;clear hk;cases b<;>try replace hb:=hb rfl)
    | (refine (RetB.base (c_FitsSels _ (RSels.keep (Ext.keep (by assumption)) (by assumption))) (by assumption)).mono ?_;rintro _ _ ⟨b,rfl,hk,hx,hb⟩;refine ⟨b,rfl,by simp [hk],?_⟩;clear hk;cases b<;>try replace hb:=hb rfl)
    | refine And.intro ?_ ?_
    | intro _
  refine ⟨fun _=>⟨fun _=>key _ _ hx' fun h=>.inr (.inr (b_2 h)),fun h=>key _ _ hx' fun _=>.inr (.inl (b_2 h))⟩,fun h=>key _ _ hx' fun _=>.inl (b_2 h)⟩
 ·have hops:=a_o e1 hge hn;refine ⟨fun i w1=>0<=i/\i<=l'/\EF w w1/\∀ s∈frags.take i.toNat,b_j s,fun i _=>((l':Int)-i).toNat,⟨by omega,by omega,hx,by simp⟩,?_⟩;rintro i w1 ⟨h0,h1,hx,hn⟩;refine ⟨fun hlt=>?_,fun hge=>⟨_,rfl,hx,fun _=>⟨hops,a_o e1' hge hn⟩⟩⟩;have hlt:=odt hlt;obtain ⟨p,x,hp,hxs,cs,hc,a2,l2,c2,a3,l3,c3,rfl,hv2,hv3⟩:=hl'.get h0 hlt;obtain ⟨⟨_,_,hc0⟩,hs0,⟨_,_,hc1⟩,hs1,⟨_,_,hc2⟩,hs2,⟨_,_,hc3⟩,-⟩:=hc;refine ⟨p,hp,⟨h0,hlt⟩,_,hx.cell hc0 id,_,hx.cell hc1 id,_,_,_,hx.cell hc2 id,_,_,_,hx.cell hc3 id,trivial,trivial,fun K hK=>?_⟩;have hx':=hx.alloc (.cells #[.string x.name,.string x.on,.slice a2 l2 c2,.slice a3 l3 c3] 70);have key:∀ b w',EF w w'->(b=false->b_j x)->K b w':=fun b w' hx' hy=>hK b w' ⟨fun _=>⟨false,rfl,hx',nofun⟩,fun hb=>by
   rw [a_a h0 (by omega)];exact next h0 hlt ⟨hx',a_g h0 hn hxs (hy hb)⟩⟩
  replace hs0:x.name.size<=4194304:=hs0;replace hs1:x.on.size<=4194304:=hs1
  repeat' first
   | exact trivial
   | exact ⟨rfl,trivial⟩
   | exact ff
   | exact tf
   | exact nf
   | exact nt
   | exact key _ _ (by assumption) tf
   | exact key _ _ (by assumption) nf
   | exact key _ _ (by assumption) (fun _=>by refine ⟨?_,?_,?_⟩<;>assumption)
   | (refine (RetB.base (a_B _ (by assumption) _) (by assumption)).mono ?_;rintro _ _ ⟨b,rfl,hk,hx,hb⟩;refine ⟨b,rfl,by simp [hk],?_⟩;clear hk;cases b<;>try replace hb:=hb rfl)
   | (refine (RetB.base (b_b _ _ (RDirs.keep (Ext.keep (by assumption)) (by assumption))) (by assumption)).mono ?_;rintro _ _ ⟨b,rfl,hk,hx,hb⟩;refine ⟨b,rfl,by simp [hk],?_⟩;clear hk;cases b<;>try replace hb:=hb rfl)
   | (refine (RetB.base (c_FitsSels _ (RSels.keep (Ext.keep (by assumption)) (by assumption))) (by assumption)).mono ?_;rintro _ _ ⟨b,rfl,hk,hx,hb⟩;refine ⟨b,rfl,by simp [hk],?_⟩;clear hk;cases b<;>try replace hb:=hb rfl)
   | refine And.intro ?_ ?_
   | intro _
def a_s (x:ArgDef):Prop:=okTyp x.t/\g_t x.dflt/\b_4 x.dirs
theorem e_s {xs:List ArgDef}(deep:Int)(hl:a_R w a l c xs):
  CP 163 #[.slice a l c,.int .i64 deep] w (RetB w fun b=>b=true->∀ x∈xs,a_s x):=by
 obtain ⟨e1,e3⟩:=hl.len;refine i_G a l c deep w _ ⟨fun i w1=>0<=i/\i<=l/\EF w w1/\∀ s∈xs.take i.toNat,a_s s,fun i _=>((l:Int)-i).toNat,⟨by omega,by omega,Ext.refl w,by simp⟩,?_⟩;rintro i w1 ⟨h0,h1,hx,hn⟩;refine ⟨fun hlt=>?_,fun hge=>⟨true,rfl,hx,fun _=>a_o e1 hge hn⟩⟩;have hlt:=odt hlt;obtain ⟨p,x,hp,hxs,cs,hc,n,a1,l1,c1,nn,a2,l2,c2,a3,l3,c3,rfl,hv1,hv2,hv3⟩:=hl.get h0 hlt;obtain ⟨⟨_,_,hc0⟩,hs0,⟨_,_,hc1⟩,hs1,⟨_,_,hc2⟩,hs2,⟨_,_,hc3⟩,hs3,⟨_,_,hc4⟩,hs4,⟨_,_,hc5⟩,hs5,⟨_,_,hc6⟩,-⟩:=hc;refine ⟨p,hp,⟨h0,hlt⟩,_,hx.cell hc0 id,_,hx.cell hc1 id,_,hx.cell hc2 id,_,_,_,hx.cell hc3 id,_,hx.cell hc4 id,_,_,_,hx.cell hc5 id,_,_,_,hx.cell hc6 id,trivial,trivial,fun K hK=>?_⟩;have hx':=hx.alloc (.cells #[.string x.doc,.string x.name,.string n,.slice a1 l1 c1,.bool nn,.slice a2 l2 c2,.slice a3 l3 c3] 250);have key:∀ b w',EF w w'->(b=false->a_s x)->K b w':=fun b w' hx' hy=>hK b w' ⟨fun _=>⟨false,rfl,hx',nofun⟩,fun hb=>by
  rw [a_a h0 (by omega)];exact next h0 hlt ⟨hx',a_g h0 hn hxs (hy hb)⟩⟩
 replace hs0:x.doc.size<=4194304:=hs0;replace hs1:x.name.size<=4194304:=hs1;replace hs2:n.size<=4194304:=hs2
 repeat' first
  | exact trivial
  | exact ⟨rfl,trivial⟩
  | exact ff
  | exact tf
  | exact nf
  | exact nt
  | exact key _ _ (by assumption) tf
  | exact key _ _ (by assumption) nf
  | exact key _ _ (by assumption) (fun _=>by refine ⟨?_,?_,?_⟩<;>assumption)
  | (refine (RetB.base (c_C _ (by assumption) _) (by assumption)).mono ?_;rintro _ _ ⟨b,rfl,hk,hx,hb⟩;refine ⟨b,rfl,by simp [hk],?_⟩;clear hk;cases b<;>try replace hb:=hb rfl)
  | (refine (RetB.base (a_B _ (by assumption) _) (by assumption)).mono ?_;rintro _ _ ⟨b,rfl,hk,hx,hb⟩;refine ⟨b,rfl,by simp [hk],?_⟩;clear hk;cases b<;>try replace hb:=hb rfl)
  | (refine (RetB.base (e_l _ _ _ _ _ _ _ _ (by assumption) (RTyp.keep (Ext.keep (by assumption)) (by assumption))) (by assumption)).mono ?_;rintro _ _ ⟨b,rfl,hk,hx,hb⟩;refine ⟨b,rfl,by simp [hk],?_⟩;clear hk;cases b<;>try replace hb:=hb rfl)
  | (refine (RetB.base (f_2 _ (RVals.keep (Ext.keep (by assumption)) (by assumption))) (by assumption)).mono ?_;rintro _ _ ⟨b,rfl,hk,hx,hb⟩;refine ⟨b,rfl,by simp [hk],?_⟩;clear hk;cases b<;>try replace hb:=hb rfl)
  | (refine (RetB.base (b_b _ _ (RDirs.keep (Ext.keep (by assumption)) (by assumption))) (by assumption)).mono ?_;rintro _ _ ⟨b,rfl,hk,hx,hb⟩;refine ⟨b,rfl,by simp [hk],?_⟩;clear hk;cases b<;>try replace hb:=hb rfl)
  | refine And.intro ?_ ?_
  | intro _
def okFld (x:Fld):Prop:=okTyp x.t/\g_t x.dflt/\b_4 x.dirs/\∀ y∈x.args,a_s y
theorem f_g {xs:List Fld}(input:Bool)(deep:Int)(hl:RFlds w a l c xs):
  CP 200 #[.slice a l c,.bool input,.int .i64 deep] w (RetB w fun b=>b=true->∀ x∈xs,okFld x):=by
 obtain ⟨e1,e3⟩:=hl.len;refine j_K a l c input deep w _ ⟨fun i w1=>0<=i/\i<=l/\EF w w1/\∀ s∈xs.take i.toNat,okFld s,fun i _=>((l:Int)-i).toNat,⟨by omega,by omega,Ext.refl w,by simp⟩,?_⟩;rintro i w1 ⟨h0,h1,hx,hn⟩;refine ⟨fun hlt=>?_,fun hge=>⟨true,rfl,hx,fun _=>a_o e1 hge hn⟩⟩;have hlt:=odt hlt;obtain ⟨p,x,hp,hxs,cs,hc,a0,l0,c0,a2,l2,c2,n,a1,l1,c1,nn,a3,l3,c3,rfl,hv0,hv2,hv1,hv3⟩:=hl.get h0 hlt;obtain ⟨⟨_,_,hc0⟩,hs0,⟨_,_,hc1⟩,hs1,⟨_,_,hc2⟩,hs2,⟨_,_,hc3⟩,hs3,⟨_,_,hc4⟩,hs4,⟨_,_,hc5⟩,hs5,⟨_,_,hc6⟩,hs6,⟨_,_,hc7⟩,-⟩:=hc;refine ⟨p,hp,⟨h0,hlt⟩,_,hx.cell hc0 id,_,hx.cell hc1 id,_,_,_,hx.cell hc2 id,_,_,_,hx.cell hc3 id,_,hx.cell hc4 id,_,_,_,hx.cell hc5 id,_,hx.cell hc6 id,_,_,_,hx.cell hc7 id,trivial,trivial,fun K hK=>?_⟩;have hx':=hx.alloc (.cells #[.string x.doc,.string x.name,.slice a0 l0 c0,.slice a2 l2 c2,.string n,.slice a1 l1 c1,.bool nn,.slice a3 l3 c3] 104);have key:∀ b w',EF w w'->(b=false->okTyp x.t/\b_4 x.dirs)->K b w':=by
  intro b w' hx' hkd;refine hK b w' ⟨fun _=>⟨false,rfl,hx',nofun⟩,fun hb K2 hK2=>?_⟩;obtain ⟨g1,g2⟩:=hkd hb;have key2:∀ b w',EF w w'->(b=false->g_t x.dflt/\∀ y∈x.args,a_s y)->K2 b w':=fun b w' hx' hy=>hK2 b w' ⟨fun _=>⟨false,rfl,hx',nofun⟩,fun hb=>by
   rw [a_a h0 (by omega)];exact next h0 hlt ⟨hx',a_g h0 hn hxs ⟨g1,(hy hb).1,g2,(hy hb).2⟩⟩⟩
  repeat' first
   | exact trivial
   | exact ⟨rfl,trivial⟩
   | exact ff
   | exact tf
   | exact nf
   | exact nt
   | exact key2 _ _ (by assumption) tf
   | exact key2 _ _ (by assumption) nf
   | exact key2 _ _ (by assumption) (fun _=>by refine ⟨?_,?_⟩<;>assumption)
   | (refine (RetB.base (e_s _ (a_R.keep (Ext.keep (by assumption)) (by assumption))) (by assumption)).mono ?_;rintro _ _ ⟨b,rfl,hk,hx,hb⟩;refine ⟨b,rfl,by simp [hk],?_⟩;clear hk;cases b<;>try replace hb:=hb rfl)
   | (refine (RetB.base (f_2 _ (RVals.keep (Ext.keep (by assumption)) (by assumption))) (by assumption)).mono ?_;rintro _ _ ⟨b,rfl,hk,hx,hb⟩;refine ⟨b,rfl,by simp [hk],?_⟩;clear hk;cases b<;>try replace hb:=hb rfl)
   | refine And.intro ?_ ?_
   | intro _
 replace hs0:x.doc.size<=4194304:=hs0;replace hs1:x.name.size<=4194304:=hs1;replace hs4:n.size<=4194304:=hs4
 repeat' first
  | exact trivial
  | exact ⟨rfl,trivial⟩
  | exact ff
  | exact tf
  | exact nf
  | exact nt
  | exact key _ _ (by assumption) tf
  | exact key _ _ (by assumption) nf
  | exact key _ _ (by assumption) (fun _=>by refine ⟨?_,?_⟩<;>assumption)
  | (refine (RetB.base (c_C _ (by assumption) _) (by assumption)).mono ?_;rintro _ _ ⟨b,rfl,hk,hx,hb⟩;refine ⟨b,rfl,by simp [hk],?_⟩;clear hk;cases b<;>try replace hb:=hb rfl)
  | (refine (RetB.base (a_B _ (by assumption) _) (by assumption)).mono ?_;rintro _ _ ⟨b,rfl,hk,hx,hb⟩;refine ⟨b,rfl,by simp [hk],?_⟩;clear hk;cases b<;>try replace hb:=hb rfl)
  | (refine (RetB.base (e_l _ _ _ _ _ _ _ _ (by assumption) (RTyp.keep (Ext.keep (by assumption)) (by assumption))) (by assumption)).mono ?_;rintro _ _ ⟨b,rfl,hk,hx,hb⟩;refine ⟨b,rfl,by simp [hk],?_⟩;clear hk;cases b<;>try replace hb:=hb rfl)
  | (refine (RetB.base (b_b _ _ (RDirs.keep (Ext.keep (by assumption)) (by assumption))) (by assumption)).mono ?_;rintro _ _ ⟨b,rfl,hk,hx,hb⟩;refine ⟨b,rfl,by simp [hk],?_⟩;clear hk;cases b<;>try replace hb:=hb rfl)
  | refine And.intro ?_ ?_
  | intro _
theorem j_7 {d1:BA}{a':OA}{c':Nat}{dirs:List Dir}{roots:List RootD}(deep:Int)(hs:d1.size<=4194304)(hd:RDirs w a l c dirs)(hl:b_w w a' l' c' roots):
  CP 161 #[.agg #[.string d1,.slice a l c,.slice a' l' c'],.int .i64 deep] w (RetB w fun _=>True):=by
 obtain ⟨e1,e3⟩:=hl.len;have hx0:=(Ext.refl (X:=fun _=>False) w).alloc (.cells #[.string d1,.slice a l c,.slice a' l' c'] 326);refine k_u d1 a l c a' l' c' deep w _ ⟨trivial,?_⟩;refine ⟨fun i w1=>0<=i/\i<=l'/\EF w w1,fun i _=>((l':Int)-i).toNat,⟨by omega,by omega,hx0⟩,?_⟩;rintro i w1 ⟨h0,h1,hx⟩;refine ⟨fun hlt=>?_,fun hge K hK=>?_⟩
 ·have hlt:=odt hlt;obtain ⟨p,x,hp,hxs,cs,hc,rfl⟩:=hl.get h0 hlt;obtain ⟨⟨_,_,hc0⟩,hs0,⟨_,_,hc1⟩,hs1,-⟩:=hc;refine ⟨p,hp,⟨h0,hlt⟩,_,hx.cell hc0 id,_,hx.cell hc1 id,trivial,trivial,fun K hK=>?_⟩;have hx':=hx.alloc (.cells #[.string x.op,.string x.t] 218);have key:∀ b w',EF w w'->K b w':=fun b w' hx'=>hK b w' ⟨fun _=>⟨false,rfl,hx',trivial⟩,fun hb=>by
   rw [a_a h0 (by omega)];exact next h0 hlt hx'⟩
  replace hs1:x.t.size<=4194304:=hs1
  repeat' first
   | exact trivial
   | exact ⟨rfl,trivial⟩
   | exact ff
   | exact tf
   | exact nf
   | exact nt
   | exact key _ _ (by assumption)
   | (refine (RetB.base (a_B _ (by assumption) _) (by assumption)).mono ?_;rintro _ _ ⟨b,rfl,hk,hx,hb⟩;refine ⟨b,rfl,by simp [hk],?_⟩;clear hk;cases b<;>try replace hb:=hb rfl)
   | refine And.intro ?_ ?_
   | intro _
 ·have key:∀ b w',EF w w'->K b w':=fun b w' hx'=>hK b w' ⟨b,rfl,hx',trivial⟩
  repeat' first
   | exact trivial
   | exact ⟨rfl,trivial⟩
   | exact ff
   | exact tf
   | exact nf
   | exact nt
   | exact key _ _ (by assumption)
   | (refine (RetB.base (c_C _ (by assumption) _) (by assumption)).mono ?_;rintro _ _ ⟨b,rfl,hk,hx,hb⟩;refine ⟨b,rfl,by simp [hk],?_⟩;clear hk;cases b<;>try replace hb:=hb rfl)
   | (refine (RetB.base (b_b _ _ (RDirs.keep (Ext.keep (by assumption)) (by assumption))) (by assumption)).mono ?_;rintro _ _ ⟨b,rfl,hk,hx,hb⟩;refine ⟨b,rfl,by simp [hk],?_⟩;clear hk;cases b<;>try replace hb:=hb rfl)
   | refine And.intro ?_ ?_
   | intro _
def e_1 (k:BA):Prop:=
 k=⟨#[83,67,65,76,65,82]⟩∨k=⟨#[79,66,74,69,67,84]⟩∨k=⟨#[73,78,84,69,82,70,65,67,69]⟩∨k=⟨#[73,78,80,85,84,95,79,66,74,69,67,84]⟩∨k=⟨#[85,78,73,79,78]⟩∨k=⟨#[69,78,85,77]⟩
def g_s (x:Def):Prop:=x.fields=[]∨x.kind=⟨#[79,66,74,69,67,84]⟩∨x.kind=⟨#[73,78,84,69,82,70,65,67,69]⟩∨x.kind=⟨#[73,78,80,85,84,95,79,66,74,69,67,84]⟩
def okDef (x:Def):Prop:=e_1 x.kind/\b_4 x.dirs/\(∀ f∈x.fields,okFld f)/\(∀ e∈x.enums,b_4 e.dirs)/\g_s x
theorem b_p {a b:Nat}(ha:a<=4611686018427387903)(hb:b<=4611686018427387903):wr ((a:Int)+(b:Int))=((a+b:Nat):Int):=by
 have e:((a:Int)+(b:Int)) % 2 ^ 64=(a:Int)+b:=by omega
 simp only [IntKind.wrap,IntKind.bits,IntKind.signed,e,Bool.true_and,decide_eq_true_eq];rw [if_neg (by omega)];omega
theorem i_4 (x:Def){d1 d2 d3:BA}{a1:OA}{l1 c1:Nat}{a2:OA}{l2 c2:Nat}{a3:OA}{l3 c3:Nat}{a4:OA}{l4 c4:Nat}{a5:OA}{l5 c5:Nat}(deep:Int)
  (e1:d1=x.kind) (e2:d2=x.doc) (e3:d3=x.name) (s2:d2.size<=4194304) (s3:d3.size<=4194304) (hd:RDirs w a1 l1 c1 x.dirs) (hi:RStrs w a2 l2 c2 x.ifaces) (hf:RFlds w a3 l3 c3 x.fields) (ht:RStrs w a4 l4 c4 x.types) (he:h_s w a5 l5 c5 x.enums):
  CP 165 #[.agg #[.string d1,.string d2,.string d3,.slice a1 l1 c1,.slice a2 l2 c2,.slice a3 l3 c3,.slice a4 l4 c4,.slice a5 l5 c5],.int .i64 deep] w (RetB w fun b=>b=true->okDef x):=by
 obtain ⟨f2,g2⟩:=hi.len;obtain ⟨f3,g3⟩:=hf.len;obtain ⟨f4,g4⟩:=ht.len;obtain ⟨f5,g5⟩:=he.len;have hx0:=(Ext.refl (X:=fun _=>False) w).alloc (.cells #[.string d1,.string d2,.string d3,.slice a1 l1 c1,.slice a2 l2 c2,.slice a3 l3 c3,.slice a4 l4 c4,.slice a5 l5 c5] 96);refine m_F d1 d2 d3 a1 l1 c1 a2 l2 c2 a3 l3 c3 a4 l4 c4 a5 l5 c5 deep w _ ⟨trivial,fun K hK=>?_⟩;have key:∀ b w',EF w w'->(b=false->b_4 x.dirs)->K b w':=by
  intro b w' hx' hy;refine hK b w' ⟨fun _=>⟨false,rfl,hx',nofun⟩,fun hb=>?_⟩;have hod:=hy hb;rintro _ rfl;refine ⟨by simp,by simp,by simp,trivial,?_⟩;refine ⟨fun i w1=>0<=i/\i<=l5/\EF w w1/\∀ s∈x.enums.take i.toNat,b_4 s.dirs,fun i _=>((l5:Int)-i).toNat,⟨by omega,by omega,hx'.drew,by simp⟩,?_⟩;rintro i w1 ⟨h0,h1,hx,hn⟩;refine ⟨fun hlt=>?_,fun hge=>?_⟩
  ·have hlt:=odt hlt;obtain ⟨p,y,hp,hxs,cs,hc,a',l',c',rfl,hv⟩:=he.get h0 hlt;obtain ⟨⟨_,_,hc0⟩,hs0,⟨_,_,hc1⟩,hs1,⟨_,_,hc2⟩,-⟩:=hc;refine ⟨p,hp,⟨h0,hlt⟩,_,hx.cell hc0 id,_,hx.cell hc1 id,_,_,_,hx.cell hc2 id,trivial,trivial,fun K hK=>?_⟩;have hx':=hx.alloc (.cells #[.string y.doc,.string y.name,.slice a' l' c'] 259);have key:∀ b w',EF w w'->(b=false->b_4 y.dirs)->K b w':=fun b w' hx' hy=>hK b w' ⟨fun _=>⟨false,rfl,hx',nofun⟩,fun hb=>by
    rw [a_a h0 (by omega)];exact next h0 hlt ⟨hx',a_g h0 hn hxs (hy hb)⟩⟩
   replace hs0:y.doc.size<=4194304:=hs0;replace hs1:y.name.size<=4194304:=hs1
   repeat' first
    | exact trivial
    | exact ⟨rfl,trivial⟩
    | exact ff
    | exact tf
    | exact nf
    | exact nt
    | exact key _ _ (by assumption) tf
    | exact key _ _ (by assumption) nf
    | exact key _ _ (by assumption) (fun _=>by assumption)
    | (refine (RetB.base (c_C _ (by assumption) _) (by assumption)).mono ?_;rintro _ _ ⟨b,rfl,hk,hx,hb⟩;refine ⟨b,rfl,by simp [hk],?_⟩;clear hk;cases b<;>try replace hb:=hb rfl)
    | (refine (RetB.base (a_B _ (by assumption) _) (by assumption)).mono ?_;rintro _ _ ⟨b,rfl,hk,hx,hb⟩;refine ⟨b,rfl,by simp [hk],?_⟩;clear hk;cases b<;>try replace hb:=hb rfl)
    | (refine (h_A _ _).mono ?_;rintro _ _ ⟨n,rfl,rfl⟩;refine ⟨n,rfl,by simp [KeepT],?_⟩)
    | (refine (RetB.base (b_b _ _ (RDirs.keep (Ext.keep (by assumption)) (by assumption))) (by assumption)).mono ?_;rintro _ _ ⟨b,rfl,hk,hx,hb⟩;refine ⟨b,rfl,by simp [hk],?_⟩;clear hk;cases b<;>try replace hb:=hb rfl)
    | refine And.intro ?_ ?_
    | intro _
  ·have hen:=a_o f5 hge hn;have nofld:l3=0->(∀ f∈x.fields,okFld f)/\g_s x:=fun h=>by
    have h0:=List.length_eq_zero_iff.1 (by omega:x.fields.length=0);exact ⟨by rw [h0];simp,.inl h0⟩
   have fin:∀ b w',EF w w'->(b=true->e_1 x.kind/\(∀ f∈x.fields,okFld f)/\g_s x)->RetB w (fun b=>b=true->okDef x) (.returned (.bool b)) w':=
    fun b w' hx hy=>⟨b,rfl,hx,fun h=>⟨(hy h).1,hod,(hy h).2.1,hen,(hy h).2.2⟩⟩
   refine ⟨fun hk=>fin _ _ hx fun hz=>⟨.inl (e1▸a_b.1 hk),nofld ?_⟩,fun _ K40 hK40=>?_⟩
   ·rw [b_p (by omega) (by omega),b_p (by omega) (by omega),b_p (by omega) (by omega)] at hz;simp at hz;omega
   ·have key40:∀ b,(b=true->x.kind=⟨#[79,66,74,69,67,84]⟩∨x.kind=⟨#[73,78,84,69,82,70,65,67,69]⟩)->K40 b w1:=by
     intro b hkd;refine hK40 b w1 ⟨fun hb K43 hK43=>?_,fun hb=>⟨fun hk K49 hK49=>?_,fun _=>⟨fun hk K55 hK55=>?_,fun _=>⟨fun hk K58 hK58=>?_,fun _=>⟨false,rfl,hx,nofun⟩⟩⟩⟩⟩
     ·have key43:∀ b w',EF w w'->(b=true->∀ f∈x.fields,okFld f)->K43 b w':=fun b w' hx hy=>hK43 b w' (fin b w' hx fun h=>⟨(hkd hb).elim (fun e=>.inr (.inl e)) fun e=>.inr (.inr (.inl e)),hy h,(hkd hb).elim (fun e=>.inr (.inl e)) fun e=>.inr (.inr (.inl e))⟩)
      repeat' first
       | exact trivial
       | exact ⟨rfl,trivial⟩
       | exact ff
       | exact tf
       | exact nf
       | exact nt
       | exact key43 _ _ (by assumption) ff
       | exact key43 _ _ (by assumption) (fun _=>by assumption)
       | (refine (RetB.base (f_g _ _ (RFlds.keep (Ext.keep (by assumption)) (by assumption))) (by assumption)).mono ?_;rintro _ _ ⟨b,rfl,hk,hx,hb⟩;refine ⟨b,rfl,by simp [hk],?_⟩;clear hk;cases b<;>try replace hb:=hb rfl)
       | refine And.intro ?_ ?_
       | intro _
     ·have hkk:e_1 x.kind:=.inr (.inr (.inr (.inl (e1▸a_b.1 hk))));have key49:∀ b w',EF w w'->(b=true->∀ f∈x.fields,okFld f)->K49 b w':=fun b w' hx hy=>hK49 b w' (fin b w' hx fun h=>⟨hkk,hy h,.inr (.inr (.inr (e1▸a_b.1 hk)))⟩)
      repeat' first
       | exact trivial
       | exact ⟨rfl,trivial⟩
       | exact ff
       | exact tf
       | exact nf
       | exact nt
       | exact key49 _ _ (by assumption) ff
       | exact key49 _ _ (by assumption) (fun _=>by assumption)
       | (refine (RetB.base (f_g _ _ (RFlds.keep (Ext.keep (by assumption)) (by assumption))) (by assumption)).mono ?_;rintro _ _ ⟨b,rfl,hk,hx,hb⟩;refine ⟨b,rfl,by simp [hk],?_⟩;clear hk;cases b<;>try replace hb:=hb rfl)
       | refine And.intro ?_ ?_
       | intro _
     ·have hkk:e_1 x.kind:=.inr (.inr (.inr (.inr (.inl (e1▸a_b.1 hk)))));have key55:∀ b,(b=true->(∀ f∈x.fields,okFld f)/\g_s x)->K55 b w1:=fun b hy=>hK55 b w1 (fin b w1 hx fun h=>⟨hkk,hy h⟩);refine ⟨fun _=>key55 _ fun hz=>nofld ?_,fun _=>key55 _ ff⟩;rw [b_p (by omega) (by omega),b_p (by omega) (by omega)] at hz;simp at hz;omega
     ·have hkk:e_1 x.kind:=.inr (.inr (.inr (.inr (.inr (e1▸a_b.1 hk)))));have key58:∀ b,(b=true->(∀ f∈x.fields,okFld f)/\g_s x)->K58 b w1:=fun b hy=>hK58 b w1 (fin b w1 hx fun h=>⟨hkk,hy h⟩);refine ⟨fun _=>key58 _ fun hz=>nofld ?_,fun _=>key58 _ ff⟩;rw [b_p (by omega) (by omega),b_p (by omega) (by omega)] at hz;simp at hz;omega
    refine ⟨fun hk=>key40 _ fun _=>.inl (e1▸a_b.1 hk),fun _=>key40 _ fun hk=>.inr (e1▸a_b.1 hk)⟩
 repeat' first
  | exact trivial
  | exact ⟨rfl,trivial⟩
  | exact ff
  | exact tf
  | exact nf
  | exact nt
  | exact key _ _ (by assumption) tf
  | exact key _ _ (by assumption) nf
  | exact key _ _ (by assumption) (fun _=>by assumption)
  | (refine (RetB.base (c_C _ (by assumption) _) (by assumption)).mono ?_;rintro _ _ ⟨b,rfl,hk,hx,hb⟩;refine ⟨b,rfl,by simp [hk],?_⟩;clear hk;cases b<;>try replace hb:=hb rfl)
  | (refine (RetB.base (a_B _ (by assumption) _) (by assumption)).mono ?_;rintro _ _ ⟨b,rfl,hk,hx,hb⟩;refine ⟨b,rfl,by simp [hk],?_⟩;clear hk;cases b<;>try replace hb:=hb rfl)
  | (refine (RetB.base (b_b _ _ (RDirs.keep (Ext.keep (by assumption)) (by assumption))) (by assumption)).mono ?_;rintro _ _ ⟨b,rfl,hk,hx,hb⟩;refine ⟨b,rfl,by simp [hk],?_⟩;clear hk;cases b<;>try replace hb:=hb rfl)
  | (refine (RetB.base (o_a (RStrs.keep (Ext.keep (by assumption)) (by assumption))) (by assumption)).mono ?_;rintro _ _ ⟨b,rfl,hk,hx,hb⟩;refine ⟨b,rfl,by simp [hk],?_⟩;clear hk;cases b<;>try replace hb:=hb rfl)
  | refine And.intro ?_ ?_
  | intro _
theorem a_M.len3 (x:SchemaDef)(cs:List Value)(h:a_M w x cs):cs.length=3:=by
 obtain ⟨a1,l1,c1,a2,l2,c2,rfl,_⟩:=h;rfl
theorem i_5 {a1:OA}{l1 c1:Nat}{a2:OA}{l2 c2:Nat}{a3:OA}{l3 c3:Nat}{a4:OA}{l4 c4:Nat}{a5:OA}{l5 c5:Nat}(deep:Int)
  {defs exts:List SchemaDef} {dirs:List DirDef} {types texts:List Def}
  (h1:a_p w a1 l1 c1 defs) (h2:a_p w a2 l2 c2 exts) (h3:a_Y w a3 l3 c3 dirs) (h4:RDefs w a4 l4 c4 types) (h5:RDefs w a5 l5 c5 texts) (hs:l1+l2<=4194304):
  CP 106 #[.agg #[.slice a1 l1 c1,.slice a2 l2 c2,.slice a3 l3 c3,.slice a4 l4 c4,.slice a5 l5 c5],.int .i64 deep] w
   (RetB w fun b=>b=true->(∀ x∈types,okDef x)/\∀ x∈dirs,∀ y∈x.args,a_s y):=by
 obtain ⟨f1,g1⟩:=h1.len;obtain ⟨f2,g2⟩:=h2.len;obtain ⟨f3,g3⟩:=h3.len;obtain ⟨f4,g4⟩:=h4.len;obtain ⟨f5,g5⟩:=h5.len;refine j_z a1 l1 c1 a2 l2 c2 a3 l3 c3 a4 l4 c4 a5 l5 c5 deep w _ ⟨trivial,?_⟩;intro w7 w8 e8;have hx8:EF w w8:=by rw [e8];exact ((Ext.refl w).alloc _).drew
 clear e8 w7;refine ⟨by simp,?_⟩;have hx9:=hx8.alloc (.cells #[] 326);have hown:=Own.made w.heap.size w8 326 3 0 #[] hx8.size (by simp) (by simp);obtain ⟨A,C,w11,r1,⟨cells1,o1,q1⟩,x1,y1⟩:=c_7 22 326 Tryz.t326 _ 3 _ (by kernel_rfl) (by kernel_rfl) rfl (by kernel_rfl) rfl (by kernel_rfl) (by omega) (by decide) hown hx9.size (xs:=[]) (R:=a_M w) .nil (SlL.keep hx9.keep (by decide) h1 fun _ _ _ h=>h)
  a_M.len3 (by omega) 22 #[false,false]
 have hx11:EF w w11:=hx9.trans x1 fun b hb hbl=>by
  have:=(hown.base b hbl).1;omega
 rw [Nat.zero_add] at r1 o1;refine ⟨A,l1,C,w11,r1,⟨hown.keepT x1 (by decide),trivial⟩,by simp,?_⟩;obtain ⟨A2,C2,w13,r2,⟨cells2,o2,q2⟩,x2,y2⟩:=c_7 22 326 Tryz.t326 _ 3 _ (by kernel_rfl) (by kernel_rfl) rfl (by kernel_rfl) rfl (by kernel_rfl) (by omega) (by decide) o1 hx11.size q1 (SlL.keep hx11.keep (by decide) h2 fun _ _ _ h=>h)
  a_M.len3 (by omega) 22 #[false,false]
 have hx13:EF w w13:=hx11.trans x2 fun b hb hbl=>by
  have:=(o1.base b hbl).1;omega
 have hall:SlL w13 326 3 (a_M w) A2 (l1+l2) C2 (defs++exts):=o2.sl (by simpa using q2) (by omega) hs;refine ⟨A2,l1+l2,C2,w13,r2,⟨o1.keepT x2 (by decide),trivial⟩,trivial,?_⟩;refine ⟨fun i w1=>0<=i/\i<=((l1+l2:Nat):Int)/\EF w w1/\EF w13 w1,fun i _=>(((l1+l2:Nat):Int)-i).toNat,⟨by omega,by omega,hx13,Ext.refl _⟩,?_⟩;rintro i w1 ⟨h0,hi,hx,hxx⟩;refine ⟨fun hlt=>?_,fun hge=>?_⟩
 ·have hlt:=odt hlt;obtain ⟨p,x,hp,hxs,cs,hc,b1,m1,d1,b2,m2,d2,rfl,hv1,hv2⟩:=hall.get h0 hlt;obtain ⟨⟨_,_,hc0⟩,hs0,⟨_,_,hc1⟩,hs1,⟨_,_,hc2⟩,-⟩:=hc;refine ⟨p,hp,⟨h0,hlt⟩,_,hxx.cell hc0 id,_,_,_,hxx.cell hc1 id,_,_,_,hxx.cell hc2 id,trivial,trivial,?_⟩;have hx':=hx.alloc (.cells #[.string x.doc,.slice b1 m1 d1,.slice b2 m2 d2] 326);refine (j_7 deep hs0 (hv1.keep hx'.keep) (hv2.keep hx'.keep)).mono ?_;rintro _ w2 ⟨b,rfl,hx2,-⟩;refine ⟨b,rfl,by simp [hx2.keepT],fun _=>⟨false,rfl,hx'.then hx2,nofun⟩,fun _=>?_⟩;rw [a_a h0 (by omega)];exact next h0 hlt ⟨hx'.then hx2,(hxx.alloc _).then hx2⟩
 refine ⟨fun i w1=>0<=i/\i<=l2/\EF w w1,fun i _=>((l2:Int)-i).toNat,⟨by omega,by omega,hx⟩,?_⟩;clear hxx hi h0 hge hx;rintro i w1 ⟨h0,hi,hx⟩;refine ⟨fun hlt=>?_,fun hge=>?_⟩
 ·have hlt:=odt hlt;obtain ⟨p,x,hp,hxs,cs,hc,b1,m1,d1,b2,m2,d2,rfl,hv1,hv2⟩:=h2.get h0 hlt;obtain ⟨⟨_,_,hc0⟩,hs0,⟨_,_,hc1⟩,hs1,⟨_,_,hc2⟩,-⟩:=hc;refine ⟨p,hp,⟨h0,hlt⟩,_,hx.cell hc0 id,_,_,_,hx.cell hc1 id,_,_,_,hx.cell hc2 id,trivial,trivial,?_⟩;have hx':=hx.alloc (.cells #[.string x.doc,.slice b1 m1 d1,.slice b2 m2 d2] 326);refine ⟨fun _=>⟨false,rfl,hx',nofun⟩,fun _=>?_⟩;rw [a_a h0 (by omega)];exact next h0 hlt hx'
 refine ⟨fun i w1=>0<=i/\i<=l3/\EF w w1/\∀ x∈dirs.take i.toNat,∀ y∈x.args,a_s y,fun i _=>((l3:Int)-i).toNat,⟨by omega,by omega,hx,by simp⟩,?_⟩;clear hi h0 hge hx;rintro i w1 ⟨h0,hi,hx,hn⟩;refine ⟨fun hlt=>?_,fun hge=>?_⟩
 ·have hlt:=odt hlt;obtain ⟨p,x,hp,hxs,cs,hc,b1,m1,d1,b2,m2,d2,rfl,hv1,hv2⟩:=h3.get h0 hlt;obtain ⟨⟨_,_,hc0⟩,hs0,⟨_,_,hc1⟩,hs1,⟨_,_,hc2⟩,hs2,⟨_,_,hc3⟩,hs3,⟨_,_,hc4⟩,-⟩:=hc;refine ⟨p,hp,⟨h0,hlt⟩,_,hx.cell hc0 id,_,hx.cell hc1 id,_,_,_,hx.cell hc2 id,_,_,_,hx.cell hc3 id,_,hx.cell hc4 id,trivial,trivial,fun K hK=>?_⟩;have hx':=hx.alloc (.cells #[.string x.doc,.string x.name,.slice b1 m1 d1,.slice b2 m2 d2,.bool x.rep] 120);have key:∀ b w',EF w w'->(b=false->∀ y∈x.args,a_s y)->K b w':=by
   intro b w' hx' hy;refine hK b w' ⟨fun _=>⟨false,rfl,hx',nofun⟩,fun hb=>?_⟩;have hy:=hy hb;obtain ⟨e1,e3⟩:=hv2.len;refine ⟨fun k w1=>0<=k/\k<=m2/\EF w w1,fun k _=>((m2:Int)-k).toNat,⟨by omega,by omega,hx'⟩,?_⟩;rintro k w1 ⟨k0,k1,kx⟩;refine ⟨fun klt=>?_,fun kge=>?_⟩
   ·have klt:=odt klt;obtain ⟨p,s,hp,hss,cs,hc,rfl⟩:=hv2.get k0 klt;refine ⟨p,hp,⟨k0,klt⟩,_,kx.cell hc.1.choose_spec.2 id,(i_7 s w1).mono ?_⟩;rintro _ w2 ⟨b,rfl,hx2,-⟩;refine ⟨b,rfl,by simp [hx2.keepT],fun _=>⟨false,rfl,kx.then hx2,nofun⟩,fun _=>?_⟩;rw [a_a k0 (by omega)];exact next k0 klt (kx.then hx2)
   ·rw [a_a h0 (by omega)];exact next h0 hlt ⟨kx,a_g h0 hn hxs hy⟩
  replace hs0:x.doc.size<=4194304:=hs0;replace hs1:x.name.size<=4194304:=hs1
  repeat' first
   | exact trivial
   | exact ⟨rfl,trivial⟩
   | exact ff
   | exact tf
   | exact nf
   | exact nt
   | exact key _ _ (by assumption) tf
   | exact key _ _ (by assumption) nf
   | exact key _ _ (by assumption) (fun _=>by assumption)
   | (refine (RetB.base (c_C _ (by assumption) _) (by assumption)).mono ?_;rintro _ _ ⟨b,rfl,hk,hx,hb⟩;refine ⟨b,rfl,by simp [hk],?_⟩;clear hk;cases b<;>try replace hb:=hb rfl)
   | (refine (RetB.base (a_B _ (by assumption) _) (by assumption)).mono ?_;rintro _ _ ⟨b,rfl,hk,hx,hb⟩;refine ⟨b,rfl,by simp [hk],?_⟩;clear hk;cases b<;>try replace hb:=hb rfl)
   | (refine (RetB.base (e_s _ (a_R.keep (Ext.keep (by assumption)) (by assumption))) (by assumption)).mono ?_;rintro _ _ ⟨b,rfl,hk,hx,hb⟩;refine ⟨b,rfl,by simp [hk],?_⟩;clear hk;cases b<;>try replace hb:=hb rfl)
   | refine And.intro ?_ ?_
   | intro _
 have hdirs:=a_o f3 hge hn;refine ⟨fun i w1=>0<=i/\i<=l4/\EF w w1/\∀ x∈types.take i.toNat,okDef x,fun i _=>((l4:Int)-i).toNat,⟨by omega,by omega,hx,by simp⟩,?_⟩;clear hi h0 hge hx hn;rintro i w1 ⟨h0,hi,hx,hn⟩;refine ⟨fun hlt=>?_,fun hge=>?_⟩
 ·have hlt:=odt hlt;obtain ⟨p,x,hp,hxs,cs,hc,b1,m1,d1,b2,m2,d2,b3,m3,d3,b4,m4,d4,b5,m5,d5,rfl,hv1,hv2,hv3,hv4,hv5⟩:=h4.get h0 hlt;obtain ⟨⟨_,_,hc0⟩,hs0,⟨_,_,hc1⟩,hs1,⟨_,_,hc2⟩,hs2,⟨_,_,hc3⟩,hs3,⟨_,_,hc4⟩,hs4,⟨_,_,hc5⟩,hs5,⟨_,_,hc6⟩,hs6,⟨_,_,hc7⟩,-⟩:=hc;refine ⟨p,hp,⟨h0,hlt⟩,_,hx.cell hc0 id,_,hx.cell hc1 id,_,hx.cell hc2 id,_,_,_,hx.cell hc3 id,_,_,_,hx.cell hc4 id,_,_,_,hx.cell hc5 id,_,_,_,hx.cell hc6 id,_,_,_,hx.cell hc7 id,trivial,trivial,?_⟩;have hx':=hx.alloc (.cells #[.string x.kind,.string x.doc,.string x.name,.slice b1 m1 d1,.slice b2 m2 d2,.slice b3 m3 d3,.slice b4 m4 d4,.slice b5 m5 d5] 96);refine (i_4 x deep rfl rfl rfl hs1 hs2 (hv1.keep hx'.keep) (hv2.keep hx'.keep) (hv3.keep hx'.keep) (hv4.keep hx'.keep) (hv5.keep hx'.keep)).mono ?_;rintro _ w2 ⟨b,rfl,hx2,hb⟩;refine ⟨b,rfl,by simp [hx2.keepT],fun _=>⟨false,rfl,hx'.then hx2,nofun⟩,fun hb'=>?_⟩;rw [a_a h0 (by omega)];exact next h0 hlt ⟨hx'.then hx2,a_g h0 hn hxs (hb (by simpa using hb'))⟩
 have htypes:=a_o f4 hge hn;refine ⟨fun i w1=>0<=i/\i<=l5/\EF w w1,fun i _=>((l5:Int)-i).toNat,⟨by omega,by omega,hx⟩,?_⟩;clear hi h0 hge hx hn;rintro i w1 ⟨h0,hi,hx⟩;refine ⟨fun hlt=>?_,fun hge=>⟨_,rfl,hx,fun _=>⟨htypes,hdirs⟩⟩⟩;have hlt:=odt hlt;obtain ⟨p,x,hp,hxs,cs,hc,b1,m1,d1,b2,m2,d2,b3,m3,d3,b4,m4,d4,b5,m5,d5,rfl,hv1,hv2,hv3,hv4,hv5⟩:=h5.get h0 hlt;obtain ⟨⟨_,_,hc0⟩,hs0,⟨_,_,hc1⟩,hs1,⟨_,_,hc2⟩,hs2,⟨_,_,hc3⟩,hs3,⟨_,_,hc4⟩,hs4,⟨_,_,hc5⟩,hs5,⟨_,_,hc6⟩,hs6,⟨_,_,hc7⟩,-⟩:=hc;refine ⟨p,hp,⟨h0,hlt⟩,_,hx.cell hc0 id,_,hx.cell hc1 id,_,hx.cell hc2 id,_,_,_,hx.cell hc3 id,_,_,_,hx.cell hc4 id,_,_,_,hx.cell hc5 id,_,_,_,hx.cell hc6 id,_,_,_,hx.cell hc7 id,trivial,trivial,fun K hK=>?_⟩;have hx':=hx.alloc (.cells #[.string x.kind,.string x.doc,.string x.name,.slice b1 m1 d1,.slice b2 m2 d2,.slice b3 m3 d3,.slice b4 m4 d4,.slice b5 m5 d5] 96);have key:∀ b w',EF w w'->K b w':=fun b w' hx'=>hK b w' ⟨fun _=>⟨false,rfl,hx',nofun⟩,fun _=>by
  rw [a_a h0 (by omega)];exact next h0 hlt hx'⟩
 refine (RetB.base (i_4 x deep rfl rfl rfl hs1 hs2 (hv1.keep hx'.keep) (hv2.keep hx'.keep) (hv3.keep hx'.keep) (hv4.keep hx'.keep) (hv5.keep hx'.keep)) hx').mono ?_;rintro _ w2 ⟨b,rfl,hk,hx2,hb⟩;refine ⟨b,rfl,by simp [hk],fun _=>⟨fun _=>?_,fun _=>key _ _ hx2⟩,fun _=>key _ _ hx2⟩;refine (RetB.base (n_9 _ _ _ _ _ _ _ _ _ _ _ _ _ _ _ _ _ _ w2) hx2).mono ?_;rintro _ w3 ⟨b,rfl,hk,hx3,-⟩;exact ⟨b,rfl,by simp [hk],key _ _ hx3⟩
theorem l_9 (IH:∀ y∈xs,∀ (a:OA) (l c:Nat) (w:World),(∃ kids,RSels w a l c kids/\SizeOf.sizeOf kids<SizeOf.sizeOf y)->CP 42 #[.slice a l c] w fun e w'=>∃ n:Int,e=.returned (.int .i64 n)/\EF w w')
     (hl:RSels w a l c xs):CP 42 #[.slice a l c] w fun e w'=>∃ n:Int,e=.returned (.int .i64 n)/\EF w w':=by
 obtain ⟨e1,e3⟩:=hl.len;refine o_4 a l c w _ ⟨fun _ i w1=>0<=i/\i<=l/\EF w w1,fun _ i _=>((l:Int)-i).toNat,⟨by omega,by omega,Ext.refl w⟩,?_⟩;rintro m i w1 ⟨h0,h1,hx⟩;refine ⟨fun hlt=>?_,fun hge=>⟨_,rfl,hx⟩⟩;have hlt:=odt hlt;obtain ⟨p,x,hp,hxs,cs,hc,hv⟩:=hl.get h0 hlt;have hxm:=IH x (mg_ hxs);obtain ⟨k,al,n,on,args,dirs,kids⟩:=x;obtain ⟨a1,l1,c1,a2,l2,c2,a3,l3,c3,rfl,hv1,hv2,hv3⟩:=c_w.1 hv;obtain ⟨⟨_,_,hc0⟩,hs0,⟨_,_,hc1⟩,hs1,⟨_,_,hc2⟩,hs2,⟨_,_,hc3⟩,hs3,⟨_,_,hc4⟩,hs4,⟨_,_,hc5⟩,hs5,⟨_,_,hc6⟩,-⟩:=hc;refine ⟨p,hp,⟨h0,hlt⟩,_,hx.cell hc0 id,_,hx.cell hc1 id,_,hx.cell hc2 id,_,hx.cell hc3 id,_,_,_,hx.cell hc4 id,_,_,_,hx.cell hc5 id,_,_,_,hx.cell hc6 id,trivial,trivial,?_⟩;have hx':=hx.alloc (.cells #[.int .i64 k,.string al,.string n,.string on,.slice a1 l1 c1,.slice a2 l2 c2,.slice a3 l3 c3] 78);refine (hxm a3 l3 c3 _ ⟨kids,hv3.keep hx'.keep,by simp only [Sel.mk.sizeOf_spec];omega⟩).mono ?_;rintro _ w2 ⟨n,rfl,hx2⟩;refine ⟨n,rfl,by simp [hx2.keepT],?_⟩;rw [a_a h0 (by omega)];exact next h0 hlt (hx'.then hx2)
theorem l_y:∀ (d:Nat) (xs:List Sel),SizeOf.sizeOf xs<d->∀ (a:OA) (l c:Nat) (w:World),RSels w a l c xs->CP 42 #[.slice a l c] w fun e w'=>∃ n:Int,e=.returned (.int .i64 n)/\EF w w':=by
 intro d;induction d with
 | zero=>intro xs h;omega
 | succ d ih=>
  intro xs h a l c w hl;refine l_9 (fun y hy a l c w ⟨kids,hk,hlt⟩=>ih kids ?_ a l c w hk) hl;have:=List.sizeOf_lt_of_mem hy;omega
theorem n_S (hl:RSels w a l c xs):CP 42 #[.slice a l c] w fun e w'=>∃ n:Int,e=.returned (.int .i64 n)/\EF w w':=
 l_y _ xs (Nat.lt_succ_self _) a l c w hl
open Classical in
 noncomputable def minN (p:Nat->Prop):Nat:=if h:∃ n,p n/\∀ m,p m->n<=m then Classical.choose h else 0
theorem o_h {p:Nat->Prop}:(∃ n,p n)->∃ n,p n/\∀ m,p m->n<=m:=by
 rintro ⟨n,hn⟩;induction n using Nat.strongRecOn with
 | _ n ih=>
  by_cases h:∃ m,m<n/\p m
  ·obtain ⟨m,h1,h2⟩:=h;exact ih m h1 h2
  ·exact ⟨n,hn,fun m hm=>Nat.le_of_not_lt fun hlt=>h ⟨m,hlt,hm⟩⟩
theorem j_u {p:Nat->Prop}(h:∃ n,p n):p (minN p)/\∀ m,p m->minN p<=m:=by
 have:=o_h h;unfold minN;rw [dif_pos this];exact Classical.choose_spec this
def a_n:Typ->BA
 | .mk n [] _=>n
 | .mk _ (t::_) _=>a_n t
theorem k_R {x:Typ}{n:BA}{nn:Bool}(hn:n.size<=4194304)(h:RTyp w x n a l c nn):
  CP 45 #[.agg #[.string n,.slice a l c,.bool nn]] w fun e w'=>e=.returned (.string (a_n x))/\(a_n x).size<=4194304/\EF w w':=by
 have hx0:=(Ext.refl (X:=fun _=>False) w).alloc (.cells #[.string n,.slice a l c,.bool nn] 63);refine o_0 n a l c nn w _ ⟨trivial,?_⟩;refine ⟨fun s a l c b w'=>EF w w'/\s.size<=4194304/\∃ t,RTyp w t s a l c b/\a_n t=a_n x,fun s a l c b _=>minN fun d=>∃ t,RTyp w t s a l c b/\SizeOf.sizeOf t=d,⟨hx0,hn,x,h,rfl⟩,?_⟩;rintro s a l c b w1 ⟨hx,hs,t,ht,hb⟩;have hmin:=j_u (p:=fun d=>∃ t,RTyp w t s a l c b/\SizeOf.sizeOf t=d) ⟨_,t,ht,rfl⟩;refine ⟨fun hl=>?_,fun hl=>?_⟩
 ·have hl:=odt hl;obtain ⟨⟨tm,hm1,hm2⟩,-⟩:=hmin;have child:∀ t,RTyp w t s a l c b->∃ t',a_n t=a_n t'/\SizeOf.sizeOf t'<SizeOf.sizeOf t/\∃ p,a=some p/\∃ cs,a_x w 63 (p.add 0) 0 cs/\RTypE w t' cs:=by
   intro t ht;obtain ⟨n0,el,nn0⟩:=t;obtain ⟨-, -, hsl⟩:=b_M.1 ht;obtain ⟨p,y,hp,hys,cs,hc,hr⟩:=hsl.get (Int.le_refl 0) hl;cases el with
   | nil=>simp at hys
   | cons y' el=>
    obtain rfl:y'=y:=by simpa using hys
    exact ⟨y',rfl,by simp only [Typ.mk.sizeOf_spec,List.cons.sizeOf_spec];omega,p,hp,cs,by simpa using hc,hr⟩
  obtain ⟨t',hb',-, p,hp,cs,hc,s',a',l',c',b',rfl,hr⟩:=child t ht;obtain ⟨t2,-, hsz,p2,hp2,cs2,hc2,s2,a2,l2,c2,b2,rfl,hr2⟩:=child tm hm1;have e0:p.add ((0:Int).toNat*3)=p.add 0:=rfl;obtain ⟨⟨_,_,hc0⟩,hs0,⟨_,_,hc1⟩,-, ⟨_,_,hc3⟩,-⟩:=hc;obtain ⟨⟨_,_,hd0⟩,-, ⟨_,_,hd1⟩,-, ⟨_,_,hd3⟩,-⟩:=hc2;rw [hp] at hp2;cases hp2;have q0:=hc0.cell.symm.trans hd0.cell;have q1:=hc1.cell.symm.trans hd1.cell;have q3:=hc3.cell.symm.trans hd3.cell;simp only [Option.some.injEq,Value.string.injEq,Value.slice.injEq,Value.bool.injEq] at q0 q1 q3;obtain ⟨rfl,rfl,rfl⟩:=q1;subst q0 q3;refine ⟨p,hp,⟨Int.le_refl 0,hl⟩,_,hx.cell hc0 id,_,_,_,hx.cell hc1 id,_,hx.cell hc3 id,trivial,⟨hx.setB (.inr (Nat.le_refl _)) _ _,hs0,t',hr,hb'.symm.trans hb⟩,?_⟩;have:=(j_u (p:=fun d=>∃ t,RTyp w t s' a' l' c' b'/\SizeOf.sizeOf t=d) ⟨_,t2,hr2,rfl⟩).2 _ ⟨t2,hr2,rfl⟩;show minN _<minN _;omega
 ·have hl:l=0:=by have:=odf hl;omega
  obtain ⟨n0,el,nn0⟩:=t;obtain ⟨rfl,rfl,hsl⟩:=b_M.1 ht;have hel:el=[]:=List.length_eq_zero_iff.1 (by have:=hsl.len.1;omega);subst hel;simp only [a_n] at hb;refine ⟨by rw [<- hb],by rw [<- hb];exact hs,hx⟩
abbrev scal:List BA:=[⟨#[73,110,116]⟩,⟨#[70,108,111,97,116]⟩,⟨#[83,116,114,105,110,103]⟩,⟨#[66,111,111,108,101,97,110]⟩,⟨#[73,68]⟩]
abbrev giv:List BA:=[⟨#[115,107,105,112]⟩,⟨#[105,110,99,108,117,100,101]⟩,⟨#[100,101,112,114,101,99,97,116,101,100]⟩,⟨#[115,112,101,99,105,102,105,101,100,66,121]⟩,⟨#[111,110,101,79,102]⟩,⟨#[100,101,102,101,114]⟩,⟨#[115,116,114,101,97,109]⟩]
theorem g_k:∀ (xs:List BA),(∀ s∈xs,s.size<=4194304)->Flat 1 (fun s cs=>cs=[.string s]) xs (xs.map .string)
 | [],_=>.nil
 | s::l,h=>Flat.cons (cs:=[.string s]) rfl (fun v hv=>by
   obtain rfl:v=.string s:=by simpa using hv
   exact h s (by simp)) rfl (g_k l fun x hx=>h x (by simp [hx]))
theorem g_S (w:World)(xs:List BA)(h:∀ s∈xs,s.size<=4194304)(hl:xs.length<=4194304):RStrs (w.alloc (.cells (xs.map Value.string).toArray 9)) (some (adr w.heap.size)) xs.length xs.length xs:=by
 have h1:=Own.made 0 w 9 1 xs.length (xs.map Value.string).toArray (Nat.zero_le _) (by simp only [maxLen];omega) (by simp);exact h1.sl (by simpa using g_k xs h) (by omega) hl
theorem f_6 (w:World):CP 126 #[] w fun e w'=>∃ (a:OA) (l c:Nat),e=.returned (.slice a l c)/\RStrs w' a l c scal/\EF w w':=
 m_V w _ ⟨trivial,_,_,_,rfl,g_S w scal (by decide) (by decide),(Ext.refl w).alloc _⟩
theorem j_8 (w:World):CP 109 #[] w fun e w'=>∃ (a:OA) (l c:Nat),e=.returned (.slice a l c)/\RStrs w' a l c giv/\EF w w':=
 k_v w _ ⟨trivial,_,_,_,rfl,g_S w giv (by decide) (by decide),(Ext.refl w).alloc _⟩
abbrev d_m:BA:=⟨#[83,67,65,76,65,82]⟩
abbrev kEnum:BA:=⟨#[69,78,85,77]⟩
abbrev b_f:BA:=⟨#[73,78,80,85,84,95,79,66,74,69,67,84]⟩
abbrev a_V:BA:=⟨#[79,66,74,69,67,84]⟩
abbrev b_i:BA:=⟨#[73,78,84,69,82,70,65,67,69]⟩
abbrev d_n:BA:=⟨#[85,78,73,79,78]⟩
theorem f_U (s:BA)(w:World):CP 116 #[.string s] w (RetB w fun b=>b=true↔s=d_m∨s=kEnum∨s=b_f):=by
 refine m_I s w _ fun K hK=>?_;have key:∀ b,(b=true↔s=d_m∨s=kEnum∨s=b_f)->K b w:=fun b h=>hK b w ⟨b,rfl,Ext.refl w,h⟩;refine ⟨fun h1=>⟨fun h2=>key _ ?_,fun h2=>key _ ?_⟩,fun h1=>key _ ?_⟩
 ·rw [a_b];have:=a_f.1 h1;have:=a_f.1 h2;simp_all
 ·simp [a_b.1 h2]
 ·simp [a_b.1 h1]
theorem l_v (s:BA)(w:World):CP 167 #[.string s] w (RetB w fun b=>b=true↔s≠E0/\s≠b_f):=by
 refine l_K s w _ fun K hK=>?_;have key:∀ b,(b=true↔s≠E0/\s≠b_f)->K b w:=fun b h=>hK b w ⟨b,rfl,Ext.refl w,h⟩;refine ⟨fun h1=>key _ ?_,fun h1=>key _ ?_⟩
 ·have h1:=g_r h1;rw [c_A];simp [h1]
 ·simp [b_2 h1]
theorem b_5 (s:BA)(w:World):CP 57 #[.string s] w (RetB w fun b=>b=true↔s=a_V∨s=b_i∨s=d_n):=by
 refine i_C s w _ fun K hK=>?_;have key:∀ b,(b=true↔s=a_V∨s=b_i∨s=d_n)->K b w:=fun b h=>hK b w ⟨b,rfl,Ext.refl w,h⟩;refine ⟨fun h1=>⟨fun h2=>key _ ?_,fun h2=>key _ ?_⟩,fun h1=>key _ ?_⟩
 ·rw [a_b];have:=a_f.1 h1;have:=a_f.1 h2;simp_all
 ·simp [a_b.1 h2]
 ·simp [a_b.1 h1]
theorem p_h (s:BA)(hs:s.size<=4194304)(w:World):CP 170 #[.string s] w (RetB w fun b=>b=true->s≠E0/\s∉scal):=by
 refine p_n s w _ fun K hK=>?_;have key:∀ b w',EF w w'->(b=true->s≠E0/\s∉scal)->K b w':=fun b w' hx h=>hK b w' ⟨b,rfl,hx,h⟩;refine (a_B s hs w).mono ?_;rintro _ w1 ⟨b,rfl,hx,hb⟩;refine ⟨b,rfl,trivial,fun hb'=>?_,fun _=>key _ _ hx ff⟩;have hne:=hb hb';have fin:CP 126 #[] w1 (fun e8 wv9=>∃ (a10:OA) (a10l a10c:Nat),e8=.returned (.slice a10 a10l a10c)/\True/\CP 60 #[.string s,.slice a10 a10l a10c] wv9 (fun e11 wv12=>∃ b13:Bool,e11=.returned (.bool b13)/\True/\K (!b13) wv12)):=by
  refine (f_6 w1).mono ?_;rintro _ w2 ⟨a,l,c,rfl,h1,h2⟩;refine ⟨a,l,c,rfl,trivial,(c_in s h1).mono ?_⟩;rintro _ w3 ⟨b,rfl,hx3,hb3⟩;refine ⟨b,rfl,trivial,key _ _ ((hx.then h2).then hx3) fun h=>⟨hne,fun hm=>?_⟩⟩;rw [hb3.2 hm] at h;cases h
 refine ⟨fun h2=>⟨⟨by omega,by omega,by simpa using h2⟩,fun _=>fin,fun _=>key _ _ hx ff⟩,fun _=>fin⟩
theorem RStrs.take {xs:List BA}(h:RStrs w a l c xs){i:Int}(h0:0<=i)(hi:i<(l:Int)):
  RStrs w (if c=(0:Int).toNat then a else Option.map (·.add ((0:Int).toNat*1)) a) (i.toNat-(0:Int).toNat) (c-(0:Int).toNat) (xs.take i.toNat):=by
 obtain ⟨e,e2,e3,h⟩:=h;have ha:(if c=(0:Int).toNat then a else Option.map (·.add ((0:Int).toNat*1)) a)=a:=by
  split
  ·rfl
  ·cases a<;>simp [Addr.add]
 rw [ha];refine ⟨by simp;omega,by simp;omega,by simp;omega,fun j x hx=>?_⟩;rw [List.getElem?_take] at hx;split at hx
 ·exact h j x hx
 ·cases hx
theorem d_A {xs:List BA}(hl:RStrs w a l c xs):CP 112 #[.slice a l c] w (RetB w fun b=>b=true->xs.Nodup/\∀ s∈xs,s≠E0/\s∉scal):=by
 obtain ⟨e1,e3⟩:=hl.len;have e2:l<=c:=hl.2.1;refine n_z a l c w _ ⟨fun i w1=>0<=i/\i<=l/\EF w w1/\(xs.take i.toNat).Nodup/\∀ s∈xs.take i.toNat,s≠E0/\s∉scal,fun i _=>((l:Int)-i).toNat,⟨by omega,by omega,Ext.refl w,by simp,by simp⟩,?_⟩;rintro i w1 ⟨h0,h1,hx,hnd,hn⟩;refine ⟨fun hlt=>?_,fun hge=>⟨true,rfl,hx,fun _=>⟨?_,a_o e1 hge hn⟩⟩⟩
 ·have hlt:=odt hlt;obtain ⟨p,x,hp,hxs,cs,hc,rfl⟩:=hl.get h0 hlt;refine ⟨p,hp,⟨h0,hlt⟩,x,hx.cell hc.1.choose_spec.2 id,fun K hK=>?_⟩;have key:∀ b w',EF w w'->(b=false->(x≠E0/\x∉scal)/\x∉xs.take i.toNat)->K b w':=fun b w' hx' hy=>hK b w' ⟨fun _=>⟨false,rfl,hx',nofun⟩,fun hb=>by
   rw [a_a h0 (by omega)];refine next h0 hlt ⟨hx',?_,a_g h0 hn hxs (hy hb).1⟩
   rw [show (i+1).toNat=i.toNat+1 by omega,List.take_succ,hxs];exact List.nodup_append.2 ⟨hnd,by simp,fun y hy' z hz e=>by
    obtain rfl:z=x:=by simpa using hz
    exact (hy hb).2 (e▸hy')⟩⟩
  refine (RetB.base (p_h x hc.2.1 w1) hx).mono ?_;rintro _ w2 ⟨b,rfl,hk,hx2,hb⟩;refine ⟨b,rfl,trivial,fun hb'=>⟨⟨by omega,by omega,by omega⟩,?_⟩,fun _=>key _ _ hx2 tf⟩;refine (RetB.base (c_in x (RStrs.keep hx2.keep (hl.take h0 hlt))) hx2).mono ?_;rintro _ w3 ⟨b3,rfl,hk,hx3,hb3⟩;exact ⟨b3,rfl,trivial,key _ _ hx3 fun h=>⟨hb (by simpa using hb'),fun hm=>by rw [hb3.2 hm] at h;cases h⟩⟩
 ·have:=odf hge
  rwa [tl_ (by omega)] at hnd
end Go.VC
