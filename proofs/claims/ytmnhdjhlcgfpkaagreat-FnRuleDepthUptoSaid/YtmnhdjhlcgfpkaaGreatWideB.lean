/- Part of the proof of a law of a rule over documents (WideB), where what the arguments hold is of bulk at most 1048576. -/
import Derived.Test.YtmnhdjhlcgfpkaaGreatWideA
import Derived.Test.YtmnhdjhlcgfpkaaGreatTextC
set_option linter.unusedVariables false
set_option linter.unusedSectionVars false
namespace Go.VC
open Go Go.Proofs
variable [DB]
variable {types:List Def}{dirs:List DirDef}{c l:Nat}{a:OA}
structure WorldD where
 types:List Def
 dirs:List DirDef
 query:BA
 mutation:BA
 subscription:BA
 possible:List Named
 implements:List Named
def c_6 (w:World)(x:WorldD)(cs:List Value):Prop:=∃ (a1:OA) (l1 c1:Nat) (a2:OA) (l2 c2:Nat) (a6:OA) (l6 c6:Nat) (a7:OA) (l7 c7:Nat),
 cs=[.slice a1 l1 c1,.slice a2 l2 c2,.string x.query,.string x.mutation,.string x.subscription,.slice a6 l6 c6,.slice a7 l7 c7]/\RDefs w a1 l1 c1 x.types/\a_Y w a2 l2 c2 x.dirs/\d_X w a6 l6 c6 x.possible/\d_X w a7 l7 c7 x.implements
def compQ (t:Def):Bool:=decide (t.kind=a_V)||decide (t.kind=b_i)||decide (t.kind=d_n)
def possN (types l:List Def):List Named:=(l.filter compQ).map fun t=>⟨t.name,b_O types t.name⟩
def n_U (types:List Def)(t:Def):Bool:=decide (((a_8 types t.name).length:Int)>0)
def implN (types l:List Def):List Named:=(l.filter (n_U types)).map fun t=>⟨t.name,a_8 types t.name⟩
def wideD (types:List Def)(dirs:List DirDef)(roots:List RootD):WorldD:=
 ⟨a_P++types,d_s++dirs,rootD roots a_5,rootD roots bMut,rootD roots bSub,possN types types,implN types types⟩
abbrev StrK (w w':World):Prop:=∀ T' v a,okT 9 T' a.block->At w T' a v->At w' T' a v
theorem b_J.strk {w w':World}(h:StrK w w'){x:Named}{cs:List Value}:b_J w x cs->b_J w' x cs
 | ⟨a1,l1,c1,h1,h2⟩=>⟨a1,l1,c1,h1,SlL.mono1 h2 h⟩
def WSt (w31:World)(x:Nat)(P6 P7:List Named)(A6:OA)(L6 C6:Nat)(A7:OA)(L7 C7:Nat)(w:World):Prop:=
 Ext (XM x) w31 w/\(∃ cs,Blk w x 40 cs)/\OwnR 99 2 (b_J w) w31.heap.size w A6 L6 C6 P6/\OwnR 99 2 (b_J w) w31.heap.size w A7 L7 C7 P7/\∀ b,blkOf A6 b->¬ blkOf A7 b
section
variable {w31:World} {x:Nat} {P6 P7:List Named} {A6:OA} {L6 C6:Nat} {A7:OA} {L7 C7:Nat} {w:World}
theorem WSt.swap (h:WSt w31 x P6 P7 A6 L6 C6 A7 L7 C7 w):WSt w31 x P7 P6 A7 L7 C7 A6 L6 C6 w:=⟨h.1,h.2.1,h.2.2.2.1,h.2.2.1,fun b hb ha=>h.2.2.2.2 b ha hb⟩
theorem WSt.keep {w':World}(h:WSt w31 x P6 P7 A6 L6 C6 A7 L7 C7 w)(hx:EF w w'):WSt w31 x P6 P7 A6 L6 C6 A7 L7 C7 w':=by
 obtain ⟨h1,⟨cs,h2⟩,h3,h4,h5⟩:=h;have hs:StrK w w':=fun _ v a _ h=>hx.at id h;exact ⟨h1.then hx,⟨cs,h2.ext hx id⟩,(h3.keep0 hx).mono fun _ _ _=>b_J.strk hs,(h4.keep0 hx).mono fun _ _ _=>b_J.strk hs,h5⟩
theorem WSt.push {n:Named}(h:WSt w31 x P6 P7 A6 L6 C6 A7 L7 C7 w)(hx31:x<w31.heap.size)(hBx:DB.B<=x)(hs:n.name.size<=4194304)(hn:RStrs w a l c n.names)(h2:L6+1<=16777216):
  ∃ (A':OA) (C':Nat) (w':World),(Go.builtin .append #[38,38] 38 #[false,false] #[.slice A6 L6 C6,.slice (some (adr w.heap.size)) 1 1]).run Tryz.prog (w.alloc (.cells #[.string n.name,.slice a l c] 99))=.ok (.value (.slice A' (L6+1) C')) w'/\
   (∀ T,T≠99->KeepT T (w.alloc (.cells #[.string n.name,.slice a l c] 99)) w')/\∀ cs,WSt w31 x (P6++[n]) P7 A' (L6+1) C' A7 L7 C7 (setB w' x cs 40):=by
 obtain ⟨h1,⟨cs,hb⟩,h3,h4,h5⟩:=h;obtain ⟨A',C',w',r,o',x',k',n'⟩:=h3.one 38 Tryz.t99 _ _ (by kernel_rfl) (by kernel_rfl) rfl (by kernel_rfl) rfl (by kernel_rfl) (by omega) (by decide) h1.size (x:=n) (cs:=[.string n.name,.slice a l c]) rfl (fun v hv=>by
   simp only [mc_,nn_,or_false] at hv;rcases hv with rfl|rfl
   ·exact hs
   ·exact a_G rfl) ⟨_,_,_,rfl,hn⟩ h2 38 #[false,false]
 refine ⟨A',C',w',r,k',fun cs'=>?_⟩;have hxb:¬ blkOf A6 x:=h3.ne (.inl hx31);have hb':Blk w' x 40 cs:=hb.ext x' hxb;have hset:Ext (XM x) w' (setB w' x cs' 40):=Ext.setB (X:=XM x) (Ext.refl w') (.inl rfl) _ _;have sk:StrK w (setB w' x cs' 40):=fun T' v a ho h=>hset.ok1 hb' (by decide) hBx ho (x'.at (fun hbl=>ho.elim (fun e'=>m_A h3 (e'▸h) hbl (by decide)) fun hl=>by
   have:=(h3.ge _ hbl).1;omega) h)
 have sk':StrK w' (setB w' x cs' 40):=fun _ v a ho h=>hset.ok1 hb' (by decide) hBx ho h;have hnot:∀ b,blkOf A' b->¬ XM x b:=fun b hb e=>by
  have:=(o'.ge b hb).1;have:b=x:=e;omega
 have h4':=h4.keep x' fun b hb ha=>h5 b ha hb;refine ⟨(h1.trans x' fun b hb hbl=>(h3.ne (.inl hb) hbl).elim).trans hset fun _ _ h=>h,⟨_,hb'.setB⟩,(OwnR.mono (R':=b_J (setB w' x cs' 40)) o' fun _ _ _=>b_J.strk sk).keep hset hnot,(OwnR.mono (R':=b_J (setB w' x cs' 40)) h4' fun _ _ _=>b_J.strk sk).keep hset fun b hb e=>?_,fun b hb hb7=>?_⟩
 ·have:=(h4.ge b hb).1;have:b=x:=e;omega
 ·rcases n' b hb with hb|hb
  ·exact h5 b hb hb7
  ·have:=(h4.ge b hb7).2;omega
end
theorem j_o {name:BA}{n:Nat}(h:∀ t∈types,t.ifaces.length<=n):(findD types name).1.ifaces.length<=n:=by
 unfold findD;cases hf:types.find? (fun d=>d.name.toList==name.toList) with
 | some d=>exact h d (List.mem_of_find?_eq_some hf)
 | none=>
  simp only;split<;>simp [a_A,noDef]
set_option maxRecDepth 4000 in
theorem n_i (w:World)(R:Ending->World->Prop){p:Addr}(wv31:World)(x:Nat){csx:List Value}(a17:OA)(a17l a17c:Nat)(a19:OA)(a19l a19c:Nat)(s23 s26 s29:BA)
  (hp:At wv31 92 p (.slice a l c)) (hT:RDefs wv31 a l c types) (few:types.length<=30) (hif:∀ t∈types,t.ifaces.length<=12) (hX:Blk wv31 x 40 csx) (hBx:DB.B<=x)
  (hR:∀ (A6:OA) (L6 C6:Nat) (A7:OA) (L7 C7:Nat) (w44:World),WSt wv31 x (possN types types) (implN types types) A6 L6 C6 A7 L7 C7 w44->L6<=30->L7<=30->
   R (.returned (.agg #[.slice a17 a17l a17c,.slice a19 a19l a19c,.string s23,.string s26,.string s29,.slice A6 L6 C6,.slice A7 L7 C7])) (setB w44 w.heap.size [.slice a17 a17l a17c,.slice a19 a19l a19c,.string s23,.string s26,.string s29,.slice A6 L6 C6,.slice A7 L7 C7] 40)):
  ∀ (wv1:OA),wv1=some p->(∃ p32:Addr,wv1=some p32/\∃ (a33:OA) (a33l a33c:Nat),wv31.cell? p32=some (Value.slice a33 a33l a33c)/\∃ (I34:Int->OA->Nat->Nat->OA->Nat->Nat->BA->BA->BA->OA->Nat->Nat->OA->Nat->Nat->World->Prop) (x35:Int->OA->Nat->Nat->OA->Nat->Nat->BA->BA->BA->OA->Nat->Nat->OA->Nat->Nat->World->Nat),I34 (0:Int) a17 a17l a17c a19 a19l a19c s23 s26 s29 none 0 0 none 0 0 wv31/\
 (∀ n36:Int,∀ (a37:OA) (a37l a37c:Nat),∀ (a38:OA) (a38l a38c:Nat),∀ s39:BA,∀ s40:BA,∀ s41:BA,∀ (a42:OA) (a42l a42c:Nat),∀ (a43:OA) (a43l a43c:Nat),∀ wv44:World,I34 n36 a37 a37l a37c a38 a38l a38c s39 s40 s41 a42 a42l a42c a43 a43l a43c wv44->
 (((decide (n36<(a33l:Int)))=true->
 ∀ K45:OA->Nat->Nat->OA->Nat->Nat->BA->BA->BA->OA->Nat->Nat->OA->Nat->Nat->World->Prop,(∀ (a46:OA) (a46l a46c:Nat),∀ (a47:OA) (a47l a47c:Nat),∀ s48:BA,∀ s49:BA,∀ s50:BA,∀ (a51:OA) (a51l a51c:Nat),∀ (a52:OA) (a52l a52c:Nat),∀ wv53:World,
 ((I34 (wr (n36+(1:Int))) a46 a46l a46c a47 a47l a47c s48 s49 s50 a51 a51l a51c a52 a52l a52c wv53/\x35 (wr (n36+(1:Int))) a46 a46l a46c a47 a47l a47c s48 s49 s50 a51 a51l a51c a52 a52l a52c wv53<x35 n36 a37 a37l a37c a38 a38l a38c s39 s40 s41 a42 a42l a42c a43 a43l a43c wv44))->
 K45 a46 a46l a46c a47 a47l a47c s48 s49 s50 a51 a51l a51c a52 a52l a52c wv53)->
 ∃ p54:Addr,a33=some p54/\(0<=n36/\n36<(a33l:Int))/\∃ s55:BA,wv44.cell? (p54.add (n36.toNat*8))=some (Value.string s55)/\∃ s56:BA,wv44.cell? ((p54.add (n36.toNat*8)).add 1)=some (Value.string s56)/\∃ s57:BA,wv44.cell? ((p54.add (n36.toNat*8)).add 2)=some (Value.string s57)/\∃ (a58:OA) (a58l a58c:Nat),wv44.cell? ((p54.add (n36.toNat*8)).add 3)=some (Value.slice a58 a58l a58c)/\∃ (a59:OA) (a59l a59c:Nat),wv44.cell? ((p54.add (n36.toNat*8)).add 4)=some (Value.slice a59 a59l a59c)/\∃ (a60:OA) (a60l a60c:Nat),wv44.cell? ((p54.add (n36.toNat*8)).add 5)=some (Value.slice a60 a60l a60c)/\∃ (a61:OA) (a61l a61c:Nat),wv44.cell? ((p54.add (n36.toNat*8)).add 6)=some (Value.slice a61 a61l a61c)/\∃ (a62:OA) (a62l a62c:Nat),wv44.cell? ((p54.add (n36.toNat*8)).add 7)=some (Value.slice a62 a62l a62c)/\True/\(let wv63:World:=wv44.alloc (.cells #[(Value.string (⟨#[]⟩:BA)),(Value.string (⟨#[]⟩:BA)),(Value.string (⟨#[]⟩:BA)),(Value.slice none 0 0),(Value.slice none 0 0),(Value.slice none 0 0),(Value.slice none 0 0),(Value.slice none 0 0)] 96);
 True/\(let wv64:World:=wv44.alloc (.cells #[(Value.string s55),(Value.string s56),(Value.string s57),(Value.slice a58 a58l a58c),(Value.slice a59 a59l a59c),(Value.slice a60 a60l a60c),(Value.slice a61 a61l a61c),(Value.slice a62 a62l a62c)] 96);
 ∀ K65:OA->Nat->Nat->OA->Nat->Nat->BA->BA->BA->OA->Nat->Nat->OA->Nat->Nat->World->Prop,(∀ (a66:OA) (a66l a66c:Nat),∀ (a67:OA) (a67l a67c:Nat),∀ s68:BA,∀ s69:BA,∀ s70:BA,∀ (a71:OA) (a71l a71c:Nat),∀ (a72:OA) (a72l a72c:Nat),∀ wv73:World,
 (CP 59 #[(Value.pointer wv1),(Value.string s57)] wv73 (fun e74 wv75=>∃ (a76:OA) (a76l a76c:Nat),e74=.returned (Value.slice a76 a76l a76c)/\(KeepT 26 wv73 wv75/\KeepT 40 wv73 wv75/\KeepT 96 wv73 wv75/\True)/\(((decide ((a76l:Int)>(0:Int)))=true->
 True/\True/\(let wv77:World:=wv75.alloc (.cells #[(Value.string s57),(Value.slice a76 a76l a76c)] 99);
 ∃ (a78:OA) (a78l a78c:Nat),∃ wv79:World,(Go.builtin .append #[38,38] 38 #[false,false] #[(Value.slice a72 a72l a72c),(Value.slice (some (adr wv75.heap.size)) 1 1)]).run Tryz.prog wv77=.ok (.value (Value.slice a78 a78l a78c)) wv79/\(KeepT 26 wv77 wv79/\KeepT 40 wv77 wv79/\KeepT 96 wv77 wv79/\True)/\True/\(let wv80:World:=setB wv79 (x) [(Value.slice a66 a66l a66c),(Value.slice a67 a67l a67c),(Value.string s68),(Value.string s69),(Value.string s70),(Value.slice a71 a71l a71c),(Value.slice a78 a78l a78c)] 40;
 K45 a66 a66l a66c a67 a67l a67c s68 s69 s70 a71 a71l a71c a78 a78l a78c wv80)))/\
 ((decide ((a76l:Int)>(0:Int)))=false->
 K45 a66 a66l a66c a67 a67l a67c s68 s69 s70 a71 a71l a71c a72 a72l a72c wv75))))->
 K65 a66 a66l a66c a67 a67l a67c s68 s69 s70 a71 a71l a71c a72 a72l a72c wv73)->
 CP 57 #[(Value.string s55)] wv64 (fun e81 wv82=>∃ b83:Bool,e81=.returned (Value.bool b83)/\(KeepT 26 wv64 wv82/\KeepT 40 wv64 wv82/\KeepT 96 wv64 wv82/\True)/\((b83=true->
 ∀ wv84:World,wv84=wv82.drew->CP 58 #[(Value.pointer wv1),(Value.string s57)] wv84 (fun e85 wv86=>∃ (a87:OA) (a87l a87c:Nat),e85=.returned (Value.slice a87 a87l a87c)/\(KeepT 26 wv84 wv86/\KeepT 40 wv84 wv86/\KeepT 96 wv84 wv86/\True)/\((1=1)/\(2=2)/\True)/\True/\True/\(let wv88:World:=wv86.alloc (.cells #[(Value.string s57),(Value.slice a87 a87l a87c)] 99);
 ((2=2)/\True)/\∃ (a89:OA) (a89l a89c:Nat),∃ wv90:World,(Go.builtin .append #[38,38] 38 #[false,false] #[(Value.slice a42 a42l a42c),(Value.slice (some (adr wv86.heap.size)) 1 1)]).run Tryz.prog wv88=.ok (.value (Value.slice a89 a89l a89c)) wv90/\(KeepT 26 wv88 wv90/\KeepT 40 wv88 wv90/\KeepT 96 wv88 wv90/\True)/\True/\True/\(let wv91:World:=setB wv90 (x) [(Value.slice a37 a37l a37c),(Value.slice a38 a38l a38c),(Value.string s39),(Value.string s40),(Value.string s41),(Value.slice a89 a89l a89c),(Value.slice a43 a43l a43c)] 40;
 True/\K65 a37 a37l a37c a38 a38l a38c s39 s40 s41 a89 a89l a89c a43 a43l a43c wv91))))/\
 (b83=false->
 K65 a37 a37l a37c a38 a38l a38c s39 s40 s41 a42 a42l a42c a43 a43l a43c wv82))))))/\
 ((decide (n36<(a33l:Int)))=false->
 True/\(let wv92:World:=setB wv44 (w.heap.size) [(Value.slice a37 a37l a37c),(Value.slice a38 a38l a38c),(Value.string s39),(Value.string s40),(Value.string s41),(Value.slice a42 a42l a42c),(Value.slice a43 a43l a43c)] 40;
 R (.returned (Value.agg #[(Value.slice a37 a37l a37c),(Value.slice a38 a38l a38c),(Value.string s39),(Value.string s40),(Value.string s41),(Value.slice a42 a42l a42c),(Value.slice a43 a43l a43c)])) wv92))))):=by
 rintro _ rfl;obtain ⟨el,gl⟩:=hT.len;have hx31:=hX.lt;refine ⟨p,rfl,a,l,c,hp.cell,?_⟩;refine ⟨fun i b1 m1 d1 b2 m2 d2 q1 q2 q3 A6 L6 C6 A7 L7 C7 w1=>0<=i/\i<=l/\(b1=a17/\m1=a17l/\d1=a17c)/\(b2=a19/\m2=a19l/\d2=a19c)/\(q1=s23/\q2=s26/\q3=s29)/\L6<=i.toNat/\L7<=i.toNat/\WSt wv31 x (possN types (types.take i.toNat)) (implN types (types.take i.toNat)) A6 L6 C6 A7 L7 C7 w1,
  fun i _ _ _ _ _ _ _ _ _ _ _ _ _ _ _ _=>((l:Int)-i).toNat,⟨by omega,by omega,⟨rfl,rfl,rfl⟩,⟨rfl,rfl,rfl⟩,⟨rfl,rfl,rfl⟩,by omega,by omega,⟨Ext.refl _,⟨_,hX⟩,by simpa [possN] using OwnR.nil,by simpa [implN] using OwnR.nil,fun b ⟨p,hp,_⟩=>by cases hp⟩⟩,?_⟩
 rintro i b1 m1 d1 b2 m2 d2 q1 q2 q3 A6 L6 C6 A7 L7 C7 w1 ⟨h0,hi,⟨rfl,rfl,rfl⟩,⟨rfl,rfl,rfl⟩,⟨rfl,rfl,rfl⟩,hL6,hL7,hst⟩;refine ⟨fun hlt=>?_,fun hge=>?_⟩
 ·have hlt:=odt hlt;have hx1:=hst.1;have hk1:=hx1.keep1 hX (by decide) hBx;obtain ⟨pe,t,hpe,hxs,cs,hc,n3,nl3,nc3,n4,nl4,nc4,n5,nl5,nc5,n6,nl6,nc6,n7,nl7,nc7,rfl,hu3,hu4,hu5,hu6,hu7⟩:=(hT.keep hk1).get h0 hlt;obtain ⟨⟨_,_,hc0⟩,hcs0,⟨_,_,hc1⟩,hcs1,⟨_,_,hc2⟩,hcs2,⟨_,_,hc3⟩,hcs3,⟨_,_,hc4⟩,hcs4,⟨_,_,hc5⟩,hcs5,⟨_,_,hc6⟩,hcs6,⟨_,_,hc7⟩,hcs7,-⟩:=hc;intro K45 hK45;have hx36:EF w1 (w1.alloc (.cells #[.string t.kind,.string t.doc,.string t.name,.slice n3 nl3 nc3,.slice n4 nl4 nc4,.slice n5 nl5 nc5,.slice n6 nl6 nc6,.slice n7 nl7 nc7] 96)):=(Ext.refl w1).alloc _;refine ⟨pe,hpe,⟨h0,hlt⟩,_,hc0.cell,_,hc1.cell,_,hc2.cell,_,_,_,hc3.cell,_,_,_,hc4.cell,_,_,_,hc5.cell,_,_,_,hc6.cell,_,_,_,hc7.cell,trivial,trivial,fun K65 hK65=>?_⟩;have key65:∀ (A6':OA) (L6' C6':Nat) (w73:World),L6'<=(i+1).toNat->WSt wv31 x (possN types (types.take (i+1).toNat)) (implN types (types.take i.toNat)) A6' L6' C6' A7 L7 C7 w73->K65 b1 m1 d1 b2 m2 d2 q1 q2 q3 A6' L6' C6' A7 L7 C7 w73:=by
   intro A6' L6' C6' w73 hL6' hst';refine hK65 _ _ _ _ _ _ _ _ _ _ _ _ _ _ _ _ ?_;have hx73:=hst'.1;refine (d_Z hcs2 (hx73.at1 hX (by decide) hp) (hT.keep (hx73.keep1 hX (by decide) hBx))).mono ?_;rintro _ w75 ⟨a76,l76,c76,rfl,ho76,hl76,hx75⟩;have hst75:=hst'.keep hx75;have hl:=ho76.len;have hif':=j_o (name:=t.name) hif;refine ⟨a76,l76,c76,rfl,by simp [hx75.keepT],fun hpos=>⟨trivial,trivial,?_⟩,fun hneg=>hK45 _ _ _ _ _ _ _ _ _ _ _ _ _ _ _ _ ?_⟩
   ·obtain ⟨A',C',w',r,k',hset⟩:=hst75.swap.push (n:=⟨t.name,a_8 types t.name⟩) hx31 hBx hcs2 (ho76.sl (by omega)) (by omega);refine ⟨A',L7+1,C',w',r,⟨k' _ (by decide),k' _ (by decide),k' _ (by decide),trivial⟩,trivial,hK45 _ _ _ _ _ _ _ _ _ _ _ _ _ _ _ _ ?_⟩;rw [a_a h0 (by omega)];refine next h0 hlt ⟨⟨rfl,rfl,rfl⟩,⟨rfl,rfl,rfl⟩,⟨rfl,rfl,rfl⟩,hL6',by omega,?_⟩
    have:=(hset [.slice b1 m1 d1,.slice b2 m2 d2,.string q1,.string q2,.string q3,.slice A6' L6' C6',.slice A' (L7+1) C']).swap;have hq:implN types (types.take (i+1).toNat)=implN types (types.take i.toNat)++[⟨t.name,a_8 types t.name⟩]:=by
     unfold implN;rw [a_J h0 hxs,if_pos (by rw [hl] at hpos;exact hpos)];simp
    rw [hq];exact this
   ·rw [a_a h0 (by omega)];refine next h0 hlt ⟨⟨rfl,rfl,rfl⟩,⟨rfl,rfl,rfl⟩,⟨rfl,rfl,rfl⟩,hL6',by omega,?_⟩
    have hq:implN types (types.take (i+1).toNat)=implN types (types.take i.toNat):=by
     unfold implN;rw [a_J h0 hxs,if_neg (by rw [hl] at hneg;unfold n_U;rw [hneg];exact Bool.noConfusion)];simp
    rw [hq];exact hst75
  refine (RetB.base (b_5 t.kind _) hx36).mono ?_;rintro _ w82 ⟨b,rfl,hkk,hx82,hb⟩;refine ⟨b,rfl,by simp [hkk],fun hbt=>?_,fun hbf=>?_⟩
  ·intro w84 e84;have hx84:EF w1 w84:=by rw [e84];exact hx82.drew
   clear e84;have hst84:=hst.keep hx84;have hx84':=hst84.1;refine (e_n hcs2 (hx84'.at1 hX (by decide) hp) (hT.keep (hx84'.keep1 hX (by decide) hBx))).mono ?_;rintro _ w86 ⟨a87,l87,c87,rfl,ho87,hl87,hx86⟩;have hst86:=hst84.keep hx86;obtain ⟨A',C',w',r,k',hset⟩:=hst86.push (n:=⟨t.name,b_O types t.name⟩) hx31 hBx hcs2 (ho87.sl (by omega)) (by omega);refine ⟨a87,l87,c87,rfl,by simp [hx86.keepT],by simp,trivial,trivial,by simp,A',L6+1,C',w',r,⟨k' _ (by decide),k' _ (by decide),k' _ (by decide),trivial⟩,trivial,trivial,trivial,key65 _ _ _ _ (by omega) ?_⟩;have hq:possN types (types.take (i+1).toNat)=possN types (types.take i.toNat)++[⟨t.name,b_O types t.name⟩]:=by
    unfold possN;rw [a_J h0 hxs,if_pos (by rcases hb.1 hbt with h|h|h<;>simp [compQ,h])];simp
   rw [hq];exact hset _
  ·refine key65 _ _ _ _ (by omega) ?_;have hq:possN types (types.take (i+1).toNat)=possN types (types.take i.toNat):=by
    unfold possN;rw [a_J h0 hxs,if_neg]
    ·simp
    ·intro h;have:b=true:=hb.2 (by simpa [compQ,or_assoc] using h);rw [this] at hbf;cases hbf
   rw [hq];exact hst.keep hx82
 ·have hle:=odf hge;rw [tl_ (by omega)] at hst;exact ⟨trivial,hR _ _ _ _ _ _ _ hst (by omega) (by omega)⟩
theorem c_U (k1 k2 k3 k4 k5 k6 k7 k8:Nat):∀ x∈a_Z k1 k2 k3 k4 k5 k6 k7 k8,x.2.1≠96/\x.2.1≠120/\x.2.1≠40:=by
 intro x hx;simp only [a_Z,mc_,nn_,or_false] at hx;rcases hx with rfl|rfl|rfl|rfl|rfl|rfl|rfl|rfl<;>(refine ⟨?_,?_,?_⟩<;>dsimp only<;>decide)
structure WPre (w w2:World) (k1 k2 k3 k4 k5 k6 k7 k8:Nat) (xs:List Def) (T:OA) (L C:Nat) (ys:List DirDef) (D:OA) (M E:Nat) (w':World):Prop where
 ext2:EF w2 w'
 ext0:EF w w'
 ts:OwnR 96 8 (RDef w) w2.heap.size w' T L C xs
 ds:OwnR 120 5 (RPre w (a_y k1 k2 k3 k4 k5 k6 k7 k8)) w2.heap.size w' D M E ys
 blks:Blks w' (a_Z k1 k2 k3 k4 k5 k6 k7 k8)
section
variable {w w2:World} {k1 k2 k3 k4 k5 k6 k7 k8:Nat} {xs:List Def} {T:OA} {L C:Nat} {ys:List DirDef} {D:OA} {M E:Nat} {w':World}
theorem WPre.keep {w'':World}(h:WPre w w2 k1 k2 k3 k4 k5 k6 k7 k8 xs T L C ys D M E w')(hx:EF w' w''):WPre w w2 k1 k2 k3 k4 k5 k6 k7 k8 xs T L C ys D M E w'':=
 ⟨h.ext2.then hx,h.ext0.then hx,h.ts.keep0 hx,h.ds.keep0 hx,h.blks.keep hx fun _ _=>id⟩
theorem WPre.appT (h:WPre w w2 k1 k2 k3 k4 k5 k6 k7 k8 xs T L C ys D M E w')(hw:w.heap.size<=w2.heap.size)(hl:RDefs w a l c types)(h2:L+l<=16777216):
  ∃ (A':OA) (C':Nat) (w'':World),(Go.builtin .append #[24,24] 24 #[false,false] #[.slice T L C,.slice a l c]).run Tryz.prog w'=.ok (.value (.slice A' (L+l) C')) w''/\
   WPre w w2 k1 k2 k3 k4 k5 k6 k7 k8 (xs++types) A' (L+l) C' ys D M E w''/\(∀ T',T'≠96->KeepT T' w' w'')/\Ext (blkOf T) w' w'':=by
 obtain ⟨A',C',w'',r,o,x,k,n⟩:=h.ts.app 24 Tryz.t96 _ _ (by kernel_rfl) (by kernel_rfl) rfl (by kernel_rfl) rfl (by kernel_rfl) (by omega) (by decide) h.ext2.size (SlL.keep h.ext0.keep (by decide) hl fun _ _ _ h=>h) (fun _ _ h=>h.len) h2 24 #[false,false];exact ⟨A',C',w'',r,⟨h.ts.ext0 (Nat.le_refl _) h.ext2 x,h.ts.ext0 hw h.ext0 x,o,h.ds.keep x fun b hb ha=>h.ts.ne_own h.ds (by decide) b ha hb,h.blks.keep x fun y hy=>h.ts.ne_blk (h.blks y hy) (c_U _ _ _ _ _ _ _ _ y hy).1⟩,k,x⟩
theorem WPre.appD (h:WPre w w2 k1 k2 k3 k4 k5 k6 k7 k8 xs T L C ys D M E w')(hw:w.heap.size<=w2.heap.size)(hl:a_Y w a l c dirs)(h2:M+l<=16777216):
  ∃ (A':OA) (C':Nat) (w'':World),(Go.builtin .append #[23,23] 23 #[false,false] #[.slice D M E,.slice a l c]).run Tryz.prog w'=.ok (.value (.slice A' (M+l) C')) w''/\
   WPre w w2 k1 k2 k3 k4 k5 k6 k7 k8 xs T L C (ys++dirs) A' (M+l) C' w''/\(∀ T',T'≠120->KeepT T' w' w'')/\Ext (blkOf D) w' w'':=by
 obtain ⟨A',C',w'',r,o,x,k,n⟩:=h.ds.app 23 Tryz.t120 _ _ (by kernel_rfl) (by kernel_rfl) rfl (by kernel_rfl) rfl (by kernel_rfl) (by omega) (by decide) h.ext2.size (SlL.keep h.ext0.keep (by decide) hl fun _ _ _ h=>.inl h) (fun x cs hh=>by
  rcases hh with hh|hh
  ·exact hh.len
  ·simp only [a_y,mc_,nn_,or_false,Prod.mk.injEq] at hh;rcases hh with ⟨-, rfl⟩|⟨-, rfl⟩|⟨-, rfl⟩|⟨-, rfl⟩<;>rfl) h2 23 #[false,false]
 exact ⟨A',C',w'',r,⟨h.ds.ext0 (Nat.le_refl _) h.ext2 x,h.ds.ext0 hw h.ext0 x,h.ts.keep x fun b hb ha=>h.ts.ne_own h.ds (by decide) b hb ha,o,h.blks.keep x fun y hy=>h.ds.ne_blk (h.blks y hy) (c_U _ _ _ _ _ _ _ _ y hy).2.1⟩,k,x⟩
end
theorem WPre.wset {w w2:World}{k1 k2 k3 k4 k5 k6 k7 k8:Nat}{xs:List Def}{T:OA}{L C:Nat}{ys:List DirDef}{D:OA}{M E:Nat}{w':World}(h:WPre w w2 k1 k2 k3 k4 k5 k6 k7 k8 xs T L C ys D M E w'){x:Nat}{cs0 cs:List Value}(hX:Blk w' x 40 cs0):Ext (XM x) w' (setB w' x cs 40):=
 Ext.setB (X:=XM x) (Ext.refl w') (.inl rfl) _ _
theorem n_h {w w2:World}{k1 k2 k3 k4 k5 k6 k7 k8:Nat}{roots:List RootD}{T:OA}{L C:Nat}{D:OA}{M E:Nat}{w30:World}{x:Nat}{cs0 csw:List Value}(hw2:w.heap.size<=w2.heap.size)(hz2:w2.heap.size=w.heap.size+1)(B0:Blk w2 w.heap.size 40 csw)
  (hxB:w2.heap.size<=x) (s30:WPre w w2 k1 k2 k3 k4 k5 k6 k7 k8 (a_P++types) T L C (d_s++dirs) D M E w30) (hX:Blk w30 x 40 cs0) (few:types.length<=30) (fewd:dirs.length<=12) (hB0:DB.B<=w.heap.size):
  ∀ (A6:OA) (L6 C6:Nat) (A7:OA) (L7 C7:Nat) (w44:World),WSt (setB w30 x [.slice T L C,.slice D M E,.string (rootD roots a_5),.string (rootD roots bMut),.string (rootD roots bSub),.slice none 0 0,.slice none 0 0] 40) x (possN types types) (implN types types) A6 L6 C6 A7 L7 C7 w44->L6<=30->L7<=30->
   ∃ cs,Ending.returned (.agg #[.slice T L C,.slice D M E,.string (rootD roots a_5),.string (rootD roots bMut),.string (rootD roots bSub),.slice A6 L6 C6,.slice A7 L7 C7])=.returned (.agg cs.toArray)/\
    c_6 (setB w44 w.heap.size [.slice T L C,.slice D M E,.string (rootD roots a_5),.string (rootD roots bMut),.string (rootD roots bSub),.slice A6 L6 C6,.slice A7 L7 C7] 40) (wideD types dirs roots) cs/\
    EF w (setB w44 w.heap.size [.slice T L C,.slice D M E,.string (rootD roots a_5),.string (rootD roots bMut),.string (rootD roots bSub),.slice A6 L6 C6,.slice A7 L7 C7] 40):=by
 intro A6 L6 C6 A7 L7 C7 w44 hst h6 h7;have hLT:=s30.ts.len (by omega);have hLD:=s30.ds.len (by omega);obtain ⟨hx44,⟨cs44,hX44⟩,o6,o7,-⟩:=hst;have hx31:=s30.wset hX (cs:=[.slice T L C,.slice D M E,.string (rootD roots a_5),.string (rootD roots bMut),.string (rootD roots bSub),.slice none 0 0,.slice none 0 0]);have hx34:=hx31.trans hx44 fun _ _ h=>h;have hset:Ext (XM w.heap.size) w44 (setB w44 w.heap.size [.slice T L C,.slice D M E,.string (rootD roots a_5),.string (rootD roots bMut),.string (rootD roots bSub),.slice A6 L6 C6,.slice A7 L7 C7] 40):=Ext.setB (X:=XM w.heap.size) (Ext.refl w44) (.inl rfl) _ _;generalize (setB w44 w.heap.size [.slice T L C,.slice D M E,.string (rootD roots a_5),.string (rootD roots bMut),.string (rootD roots bSub),.slice A6 L6 C6,.slice A7 L7 C7] 40)=w92 at hset;have hB44:Blk w44 w.heap.size 40 csw:=(B0.ext s30.ext2 id).ext hx34 fun e=>by
  have:w.heap.size=x:=e;omega
 have hxx:Ext (fun k=>k=x∨k=w.heap.size) w30 w92:=(hx34.mono fun _ _ h=>.inl h).trans hset fun _ _ h=>.inr h;have hxw:EF w w92:=s30.ext0.trans hxx fun k hk e=>by
  have:=s30.ext2.size;omega
 have hz31:w30.heap.size<=(setB w30 x [.slice T L C,.slice D M E,.string (rootD roots a_5),.string (rootD roots bMut),.string (rootD roots bSub),.slice none 0 0,.slice none 0 0] 40).heap.size:=hx31.size;have hz30:=s30.ext2.size;have hsk:StrK w44 w92:=fun _ v a ho h=>hset.ok1 hB44 (by decide) (by omega) ho h;have hblk:Blks w92 (a_Z k1 k2 k3 k4 k5 k6 k7 k8):=fun y hy=>by
  have h30:=s30.blks y hy;have ht:=(c_U _ _ _ _ _ _ _ _ y hy).2.2;have h44:Blk w44 y.1 y.2.1 y.2.2:=h30.ext hx34 fun e=>by
   have e:y.1=x:=e;rw [e,Blk,show objAt w30 x=_ from hX] at h30;simp only [Option.some.injEq,Obj.cells.injEq] at h30;exact ht h30.2.1.symm
  refine h44.ext hset fun e=>?_;have e:y.1=w.heap.size:=e;rw [e,Blk,show objAt w44 w.heap.size=_ from hB44] at h44;simp only [Option.some.injEq,Obj.cells.injEq] at h44;exact ht h44.2.1.symm
 refine ⟨_,rfl,⟨_,_,_,_,_,_,_,_,_,_,_,_,rfl,?_,?_,?_,?_⟩,hxw⟩
 ·refine ((s30.ts.keep hxx fun k hk e=>?_).mono fun t _ cs h=>h.keep hxw.keep).sl (by omega) (by simp [a_P] at hLT;omega);rcases e with e|e
  ·subst e;exact s30.ts.ne_blk hX (by decide) hk
  ·have:=(s30.ts.ge k hk).1;omega
 ·refine ((s30.ds.keep hxx fun k hk e=>?_).mono fun t _ cs h=>?_).sl (by omega) (by simp [d_s] at hLD;omega)
  ·rcases e with e|e
   ·subst e;exact s30.ds.ne_blk hX (by decide) hk
   ·have:=(s30.ds.ge k hk).1;omega
  ·rcases h with h|h
   ·exact h.keep hxw.keep
   ·exact m_E hblk _ h
 ·exact ((o6.keep hset fun k hk e=>by
   have:=(o6.ge k hk).1;have:k=w.heap.size:=e;omega).mono fun _ _ _=>b_J.strk hsk).sl (by omega) (by omega)
 ·exact ((o7.keep hset fun k hk e=>by
   have:=(o7.ge k hk).1;have:k=w.heap.size:=e;omega).mono fun _ _ _=>b_J.strk hsk).sl (by omega) (by omega)
theorem i_8 {b:Nat}{a2:OA}{l2 c2:Nat}{a3:OA}{l3 c3:Nat}{roots:List RootD}{w:World}
  (hb:Blk w b 92 [.slice a l c,.slice a2 l2 c2,.slice a3 l3 c3]) (hT:RDefs w a l c types) (hR:b_w w a2 l2 c2 roots) (hD:a_Y w a3 l3 c3 dirs)
  (few:types.length<=30) (hif:∀ t∈types,t.ifaces.length<=12) (fewd:dirs.length<=12) (hB0:DB.B<=w.heap.size):
  CP 15 #[.pointer (some (adr b))] w fun e w'=>∃ cs,e=.returned (.agg cs.toArray)/\c_6 w' (wideD types dirs roots) cs/\EF w w':=by
 obtain ⟨e1,g1⟩:=hT.len;obtain ⟨e3,g3⟩:=hD.len;refine j_F (some (adr b)) w _ ⟨trivial,?_⟩;have B0:=Blk.made w 40 [.slice none 0 0,.slice none 0 0,.string E0,.string E0,.string E0,.slice none 0 0,.slice none 0 0];have hx2:EF w (w.alloc (.cells #[.slice none 0 0,.slice none 0 0,.string E0,.string E0,.string E0,.slice none 0 0,.slice none 0 0] 40)):=(Ext.refl w).alloc _;have hz2:(w.alloc (.cells #[.slice none 0 0,.slice none 0 0,.string E0,.string E0,.string E0,.slice none 0 0,.slice none 0 0] 40)).heap.size=w.heap.size+1:=by simp
 dsimp only;generalize (w.alloc (.cells #[.slice none 0 0,.slice none 0 0,.string E0,.string E0,.string E0,.slice none 0 0,.slice none 0 0] 40))=w2 at B0 hx2 hz2 ⊢;refine (l_5 w w2 (by omega)).mono ?_;rintro _ w4 ⟨D,T,L,C,k1,k2,k3,k4,k5,k6,k7,k8,rfl,hx4,ot,od,hbl,-⟩;refine ⟨_,_,_,_,_,_,_,_,_,_,_,_,_,_,_,rfl,by simp [hx4.keepT],trivial,trivial,?_⟩;intro w12 e12;have hx12:EF w4 w12:=by rw [e12];exact ((Ext.refl w4).alloc _).drew
 clear e12;have hLt:L=5:=ot.len (by omega);subst hLt;have s12:WPre w w2 k1 k2 k3 k4 k5 k6 k7 k8 a_P T 5 C d_s D 4 4 w12:=WPre.keep ⟨hx4,hx2.then hx4,ot,od,hbl⟩ hx12;have hw2:w.heap.size<=w2.heap.size:=by omega
 have rest:∀ (x:Nat) (T:OA) (L C:Nat) (D:OA) (M E:Nat) (w30:World) (cs0:List Value),w2.heap.size<=x->WPre w w2 k1 k2 k3 k4 k5 k6 k7 k8 (a_P++types) T L C (d_s++dirs) D M E w30->Blk w30 x 40 cs0->_:=
  fun x T L C D M E w30 cs0 hxB s30 hX=>n_i w (fun e w'=>∃ cs,e=.returned (.agg cs.toArray)/\c_6 w' (wideD types dirs roots) cs/\EF w w') (p:=adr b) (types:=types)
   (setB w30 x [.slice T L C,.slice D M E,.string (rootD roots a_5),.string (rootD roots bMut),.string (rootD roots bSub),.slice none 0 0,.slice none 0 0] 40) x T L C D M E (rootD roots a_5) (rootD roots bMut) (rootD roots bSub)
   (((hb.ext s30.ext0 id).ext (s30.wset hX (cs:=[.slice T L C,.slice D M E,.string (rootD roots a_5),.string (rootD roots bMut),.string (rootD roots bSub),.slice none 0 0,.slice none 0 0])) (fun e=>by have:b=x:=e;have:=hb.lt;omega)).at (j:=0) rfl) (hT.keep (s30.ext0.keep.trans ((s30.wset hX).keep1 hX (by decide) (by omega)))) few hif hX.setB (by omega) (n_h hw2 hz2 B0 hxB s30 hX few fewd hB0) (some (adr b)) rfl
 refine ⟨adr b,rfl,a,l,c,((hb.ext s12.ext0 id).at (j:=0) rfl).cell,adr b,rfl,a3,l3,c3,((hb.ext s12.ext0 id).at (j:=2) rfl).cell,?_,?_⟩
 ·obtain ⟨A17,C17,w18,r18,s18,kt18,x18⟩:=s12.appT hw2 hT (by omega);refine ⟨A17,5+l,C17,w18,r18,⟨kt18 _ (by decide),kt18 _ (by decide),trivial⟩,⟨((hb.ext s18.ext0 id).at (j:=2) rfl).cell.trans ((hb.ext s12.ext0 id).at (j:=2) rfl).cell.symm,rfl,trivial⟩,?_,?_⟩
  ·obtain ⟨A19,C19,w20,r20,s20,kt20,x20⟩:=s18.appD hw2 hD (by omega);refine ⟨A19,4+l3,C19,w20,r20,⟨kt20 _ (by decide),kt20 _ (by decide),trivial⟩,trivial,?_,?_⟩
   ·refine (a_m ((hb.ext s20.ext0 id).at (j:=1) rfl) (hR.keep s20.ext0.keep)).mono ?_;rintro _ w22 ⟨rfl,x22⟩;have s22:=s20.keep x22;refine ⟨_,rfl,by simp [x22.keepT],trivial,?_,?_⟩
    ·refine (a_m ((hb.ext s22.ext0 id).at (j:=1) rfl) (hR.keep s22.ext0.keep)).mono ?_;rintro _ w25 ⟨rfl,x25⟩;have s25:=s22.keep x25;refine ⟨_,rfl,by simp [x25.keepT],trivial,?_,?_⟩
     ·refine (a_m ((hb.ext s25.ext0 id).at (j:=1) rfl) (hR.keep s25.ext0.keep)).mono ?_;rintro _ w28 ⟨rfl,x28⟩;have s28:=s25.keep x28;refine ⟨_,rfl,by simp [x28.keepT],trivial,trivial,trivial,trivial,trivial,trivial,?_⟩;have b30:=Blk.made w28 40 [.slice none 0 0,.slice none 0 0,.string E0,.string E0,.string E0,.slice none 0 0,.slice none 0 0];have s30:=s28.keep ((Ext.refl w28).alloc (.cells [.slice none 0 0,.slice none 0 0,.string E0,.string E0,.string E0,.slice none 0 0,.slice none 0 0].toArray 40));exact rest _ _ _ _ _ _ _ _ _ s28.ext2.size s30 b30
     ·refine ⟨trivial,trivial,?_⟩;have b93:=Blk.made w25 40 [.slice none 0 0,.slice none 0 0,.string E0,.string E0,.string E0,.slice none 0 0,.slice none 0 0];have s93:=s25.keep ((Ext.refl w25).alloc (.cells [.slice none 0 0,.slice none 0 0,.string E0,.string E0,.string E0,.slice none 0 0,.slice none 0 0].toArray 40));refine (a_m ((hb.ext s93.ext0 id).at (j:=1) rfl) (hR.keep s93.ext0.keep)).mono ?_;rintro _ w95 ⟨rfl,x95⟩;have s95:=s93.keep x95;have b95:=b93.ext x95 id;refine ⟨_,rfl,by simp [x95.keepT],trivial,trivial,trivial,trivial,?_⟩;exact rest _ _ _ _ _ _ _ _ _ s25.ext2.size s95 b95
    ·refine ⟨trivial,trivial,?_⟩;have b159:=Blk.made w22 40 [.slice none 0 0,.slice none 0 0,.string E0,.string E0,.string E0,.slice none 0 0,.slice none 0 0];have s159:=s22.keep ((Ext.refl w22).alloc (.cells [.slice none 0 0,.slice none 0 0,.string E0,.string E0,.string E0,.slice none 0 0,.slice none 0 0].toArray 40));refine (a_m ((hb.ext s159.ext0 id).at (j:=1) rfl) (hR.keep s159.ext0.keep)).mono ?_;rintro _ w161 ⟨rfl,x161⟩;have s161:=s159.keep x161;have b161:=b159.ext x161 id;refine ⟨_,rfl,by simp [x161.keepT],trivial,?_⟩;refine (a_m ((hb.ext s161.ext0 id).at (j:=1) rfl) (hR.keep s161.ext0.keep)).mono ?_;rintro _ w164 ⟨rfl,x164⟩;have s164:=s161.keep x164;have b164:=b161.ext x164 id;refine ⟨_,rfl,by simp [x164.keepT],trivial,trivial,trivial,trivial,?_⟩;exact rest _ _ _ _ _ _ _ _ _ s22.ext2.size s164 b164
   ·refine ⟨trivial,trivial,?_⟩;have b228:=Blk.made w20 40 [.slice none 0 0,.slice none 0 0,.string E0,.string E0,.string E0,.slice none 0 0,.slice none 0 0];have s228:=s20.keep ((Ext.refl w20).alloc (.cells [.slice none 0 0,.slice none 0 0,.string E0,.string E0,.string E0,.slice none 0 0,.slice none 0 0].toArray 40));refine (a_m ((hb.ext s228.ext0 id).at (j:=1) rfl) (hR.keep s228.ext0.keep)).mono ?_;rintro _ w230 ⟨rfl,x230⟩;have s230:=s228.keep x230;have b230:=b228.ext x230 id;refine ⟨_,rfl,by simp [x230.keepT],trivial,?_⟩;refine (a_m ((hb.ext s230.ext0 id).at (j:=1) rfl) (hR.keep s230.ext0.keep)).mono ?_;rintro _ w233 ⟨rfl,x233⟩;have s233:=s230.keep x233;have b233:=b230.ext x233 id;refine ⟨_,rfl,by simp [x233.keepT],trivial,?_⟩;refine (a_m ((hb.ext s233.ext0 id).at (j:=1) rfl) (hR.keep s233.ext0.keep)).mono ?_;rintro _ w236 ⟨rfl,x236⟩;have s236:=s233.keep x236;have b236:=b233.ext x236 id;refine ⟨_,rfl,by simp [x236.keepT],trivial,trivial,trivial,trivial,?_⟩;exact rest _ _ _ _ _ _ _ _ _ s20.ext2.size s236 b236
  ·
   have b300:=Blk.made w18 40 [.slice none 0 0,.slice none 0 0,.string E0,.string E0,.string E0,.slice none 0 0,.slice none 0 0];have s300:=s18.keep ((Ext.refl w18).alloc (.cells [.slice none 0 0,.slice none 0 0,.string E0,.string E0,.string E0,.slice none 0 0,.slice none 0 0].toArray 40));obtain ⟨A19,C19,w20,r20,s20,kt20,x20⟩:=s300.appD hw2 hD (by omega);have b20:=b300.ext x20 (s300.ds.ne_blk b300 (by decide));refine ⟨trivial,⟨((hb.ext s300.ext0 id).at (j:=2) rfl).cell.trans ((hb.ext s18.ext0 id).at (j:=2) rfl).cell.symm,rfl,trivial⟩,A19,4+l3,C19,w20,r20,⟨kt20 _ (by decide),kt20 _ (by decide),trivial⟩,trivial,?_⟩;refine (a_m ((hb.ext s20.ext0 id).at (j:=1) rfl) (hR.keep s20.ext0.keep)).mono ?_;rintro _ w230 ⟨rfl,x230⟩;have s230:=s20.keep x230;have b230:=b20.ext x230 id;refine ⟨_,rfl,by simp [x230.keepT],trivial,?_⟩;refine (a_m ((hb.ext s230.ext0 id).at (j:=1) rfl) (hR.keep s230.ext0.keep)).mono ?_;rintro _ w233 ⟨rfl,x233⟩;have s233:=s230.keep x233;have b233:=b230.ext x233 id;refine ⟨_,rfl,by simp [x233.keepT],trivial,?_⟩;refine (a_m ((hb.ext s233.ext0 id).at (j:=1) rfl) (hR.keep s233.ext0.keep)).mono ?_;rintro _ w236 ⟨rfl,x236⟩;have s236:=s233.keep x236;have b236:=b233.ext x236 id;refine ⟨_,rfl,by simp [x236.keepT],trivial,trivial,trivial,trivial,?_⟩;exact rest _ _ _ _ _ _ _ _ _ s18.ext2.size s236 b236
 ·
  have b374:=Blk.made w12 40 [.slice none 0 0,.slice none 0 0,.string E0,.string E0,.string E0,.slice none 0 0,.slice none 0 0];have s374:=s12.keep ((Ext.refl w12).alloc (.cells [.slice none 0 0,.slice none 0 0,.string E0,.string E0,.string E0,.slice none 0 0,.slice none 0 0].toArray 40));obtain ⟨A17,C17,w18,r18,s18,kt18,x18⟩:=s374.appT hw2 hT (by omega);have b18:=b374.ext x18 (s374.ts.ne_blk b374 (by decide));obtain ⟨A19,C19,w20,r20,s20,kt20,x20⟩:=s18.appD hw2 hD (by omega);have b20:=b18.ext x20 (s18.ds.ne_blk b18 (by decide));refine ⟨trivial,⟨((hb.ext s374.ext0 id).at (j:=2) rfl).cell.trans ((hb.ext s12.ext0 id).at (j:=2) rfl).cell.symm,rfl,((hb.ext s374.ext0 id).at (j:=0) rfl).cell.trans ((hb.ext s12.ext0 id).at (j:=0) rfl).cell.symm,rfl,trivial⟩,A17,5+l,C17,w18,r18,⟨kt18 _ (by decide),kt18 _ (by decide),trivial⟩,⟨((hb.ext s18.ext0 id).at (j:=2) rfl).cell.trans ((hb.ext s374.ext0 id).at (j:=2) rfl).cell.symm,rfl,trivial⟩,A19,4+l3,C19,w20,r20,⟨kt20 _ (by decide),kt20 _ (by decide),trivial⟩,trivial,?_⟩;refine (a_m ((hb.ext s20.ext0 id).at (j:=1) rfl) (hR.keep s20.ext0.keep)).mono ?_;rintro _ w230 ⟨rfl,x230⟩;have s230:=s20.keep x230;have b230:=b20.ext x230 id;refine ⟨_,rfl,by simp [x230.keepT],trivial,?_⟩;refine (a_m ((hb.ext s230.ext0 id).at (j:=1) rfl) (hR.keep s230.ext0.keep)).mono ?_;rintro _ w233 ⟨rfl,x233⟩;have s233:=s230.keep x233;have b233:=b230.ext x233 id;refine ⟨_,rfl,by simp [x233.keepT],trivial,?_⟩;refine (a_m ((hb.ext s233.ext0 id).at (j:=1) rfl) (hR.keep s233.ext0.keep)).mono ?_;rintro _ w236 ⟨rfl,x236⟩;have s236:=s233.keep x236;have b236:=b233.ext x236 id;refine ⟨_,rfl,by simp [x236.keepT],trivial,trivial,trivial,trivial,?_⟩;exact rest _ _ _ _ _ _ _ _ _ s12.ext2.size s236 b236
end Go.VC
