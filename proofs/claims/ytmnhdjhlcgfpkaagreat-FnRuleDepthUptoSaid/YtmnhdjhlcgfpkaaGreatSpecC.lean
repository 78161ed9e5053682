/- Part of the proof of a law of a rule over documents (SpecC), where what the arguments hold is of bulk at most 1048576. -/
import Derived.Test.YtmnhdjhlcgfpkaaGreatSpecB
import Derived.Test.YtmnhdjhlcgfpkaaGreatBaseC
set_option linter.unusedVariables false
set_option linter.unusedSectionVars false
set_option linter.deprecated false
namespace Go.VC
open Go Go.Proofs
variable [DB]
variable {p:Addr}{s:BA}{types:List Def}{defs:List SchemaDef}{b c d l l1 l3:Nat}{a a1 a3:OA}{T:TypeId}{w':World}
def BMap (w:World)(b:Nat):Prop:=∃ m,SMap w b m/\∀ x∈m,∃ z,x.2=.bool z
theorem BMap.ext {X:Nat->Prop}{w:World}(h:BMap w b)(hx:Ext X w w')(hb:¬ X b):BMap w' b:=by
  obtain ⟨m,h1,h2⟩:=h;exact ⟨m,h1.ext hx hb,h2⟩
theorem BMap.not_cells {w:World}(h:BMap w b){cs:Array Value}{fr:Nat × Nat}:objAt w b≠some (.cells cs T fr):=by
  obtain ⟨m,⟨ents,cl,h1,_⟩,_⟩:=h;rw [h1];simp
theorem Ext.atM {w:World}(hx:Ext (XM d) w w')(hm:BMap w d){a:Addr}{v:Value}(h:At w T a v):At w' T a v:=
  hx.at (fun e=>by
    obtain ⟨cs,fr,h1,_⟩:=h;rw [e] at h1;exact hm.not_cells h1) h
theorem Ext.keepM {w:World}(hx:Ext (XM d) w w')(hm:BMap w d):Keep w w':=fun _ _ _ _ _ _ h=>hx.atM hm h
theorem Ext.keepTM {w:World}(hx:Ext (XM d) w w')(hm:BMap w d)(T:TypeId):KeepT T w w':=fun b cs fr hb=>
  hx.old b _ (fun e=>by
    rw [show b=d from e] at hb;exact hm.not_cells hb) hb
theorem c_K {xs ys:List BA}(h:xs.Nodup)(hs:∀ x∈xs,x∈ys):xs.length<=ys.length:=by
  induction xs generalizing ys with
  | nil=>simp
  | cons x xs ih=>
    obtain ⟨h1,h2⟩:=List.nodup_cons.1 h;obtain ⟨s,t,rfl⟩:=List.append_of_mem (hs x (by simp));have:xs.length<=(s++t).length:=ih h2 fun y hy=>by
      have:=hs y (by simp [hy]);rcases ma_.1 this with h'|h'
      · exact ma_.2 (.inl h')
      · rcases mc_.1 h' with rfl|h'
        · exact absurd hy h1
        · exact ma_.2 (.inr h')
    simp only [la_,List.length_cons] at this ⊢;omega
theorem m_s {m:List (BA × Value)}(h:∀ x∈m,∃ z,x.2=Value.bool z)(u:BA):∃ z,(mget m u).getD (.bool false)=.bool z:=by
  unfold mget;cases hf:m.find? (fun x=>u==x.1) with
  | none=>exact ⟨false,rfl⟩
  | some x=>exact h x (List.mem_of_find?_eq_some hf)
theorem m_t {m:List (BA × Value)}(h:∀ x∈m,∃ z,x.2=Value.bool z)(u:BA)(b:Bool):∀ x∈mput m u (.bool b),∃ z,x.2=Value.bool z:=by
  induction m with
  | nil => intro x hx;obtain rfl:x=(u,.bool b):=by simpa [mput] using hx
           exact ⟨b,rfl⟩
  | cons y m ih=>
    intro x hx;simp only [mput] at hx;split at hx
    · rcases mc_.1 hx with rfl|hx
      · exact ⟨b,rfl⟩
      · exact h x (by simp [hx])
    · rcases mc_.1 hx with rfl|hx
      · exact h _ (by simp)
      · exact ih (fun z hz=>h z (by simp [hz])) x hx
theorem k_i {name:BA}(h:(findD types name).1.kind=b_f):name∈types.map (·.name):=by
  unfold findD at h;cases hf:types.find? (fun d=>d.name.toList==name.toList) with
  | some d=>
    have h1:=List.find?_some hf;have h2:=List.mem_of_find?_eq_some hf;rw [<- a_b.1 h1];exact List.mem_map_of_mem h2
  | none=>
    rw [hf] at h;simp only at h;split at h
    · exact absurd h (by simp [a_A])
    · exact absurd h (by simp [noDef])
theorem k_0 (h:s.size<=4194304):Flat 1 RS [s] [.string s]:=by
  have:=Flat.cons (n:=1) (R:=RS) (x:=s) (cs:=[.string s]) rfl (i_Q h) rfl .nil;simpa using this
theorem a_q {base:Nat}{w:World}{T n:Nat}{xs:List Value}(h:Own base w T n a l c xs){k:Nat}(hk:k<base∨w.heap.size<=k):¬ blkOf a k:=fun hb=>by
  have:=h.base k hb;omega
theorem a_i {base:Nat}{w:World}{cells:List Value}{xs ys:List BA}(hown:Own base w 9 1 a l c cells)(hb:base<=w.heap.size)(hf:Flat 1 RS xs cells){a':OA}{l' c':Nat}(hl:RStrs w a' l' c' ys)(h2:l+l'<=16777216):
    ∃ (A:OA) (C:Nat) (w':World),(Go.builtin .append #[71,71] 71 #[false,false] #[.slice a l c,.slice a' l' c']).run Tryz.prog w=.ok (.value (.slice A (l+l') C)) w'/\
      (∃ cells',Own base w' 9 1 A (l+l') C cells'/\Flat 1 RS (xs++ys) cells')/\Ext (blkOf a) w w'/\(∀ b,blkOf A b->blkOf a b∨b=w.heap.size):=
  c_7 71 9 Tryz.t9 _ 1 _ (by kernel_rfl) (by kernel_rfl) rfl (by kernel_rfl) rfl (by kernel_rfl) (by omega) (by decide) hown hb hf hl (fun x cs h=>by rw [h];rfl) h2 71 #[false,false]
theorem d_L (p:Addr)(a:OA)(l c:Nat)(types:List Def)(dm:Nat):∀ (d:Nat) (name:BA) (above:List BA) (a':OA) (l' c':Nat) (w:World),above.Nodup->(∀ s∈above,s∈types.map (·.name))->types.length+1-above.length<=d->
    name.size<=4194304->At w 92 p (.slice a l c)->RDefs w a l c types->RStrs w a' l' c' above->BMap w dm->
    CP 169 #[.pointer (some p),.string name,.slice a' l' c',.map (some dm)] w (fun e w'=>∃ b,e=.returned (.bool b)/\Ext (XM dm) w w'/\BMap w' dm):=by
  intro d;induction d with
  | zero=>
    intro name above a' l' c' w hnd hsub hd;have:=c_K hnd hsub;simp at this;omega
  | succ d ih=>
    intro name above a' l' c' w hnd hsub hd hn hp hT hab hm;have hlen:=c_K hnd hsub;simp only [List.length_map] at hlen;obtain ⟨ea,la⟩:=hab.len;obtain ⟨et,lt⟩:=hT.len;have hM:∀ {w1:World},EF w w1->BMap w1 dm:=fun h=>hm.ext h id;refine f_w (some p) name a' l' c' (some dm) w _ ?_;refine (c_in name hab).mono ?_;rintro _ w1 ⟨b,rfl,hx,hb⟩;refine ⟨b,rfl,trivial,fun _=>⟨false,rfl,hx.mono fun _ _ f=>f.elim,hM hx⟩,fun hbf=>?_⟩;have hnot:name∉above:=fun h=>by rw [hb.2 h] at hbf;cases hbf
    refine (a_t hn (hx.at id hp) (hT.keep hx.keep)).mono ?_;rintro _ w2 ⟨cs,rfl,⟨b1,m1,d1,b2,m2,d2,b3,m3,d3,b4,m4,d4,b5,m5,d5,rfl,hu1,hu2,hu3,hu4,hu5⟩,-, hx2⟩;have hw2:=hx.then hx2;refine ⟨_,_,_,_,_,_,_,_,_,_,_,_,_,_,_,_,_,_,_,rfl,trivial,trivial,trivial,fun K21 hK21=>?_⟩;have hw3:EF w2 (w2.alloc (.cells #[.string (findD types name).1.kind,.string (findD types name).1.doc,.string (findD types name).1.name,.slice b1 m1 d1,.slice b2 m2 d2,.slice b3 m3 d3,.slice b4 m4 d4,.slice b5 m5 d5] 96)):=(Ext.refl w2).alloc _;have key21:∀ b,(b=false->(findD types name).1.kind=b_f)->K21 b (w2.alloc (.cells #[.string (findD types name).1.kind,.string (findD types name).1.doc,.string (findD types name).1.name,.slice b1 m1 d1,.slice b2 m2 d2,.slice b3 m3 d3,.slice b4 m4 d4,.slice b5 m5 d5] 96)):=by
      intro b22 hk;refine hK21 b22 (w2.alloc (.cells #[.string (findD types name).1.kind,.string (findD types name).1.doc,.string (findD types name).1.name,.slice b1 m1 d1,.slice b2 m2 d2,.slice b3 m3 d3,.slice b4 m4 d4,.slice b5 m5 d5] 96))
        ⟨fun _=>⟨true,rfl,(hw2.then hw3).mono fun _ _ f=>f.elim,hM (hw2.then hw3)⟩,fun hb22=>?_⟩
      have hin:=k_i (hk hb22);have hnd':(above++[name]).Nodup:=List.nodup_append.2 ⟨hnd,by simp,fun y hy z hz e=>by
        obtain rfl:z=name:=by simpa using hz
        exact hnot (e▸hy)⟩
      have hsub':∀ s∈above++[name],s∈types.map (·.name):=fun s hs=>by
        rcases ma_.1 hs with hs|hs
        · exact hsub s hs
        · obtain rfl:s=name:=by simpa using hs
          exact hin
      have hlen':=c_K hnd' hsub';simp only [List.length_map,la_,List.length_cons,List.length_nil] at hlen';obtain ⟨f1,f3⟩:=hu3.len;refine ⟨fun i w3=>0<=i/\i<=m3/\Ext (XM dm) w2 w3/\BMap w3 dm,fun i _=>((m3:Int)-i).toNat,⟨by omega,by omega,hw3.mono fun _ _ f=>f.elim,hM (hw2.then hw3)⟩,?_⟩;rintro i w3 ⟨h0,h1,kx,km⟩;have hm2:=hM hw2;refine ⟨fun hlt=>?_,fun hge=>?_⟩
      · have hlt:=odt hlt
        obtain ⟨pe,f,hpe,hxs,cs,hc,g0,o0,j0,g2,o2,j2,n,g1,o1,j1,nn,g3,o3,j3,rfl,-⟩:=hu3.get h0 hlt;obtain ⟨⟨_,_,hc0⟩,hs0,⟨_,_,hc1⟩,hs1,⟨_,_,hc2⟩,hs2,⟨_,_,hc3⟩,hs3,⟨_,_,hc4⟩,hs4,⟨_,_,hc5⟩,hs5,⟨_,_,hc6⟩,hs6,⟨_,_,hc7⟩,-⟩:=hc;refine ⟨pe,hpe,⟨h0,hlt⟩,_,(kx.atM hm2 hc0).cell,_,(kx.atM hm2 hc1).cell,_,_,_,(kx.atM hm2 hc2).cell,_,_,_,(kx.atM hm2 hc3).cell,_,(kx.atM hm2 hc4).cell,_,_,_,(kx.atM hm2 hc5).cell,_,(kx.atM hm2 hc6).cell,_,_,_,(kx.atM hm2 hc7).cell,trivial,trivial,fun K39 hK39=>?_⟩;have key39:∀ b w',Ext (XM dm) w2 w'->BMap w' dm->K39 b w':=fun b w' j jm=>hK39 b w' ⟨fun _=>⟨false,rfl,(hw2.mono fun _ _ f=>f.elim).trans j fun _ _ h=>h,jm⟩,fun _=>by
          rw [a_a h0 (by omega)];exact next h0 hlt ⟨j,jm⟩⟩
        rintro w4 e4;have kx4:Ext (XM dm) w2 w4:=by rw [e4];exact (kx.alloc _).drew
        have km4:BMap w4 dm:=by rw [e4];exact km.ext (((Ext.refl (X:=fun _=>False) w3).alloc _).drew) id
        clear e4;have hk4:Keep w w4:=(hw2.keep).trans (kx4.keepM hm2);have hp4:At w4 92 p (.slice a l c):=kx4.atM hm2 (hw2.at id hp);have hab4:RStrs w4 a' l' c' above:=hab.keep hk4;have call:∀ (A:OA) (C:Nat) (w5:World),EF w4 w5->SlL w5 9 1 RS A (l'+1) C (above++[name])->
            CP 169 #[.pointer (some p),.string n,.slice A (l'+1) C,.map (some dm)] w5 (fun e49 wv50=>∃ b51:Bool,e49=.returned (.bool b51)/\(KeepT 96 w5 wv50/\KeepT 104 w5 wv50/\True)/\True/\K39 (!b51) wv50):=by
          intro A C w5 j5 hs5';have jm5:=km4.ext j5 id;refine (ih n (above++[name]) A (l'+1) C w5 hnd' hsub' (by simp only [la_,List.length_cons,List.length_nil];omega) hs4 (j5.at id hp4) (hT.keep (hk4.trans j5.keep)) hs5' jm5).mono ?_;rintro _ w6 ⟨b,rfl,j6,jm6⟩;exact ⟨b,rfl,⟨j6.keepTM jm5 _,j6.keepTM jm5 _,trivial⟩,trivial,key39 _ _ ((kx4.then j5).trans j6 fun _ _ h=>h) jm6⟩
        refine ⟨fun _=>⟨fun _=>⟨?_,?_⟩,fun _=>key39 _ _ kx4 km4⟩,fun _=>key39 _ _ kx4 km4⟩
        ·
          refine ⟨by simp,?_,?_⟩
          · have o1:=Own.made w4.heap.size w4 9 1 0 #[] (Nat.le_refl _) (by simp) (by simp)
            have j1:EF w4 (w4.alloc (.cells #[] 9)):=(Ext.refl w4).alloc _;obtain ⟨A,C,w5,r5,⟨cells5,o5,q5⟩,x5,-⟩:=a_i o1 j1.size (xs:=[]) .nil (hab4.keep j1.keep) (by omega);rw [Nat.zero_add] at r5 o5;have j5:EF w4 w5:=j1.trans x5 fun b hb hbl=>a_q o1 (.inl hb) hbl;refine ⟨A,l',C,w5,r5,⟨o1.keepT x5 (by decide),o1.keepT x5 (by decide),trivial⟩,by simp,trivial,?_⟩;obtain ⟨A6,C6,w6,r6,⟨cells6,o6,q6⟩,x6,k6⟩:=a_S o5 j5.size (by simpa using q5) hn (by omega);have j6:EF w4 w6:=j5.trans x6 fun b hb hbl=>a_q o5 (.inl hb) hbl;exact ⟨by simp,A6,l'+1,C6,w6,r6,⟨k6 96 (by decide),k6 104 (by decide),trivial⟩,by simp,call A6 C6 w6 j6 (o6.sl q6 (by omega) (by omega))⟩
          · have o1:=Own.made w4.heap.size w4 9 1 0 #[] (Nat.le_refl _) (by simp) (by simp)
            have j1:EF w4 (w4.alloc (.cells #[] 9)):=(Ext.refl w4).alloc _;have on:=Own.made w4.heap.size (w4.alloc (.cells #[] 9)) 9 1 1 #[.string name] j1.size (by simp [maxLen]) (by simp);have j2:EF (w4.alloc (.cells #[] 9)) ((w4.alloc (.cells #[] 9)).alloc (.cells #[.string name] 9)):=(Ext.refl _).alloc _;have o2:=o1.keep j2 fun _ _=>id;obtain ⟨A,C,w5,r5,⟨cells5,o5,q5⟩,x5,y5⟩:=a_i o2 (j1.then j2).size (xs:=[]) .nil (hab4.keep (j1.then j2).keep) (by omega);rw [Nat.zero_add] at r5 o5;have j5:EF w4 w5:=(j1.then j2).trans x5 fun b hb hbl=>a_q o2 (.inl hb) hbl;have on5:=on.keep x5 fun b ⟨q,hq,hqb⟩ ⟨q',hq',hqb'⟩=>by
              simp only [Option.some.injEq] at hq hq';rw [<- hq] at hqb;rw [<- hq'] at hqb';simp at hqb hqb';omega
            refine ⟨trivial,by simp,A,l',C,w5,r5,⟨o2.keepT x5 (by decide),o2.keepT x5 (by decide),trivial⟩,by simp,?_⟩;obtain ⟨A6,C6,w6,r6,⟨cells6,o6,q6⟩,x6,-⟩:=a_i o5 j5.size (by simpa using q5) (on5.sl (xs:=[name]) (k_0 hn) (by omega) (by omega)) (by omega);have j6:EF w4 w6:=j5.trans x6 fun b hb hbl=>a_q o5 (.inl hb) hbl;exact ⟨A6,l'+1,C6,w6,r6,⟨o5.keepT x6 (by decide),o5.keepT x6 (by decide),trivial⟩,by simp,call A6 C6 w6 j6 (o6.sl q6 (by omega) (by omega))⟩
        · have on:=Own.made w4.heap.size w4 9 1 1 #[.string name] (Nat.le_refl _) (by simp [maxLen]) (by simp)
          have j1:EF w4 (w4.alloc (.cells #[.string name] 9)):=(Ext.refl w4).alloc _;have o1:=Own.made w4.heap.size (w4.alloc (.cells #[.string name] 9)) 9 1 0 #[] j1.size (by simp) (by simp);have j2:EF (w4.alloc (.cells #[.string name] 9)) ((w4.alloc (.cells #[.string name] 9)).alloc (.cells #[] 9)):=(Ext.refl _).alloc _;have on2:=on.keep j2 fun _ _=>id;obtain ⟨A,C,w5,r5,⟨cells5,o5,q5⟩,x5,y5⟩:=a_i o1 (j1.then j2).size (xs:=[]) .nil (hab4.keep (j1.then j2).keep) (by omega);rw [Nat.zero_add] at r5 o5;have j5:EF w4 w5:=(j1.then j2).trans x5 fun b hb hbl=>a_q o1 (.inl hb) hbl;have on5:=on2.keep x5 fun b ⟨q,hq,hqb⟩ ⟨q',hq',hqb'⟩=>by
            simp only [Option.some.injEq] at hq hq';rw [<- hq] at hqb;rw [<- hq'] at hqb';simp at hqb hqb';omega
          refine ⟨trivial,by simp,by simp,A,l',C,w5,r5,⟨o1.keepT x5 (by decide),o1.keepT x5 (by decide),trivial⟩,by simp,?_⟩;obtain ⟨A6,C6,w6,r6,⟨cells6,o6,q6⟩,x6,-⟩:=a_i o5 j5.size (by simpa using q5) (on5.sl (xs:=[name]) (k_0 hn) (by omega) (by omega)) (by omega);have j6:EF w4 w6:=j5.trans x6 fun b hb hbl=>a_q o5 (.inl hb) hbl;exact ⟨A6,l'+1,C6,w6,r6,⟨o5.keepT x6 (by decide),o5.keepT x6 (by decide),trivial⟩,by simp,call A6 C6 w6 j6 (o6.sl q6 (by omega) (by omega))⟩
      · obtain ⟨mm,hsm,hbm⟩:=km
        obtain ⟨w5,r5,hs5,x5⟩:=b_T (t:=231) (kt:=9) (e:=4) (u:=name) (v:=.bool true) (by kernel_rfl) (by kernel_rfl) hsm;have jm5:BMap w5 dm:=⟨_,hs5,m_t hbm name true⟩;exact ⟨w5,r5,⟨x5.keepTM ⟨mm,hsm,hbm⟩ _,trivial⟩,true,rfl,((hw2.mono fun _ _ f=>f.elim).trans kx fun _ _ h=>h).trans x5 fun _ _ h=>h,jm5⟩
    refine ⟨fun hk=>?_,fun _=>key21 true nofun⟩;obtain ⟨mm,hsm,hbm⟩:=hM (hw2.then hw3);have r:=a_W (t:=231) (kt:=9) (e:=4) (u:=name) (i:=Tryz.t4) (by kernel_rfl) (by kernel_rfl) (by kernel_rfl) rfl hsm false;obtain ⟨z,hz⟩:=m_s hbm name;rw [hz] at r;exact ⟨z,r,key21 z fun _=>b_2 hk⟩
theorem Ext.keep1 {w:World}(hx:Ext (XM b) w w'){T0:TypeId}{cs:List Value}(hb:Blk w b T0 cs)(h0:dataT T0=false)(hB:DB.B<=b):Keep w w':=
 fun T T' a v hT ho h=>ho.elim (fun e=>by
  subst e;exact hx.at1 hb (fun e=>by rw [e,h0] at hT;cases hT) h) fun hl=>hx.at (fun e=>by
  have:a.block=b:=e;omega) h
theorem Ext.ok1 {w:World}(hx:Ext (XM b) w w'){T0:TypeId}{cs:List Value}(hb:Blk w b T0 cs){T':TypeId}{a:Addr}{v:Value}(hT:T≠T0)(hB:DB.B<=b)(ho:okT T T' a.block)(h:At w T' a v):At w' T' a v:=
 ho.elim (fun e=>by
  subst e;exact hx.at1 hb hT h) fun hl=>hx.at (fun e=>by
  have:a.block=b:=e;omega) h
theorem g_2 {name:BA}{a':OA}{l' c':Nat}{w:World}(hn:name.size<=4194304)(hp:At w 92 p (.slice a l c))(hT:RDefs w a l c types)
  (hab:RStrs w a' l' c' []):CP 108 #[.pointer (some p),.string name,.slice a' l' c'] w (RetB w fun _=>True):=by
 refine h_e (some p) name a' l' c' w _ ?_;have hx:EF w (w.alloc (.map #[] 0)):=(Ext.refl w).alloc _;have hm:BMap (w.alloc (.map #[] 0)) w.heap.size:=⟨[],SMap.made w,by simp⟩;refine (d_L p a l c types w.heap.size _ name [] a' l' c' _ (by simp) (by simp) (Nat.le_refl _) hn (hx.at id hp) (hT.keep hx.keep) (hab.keep hx.keep) hm).mono ?_;rintro _ w' ⟨b,rfl,hx',-⟩;exact ⟨b,rfl,trivial,b,rfl,(hx.trans (Y:=XM w.heap.size) hx' (fun k hk e=>by rw [show k=w.heap.size from e] at hk;omega)),trivial⟩
theorem b_x (a:Addr)(n:Nat):(a.add n).block=a.block:=by unfold Addr.add;split<;>rfl
theorem a_x.imp {w:World}(h:∀ T' v j,At w T' (adj p j) v->At w' T' (adj p j) v):∀ {cs:List Value} {j:Nat},a_x w T p j cs->a_x w' T p j cs
 | [],_,_=>trivial
 | _::_,j,⟨⟨T',ho,h1⟩,h0,h2⟩=>⟨⟨T',ho,h T' _ j h1⟩,h0,h2.imp h⟩
theorem SlL.ext {α:Type}{X:Nat->Prop}{w:World}{T n:Nat}{R:α->List Value->Prop}{xs:List α}(h:SlL w T n R (some p) l c xs)(hx:Ext X w w')(hp:¬ X p.block):SlL w' T n R (some p) l c xs:=by
 obtain ⟨h1,h2,h3,h4⟩:=h;refine ⟨h1,h2,h3,fun i x hi=>?_⟩;obtain ⟨q,hq,cs,hc,hr⟩:=h4 i x hi;cases hq;refine ⟨p,rfl,cs,hc.imp fun T' v j g=>hx.at ?_ g,hr⟩;rw [c_2,add_add',b_x];exact hp
def Two (base:Nat)(w:World)(A:OA)(L C:Nat)(xs:List BA)(B:OA)(M D:Nat)(ys:List BA):Prop:=
 (∃ cells,Own base w 9 1 A L C cells/\Flat 1 RS xs cells)/\(∃ cells,Own base w 9 1 B M D cells/\Flat 1 RS ys cells)/\∀ b,blkOf A b->¬ blkOf B b
section
variable {base:Nat} {w:World} {A:OA} {L C:Nat} {xs:List BA} {B:OA} {M D:Nat} {ys:List BA}
theorem Two.swap (h:Two base w A L C xs B M D ys):Two base w B M D ys A L C xs:=⟨h.2.1,h.1,fun b hb ha=>h.2.2 b ha hb⟩
theorem Two.keep (h:Two base w A L C xs B M D ys)(hx:EF w w'):Two base w' A L C xs B M D ys:=by
 obtain ⟨⟨c1,o1,f1⟩,⟨c2,o2,f2⟩,h3⟩:=h;exact ⟨⟨c1,o1.keep hx fun _ _=>id,f1⟩,⟨c2,o2.keep hx fun _ _=>id,f2⟩,h3⟩
theorem Two.app (h:Two base w A L C xs B M D ys)(hb:base<=w.heap.size){p:OA}(hs:RStrs w p 1 1 [s])(h2:L+1<=16777216):
  ∃ (A':OA) (C':Nat) (w':World),(Go.builtin .append #[71,71] 71 #[false,false] #[.slice A L C,.slice p 1 1]).run Tryz.prog w=.ok (.value (.slice A' (L+1) C')) w'/\
   Two base w' A' (L+1) C' (xs++[s]) B M D ys/\Ext (blkOf A) w w'/\(∀ T,T≠9->KeepT T w w'):=by
 obtain ⟨⟨c1,o1,f1⟩,⟨c2,o2,f2⟩,h3⟩:=h;obtain ⟨A',C',w',r,⟨c3,o3,f3⟩,x3,y3⟩:=a_i o1 hb f1 hs h2;refine ⟨A',C',w',r,⟨⟨c3,o3,f3⟩,⟨c2,o2.keep x3 fun b hb ha=>h3 b ha hb,f2⟩,fun b hb hB=>?_⟩,x3,fun T hT=>o1.keepT x3 hT⟩;rcases y3 b hb with hb|hb
 ·exact h3 b hb hB
 ·have:=(o2.base b hB).2;omega
end
theorem c_I (w:World)(hs:s.size<=4194304):RStrs (w.alloc (.cells #[.string s] 9)) (some (adr w.heap.size)) 1 1 [s]:=by
 have:=g_S w [s] (by simpa using hs) (by simp);simpa using this
def a_F (types:List Def)(defs:List SchemaDef):List RootD:=
 match defs with
 | [d]=>d.roots
 | _=>[(⟨⟨#[113,117,101,114,121]⟩,⟨#[81,117,101,114,121]⟩⟩:RootD),⟨⟨#[109,117,116,97,116,105,111,110]⟩,⟨#[77,117,116,97,116,105,111,110]⟩⟩,⟨⟨#[115,117,98,115,99,114,105,112,116,105,111,110]⟩,⟨#[83,117,98,115,99,114,105,112,116,105,111,110]⟩⟩].filter fun r=>(findD types r.t).2
def k_n (types:List Def)(roots:List RootD):Prop:=(roots.map (·.op)).Nodup/\(roots.map (·.t)).Nodup/\a_5∈roots.map (·.op)/\∀ r∈roots,(findD types r.t).1.kind=a_V
section
variable {w0 w:World} {A:OA} {L C:Nat} {xs:List BA} {B:OA} {M D:Nat} {ys:List BA}
theorem Two.ext0 (h:Two w0.heap.size w A L C xs B M D ys)(hx0:EF w0 w)(hx:Ext (blkOf A) w w'):EF w0 w':=by
 obtain ⟨⟨c1,o1,f1⟩,-, -⟩:=h;exact hx0.trans hx fun b hb hbl=>a_q o1 (.inl hb) hbl
theorem Two.ne {base:Nat}(h:Two base w A L C xs B M D ys){k:Nat}(hk:w.heap.size<=k):¬ blkOf A k:=by
 obtain ⟨⟨c1,o1,f1⟩,-, -⟩:=h;exact a_q o1 (.inr hk)
end
abbrev def3:List RootD:=[⟨⟨#[113,117,101,114,121]⟩,⟨#[81,117,101,114,121]⟩⟩,⟨⟨#[109,117,116,97,116,105,111,110]⟩,⟨#[77,117,116,97,116,105,111,110]⟩⟩,⟨⟨#[115,117,98,115,99,114,105,112,116,105,111,110]⟩,⟨#[83,117,98,115,99,114,105,112,116,105,111,110]⟩⟩]
theorem l_B:∀ r∈def3,r.op.size<=4194304/\r.t.size<=4194304:=by decide
theorem h_L:∀ (rs:List RootD),(∀ r∈rs,r.op.size<=4194304/\r.t.size<=4194304)->Flat 2 RRoot rs (rs.flatMap fun r=>[.string r.op,.string r.t])
 | [],_=>.nil
 | r::l,h=>Flat.cons (cs:=[.string r.op,.string r.t]) rfl (fun v hv=>by
   have:=h r (by simp);simp only [mc_,nn_,or_false] at hv;rcases hv with rfl|rfl
   ·exact this.1
   ·exact this.2) rfl (h_L l fun x hx=>h x (by simp [hx]))
theorem l_V (h:defs.length≠1):a_F types defs=def3.filter fun r=>(findD types r.t).2:=by
 unfold a_F;split
 ·simp at h
 ·rfl
theorem g_3 {c3:Nat}{c1:Nat}{w:World}
  (hb:Blk w b 92 [.slice a l c,.slice none 0 0,.slice a3 l3 c3]) (hT:RDefs w a l c types) (h1:a_p w a1 l1 c1 defs) (hB:DB.B<=b)
  (a2:OA) (l2 c2:Nat) (a4:OA) (l4 c4:Nat) (a5:OA) (l5 c5:Nat) (a6:OA) (l6 c6:Nat):
  CP 113 #[.pointer (some (adr b)),.agg #[.slice a1 l1 c1,.slice a2 l2 c2,.slice a4 l4 c4,.slice a5 l5 c5,.slice a6 l6 c6]] w fun e w'=>∃ r,e=.returned (.bool r)/\Ext (XM b) w w'/\
   (r=true->∃ (A:OA) (L C:Nat),Blk w' b 92 [.slice a l c,.slice A L C,.slice a3 l3 c3]/\b_w w' A L C (a_F types defs)/\k_n types (a_F types defs)):=by
 obtain ⟨e1,g1⟩:=h1.len;have hx0:EF w (w.alloc (.cells #[.slice a1 l1 c1,.slice a2 l2 c2,.slice a4 l4 c4,.slice a5 l5 c5,.slice a6 l6 c6] 26)):=(Ext.refl w).alloc _;refine h_f (some (adr b)) a1 l1 c1 a2 l2 c2 a4 l4 c4 a5 l5 c5 a6 l6 c6 w _ ⟨trivial,fun K8 hK8=>?_⟩;have fin:∀ (A:OA) (L C:Nat) (w9:World),Ext (XM b) w w9->Blk w9 b 92 [.slice a l c,.slice A L C,.slice a3 l3 c3]->b_w w9 A L C (a_F types defs)->K8 w9:=by
  intro A L C w9 hx9 hb9 hR;obtain ⟨er,gr⟩:=hR.len;have hT9:RDefs w9 a l c types:=hT.keep (hx9.keep1 hb (by decide) hB);refine hK8 w9 ⟨adr b,rfl,A,L,C,(hb9.at (j:=1) rfl).cell,?_⟩;refine ⟨fun A1 L1 C1 A2 L2 C2 i w1=>0<=i/\i<=L/\EF w9 w1/\L1=i.toNat/\L2=i.toNat/\Two w9.heap.size w1 A1 L1 C1 (((a_F types defs).take i.toNat).map (·.op)) A2 L2 C2 (((a_F types defs).take i.toNat).map (·.t))/\
    ∀ r∈(a_F types defs).take i.toNat,(findD types r.t).1.kind=a_V,
   fun _ _ _ _ _ _ i _=>((L:Int)-i).toNat,⟨by omega,by omega,Ext.refl _,rfl,rfl,⟨⟨[],Own.nil ..,.nil⟩,⟨[],Own.nil ..,.nil⟩,fun b ⟨p,hp,_⟩=>by cases hp⟩,by simp⟩,?_⟩
  rintro A1 L1 C1 A2 L2 C2 i w1 ⟨h0,hi,hx,rfl,rfl,h2,hk⟩;refine ⟨fun hlt=>?_,fun hge=>?_⟩
  ·have hlt:=odt hlt;obtain ⟨p,x,hp,hxs,cs,hc,rfl⟩:=hR.get h0 hlt;obtain ⟨⟨_,_,hc0⟩,hcs0,⟨_,_,hc1⟩,hcs1,-⟩:=hc;intro K18 hK18;refine ⟨p,hp,⟨h0,hlt⟩,_,hx.cell hc0 id,_,hx.cell hc1 id,trivial,trivial,?_⟩;have hx26:=hx.alloc (.cells #[.string x.op,.string x.t] 218);refine (a_t hcs1 (hx26.at id (hb9.at (j:=0) rfl)) (hT9.keep hx26.keep)).mono ?_;rintro _ w2 ⟨cs,rfl,⟨b1,m1,d1,b2,m2,d2,b3,m3,d3,b4,m4,d4,b5,m5,d5,rfl,-⟩,-, hx2⟩;refine ⟨_,_,_,_,_,_,_,_,_,_,_,_,_,_,_,_,_,_,_,rfl,by simp [hx2.keepT],trivial,trivial,fun hz=>⟨false,rfl,hx9.then ((hx26.then hx2).alloc _),nofun⟩,fun hz=>?_⟩;intro w4 e4;have hx14:EF w1 w4:=by rw [e4];exact ((((Ext.refl w1).alloc _).then hx2).alloc _).drew
   clear e4;have hx4:=hx.then hx14;have t4:=h2.keep hx14;have hsz:=hx4.size;have kk:∀ {u u':World},(∀ T,T≠9->KeepT T u u')->KeepT 26 u u'/\KeepT 218 u u'/\KeepT 96 u u'/\True:=fun k=>⟨k _ (by decide),k _ (by decide),k _ (by decide),trivial⟩;have fin18:∀ (A1':OA) (C1':Nat) (A2':OA) (C2':Nat) (w5:World),EF w9 w5->
     Two w9.heap.size w5 A1' (i.toNat+1) C1' (((a_F types defs).take i.toNat).map (·.op)++[x.op]) A2' (i.toNat+1) C2' (((a_F types defs).take i.toNat).map (·.t)++[x.t])->K18 A1' (i.toNat+1) C1' A2' (i.toNat+1) C2' w5:=by
    intro A1' C1' A2' C2' w5 hx5 h5;refine hK18 _ _ _ _ _ _ _ ?_;rw [a_a h0 (by omega)];refine next h0 hlt ⟨hx5,by omega,by omega,?_,a_g h0 hk hxs (b_2 hz)⟩
    rw [show (i+1).toNat=i.toNat+1 by omega,List.take_succ,hxs];simpa using h5
   have jo:EF w4 (w4.alloc (.cells #[.string x.op] 9)):=(Ext.refl w4).alloc _;have jt:EF w4 (w4.alloc (.cells #[.string x.t] 9)):=(Ext.refl w4).alloc _;refine ⟨⟨trivial,by simp,?_,trivial,?_⟩,trivial,by simp,trivial,trivial,?_⟩
   ·obtain ⟨A,C,w5,r5,t5,x5,k5⟩:=(t4.keep jo).app (lt_ hsz jo.size) (c_I w4 hcs0) (by omega);have hx5:=(t4.keep jo).ext0 (hx4.then jo) x5;refine ⟨A,_,C,w5,r5,kk k5,by simp,trivial,trivial,?_⟩;have j5:EF w5 (w5.alloc (.cells #[.string x.t] 9)):=(Ext.refl w5).alloc _;obtain ⟨B,D,w6,r6,t6,x6,k6⟩:=(t5.keep j5).swap.app (lt_ hx5.size j5.size) (c_I w5 hcs1) (by omega);have hx6:=(t5.keep j5).swap.ext0 (hx5.then j5) x6;exact ⟨B,_,D,w6,r6,kk k6,trivial,trivial,trivial,fin18 _ _ _ _ _ hx6 t6.swap⟩
   ·have j2:EF (w4.alloc (.cells #[.string x.op] 9)) ((w4.alloc (.cells #[.string x.op] 9)).alloc (.cells #[.string x.t] 9)):=(Ext.refl _).alloc _;have t5:=(t4.keep jo).keep j2;obtain ⟨A,C,w5,r5,t6,x5,k5⟩:=t5.app (lt_ hsz (jo.then j2).size) ((c_I w4 hcs0).keep j2.keep) (by omega);have hx5:=t5.ext0 (hx4.then (jo.then j2)) x5;refine ⟨trivial,A,_,C,w5,r5,kk k5,trivial,?_⟩;have el:=(c_I (w4.alloc (.cells #[.string x.op] 9)) hcs1).ext x5 ((t4.keep jo).ne (Nat.le_refl _));obtain ⟨B,D,w6,r6,t7,x6,k6⟩:=t6.swap.app hx5.size el (by omega);have hx6:=t6.swap.ext0 hx5 x6;exact ⟨B,_,D,w6,r6,kk k6,trivial,trivial,trivial,fin18 _ _ _ _ _ hx6 t7.swap⟩
   ·have j2:EF (w4.alloc (.cells #[.string x.t] 9)) ((w4.alloc (.cells #[.string x.t] 9)).alloc (.cells #[.string x.op] 9)):=(Ext.refl _).alloc _;have t5:=(t4.keep jt).keep j2;obtain ⟨A,C,w5,r5,t6,x5,k5⟩:=t5.app (lt_ hsz (jt.then j2).size) (c_I _ hcs0) (by omega);have hx5:=t5.ext0 (hx4.then (jt.then j2)) x5;refine ⟨A,_,C,w5,r5,kk k5,trivial,?_⟩;have el:=((c_I w4 hcs1).keep j2.keep).ext x5 (t4.ne (Nat.le_refl _));obtain ⟨B,D,w6,r6,t7,x6,k6⟩:=t6.swap.app hx5.size el (by omega);have hx6:=t6.swap.ext0 hx5 x6;exact ⟨B,_,D,w6,r6,kk k6,trivial,trivial,trivial,fin18 _ _ _ _ _ hx6 t7.swap⟩
  ·intro K58 hK58;have hle:=odf hge;rw [tl_ (by omega)] at h2 hk;obtain ⟨⟨ca,oa,fa⟩,⟨cb,ob,fb⟩,-⟩:=h2;have sa:RStrs w1 A1 i.toNat C1 ((a_F types defs).map (·.op)):=oa.sl fa (by omega) (by omega);have sb:RStrs w1 A2 i.toNat C2 ((a_F types defs).map (·.t)):=ob.sl fb (by omega) (by omega);have key:∀ r w',EF w1 w'->(r=true->k_n types (a_F types defs))->K58 r w':=fun r w' hx' hr=>hK58 r w' ⟨r,rfl,hx9.then (hx.then hx'),fun h=>⟨A,L,C,hb9.ext (hx.then hx') id,hR.keep (hx.then hx').keep,hr h⟩⟩;refine (RetB.base (j_5 sa) (Ext.refl w1)).mono ?_;rintro _ w2 ⟨b2,rfl,k2,x2,hb2⟩;refine ⟨b2,rfl,by simp [k2],fun g2=>?_,fun _=>key _ _ x2 nofun⟩;refine (RetB.base (j_5 (sb.keep x2.keep)) x2).mono ?_;rintro _ w3 ⟨b3,rfl,k3,x3,hb3⟩;refine ⟨b3,rfl,by simp [k3],fun g3=>?_,fun _=>key _ _ x3 nofun⟩;refine (RetB.base (c_in a_5 (sa.keep x3.keep)) x3).mono ?_;rintro _ w4 ⟨b4,rfl,k4,x4,hb4⟩;exact ⟨b4,rfl,by simp [k4],key _ _ x4 fun g4=>⟨hb2 g2,hb3 g3,hb4.1 g4,hk⟩⟩
 refine ⟨fun h=>?_,fun h=>?_⟩
 ·have hl1:(l1:Int)=1:=by simpa using h
  obtain ⟨p,d,hp,hxs,cs,hc,b1,m1,d1,b2,m2,d2,rfl,hd1,hd2⟩:=h1.get (i:=0) (by omega) (by omega);obtain ⟨⟨_,_,hc0⟩,hcs0,⟨_,_,hc1⟩,hcs1,⟨_,_,hc2⟩,hcs2,-⟩:=hc;have hdd:a_F types defs=d.roots:=by
   have:defs=[d]:=by
    match defs,e1,hxs with
    | [y],_,hxs=>simpa using hxs
    | [],e1,_=>simp at e1;omega
    | _::_::_,e1,_=>simp at e1;omega
   rw [this];rfl
  intro K70 hK70;have key:∀ bb,K70 bb (w.alloc (.cells #[.slice a1 l1 c1,.slice a2 l2 c2,.slice a4 l4 c4,.slice a5 l5 c5,.slice a6 l6 c6] 26)):=fun bb=>hK70 bb _ ⟨fun _=>⟨false,rfl,hx0.toM _,nofun⟩,fun _=>
   ⟨p,hp,⟨by omega,by omega⟩,_,_,_,hx0.cell hc2 id,adr b,rfl,(hb.ext hx0 id).off (j:=1) (n:=1) (by simp) (q:=fun T=>(Nat.beq 26 T||false)) rfl,trivial,by
    have hx7:Ext (XM b) w ((w.alloc (.cells #[.slice a1 l1 c1,.slice a2 l2 c2,.slice a4 l4 c4,.slice a5 l5 c5,.slice a6 l6 c6] 26)).setCell ((adr b).add 1) (.slice b2 m2 d2)):=Ext.setCell (X:=XM b) (hx0.toM _) (a:=(adr b).add 1) (.inl rfl) _;refine fin b2 m2 d2 _ hx7 ((hb.ext hx0 id).set 1 _) ?_;rw [hdd];exact hd2.keep (hx7.keep1 hb (by decide) hB)⟩⟩
  exact ⟨p,hp,⟨by omega,by omega⟩,_,hx0.cell hc0 id,fun _=>⟨p,hp,⟨by omega,by omega⟩,_,_,_,hx0.cell hc1 id,key _⟩,fun _=>key _⟩
 ·have hl1:defs.length≠1:=by
   have:¬ (l1:Int)=1:=by simpa using h
   omega
  have hdd:=l_V (types:=types) hl1;refine ⟨trivial,trivial,trivial,trivial,?_⟩;generalize hw7:w.alloc (.cells #[.slice a1 l1 c1,.slice a2 l2 c2,.slice a4 l4 c4,.slice a5 l5 c5,.slice a6 l6 c6] 26)=w7 at hx0;have m3:b_w (w7.alloc (.cells (def3.flatMap fun (r:RootD)=>[Value.string r.op,Value.string r.t]).toArray 218)) (some (adr w7.heap.size)) 3 3 def3:=
   (Own.made 0 w7 218 2 3 (def3.flatMap fun (r:RootD)=>[Value.string r.op,Value.string r.t]).toArray (Nat.zero_le _) (by simp [maxLen]) (by simp)).sl (R:=RRoot) (xs:=def3) (by rw [List.toList_toArray];exact h_L def3 l_B) (by omega) (by omega)
  have hx8:EF w7 (w7.alloc (.cells (def3.flatMap fun (r:RootD)=>[Value.string r.op,Value.string r.t]).toArray 218)):=(Ext.refl w7).alloc _;have hsz:(w7.alloc (.cells (def3.flatMap fun (r:RootD)=>[Value.string r.op,Value.string r.t]).toArray 218)).heap.size=w7.heap.size+1:=by simp
  show ∃ (I:Int->World->Prop) (μ:Int->World->Nat),I 0 (w7.alloc (.cells (def3.flatMap fun (r:RootD)=>[Value.string r.op,Value.string r.t]).toArray 218))/\_;generalize (w7.alloc (.cells (def3.flatMap fun (r:RootD)=>[Value.string r.op,Value.string r.t]).toArray 218))=w8 at m3 hx8 hsz ⊢;have hbl:=hb.lt;have h7:=hx0.size;have hb8:Blk w8 b 92 [.slice a l c,.slice none 0 0,.slice a3 l3 c3]:=hb.ext (hx0.then hx8) id;have hT8:=hT.keep (hx0.then hx8).keep;refine ⟨fun i w1=>0<=i/\i<=((3:Nat):Int)/\Ext (XM b) w8 w1/\∃ A L C cells,L<=i.toNat/\Own w8.heap.size w1 218 2 A L C cells/\Flat 2 RRoot ((def3.take i.toNat).filter fun r=>(findD types r.t).2) cells/\Blk w1 b 92 [.slice a l c,.slice A L C,.slice a3 l3 c3],
   fun i _=>(((3:Nat):Int)-i).toNat,⟨by omega,by omega,Ext.refl _,none,0,0,[],by omega,Own.nil ..,by simpa using .nil,hb8⟩,?_⟩
  rintro i w1 ⟨h0,hi,hx,A,L,C,cells,hL,hown,hf,hb1⟩;have hxw:Ext (XM b) w w1:=(hx0.toM _).trans ((hx8.toM _).trans hx fun _ _ h=>h) fun _ _ h=>h;refine ⟨fun hlt=>?_,fun hge=>?_⟩
  ·have hlt:=odt hlt;intro K86 hK86;obtain ⟨p,x,hp,hxs,cs,hc,rfl⟩:=(SlL.ext m3 hx (fun e=>by have:w7.heap.size=b:=e;omega)).get h0 hlt;obtain ⟨⟨_,_,hc0⟩,hcs0,⟨_,_,hc1⟩,hcs1,-⟩:=hc;have hx91:EF w1 (w1.alloc (.cells #[.string ⟨#[]⟩,.string ⟨#[]⟩] 218)):=(Ext.refl w1).alloc _;have k91:Blk (w1.alloc (.cells #[.string ⟨#[]⟩,.string ⟨#[]⟩] 218)) w1.heap.size 218 [.string ⟨#[]⟩,.string ⟨#[]⟩]:=Blk.made w1 _ _;refine ⟨p,hp,⟨h0,hlt⟩,_,hc0.cell,_,hc1.cell,trivial,k91.off (j:=0) (n:=2) (by simp) (q:=fun T=>(Nat.beq 26 T||false)) rfl,trivial,?_⟩;have hx92:EF w1 (((w1.alloc (.cells #[.string ⟨#[]⟩,.string ⟨#[]⟩] 218)).setCell (adr w1.heap.size) (.string x.op)).setCell ((adr w1.heap.size).add 1) (.string x.t)):=
    (hx91.setCell (.inr (Nat.le_refl _)) _).setCell (.inr (Nat.le_refl _)) _
   have k92:Blk (((w1.alloc (.cells #[.string ⟨#[]⟩,.string ⟨#[]⟩] 218)).setCell (adr w1.heap.size) (.string x.op)).setCell ((adr w1.heap.size).add 1) (.string x.t)) w1.heap.size 218 [.string x.op,.string x.t]:=
    (k91.set 0 (.string x.op)).set 1 (.string x.t)
   dsimp only;generalize (((w1.alloc (.cells #[.string ⟨#[]⟩,.string ⟨#[]⟩] 218)).setCell (adr w1.heap.size) (.string x.op)).setCell ((adr w1.heap.size).add 1) (.string x.t))=w92 at hx92 k92 ⊢;refine ⟨_,(k92.at (j:=1) rfl).cell,?_⟩;have hb92:=hb1.ext hx92 id;refine (a_t hcs1 (hb92.at (j:=0) rfl) (hT8.keep ((hx.keep1 hb8 (by decide) hB).trans hx92.keep))).mono ?_;rintro _ w2 ⟨cs,rfl,⟨b1,m1,d1,b2,m2,d2,b3,m3',d3,b4,m4,d4,b5,m5,d5,rfl,-⟩,-, hx2⟩;refine ⟨_,_,_,_,_,_,_,_,_,_,_,_,_,_,_,_,_,_,_,rfl,by simp [hx2.keepT],trivial,trivial,fun hf1=>?_,fun hf0=>?_⟩
   ·intro w3 e3;have hx3:EF w1 w3:=by rw [e3];exact ((hx92.then hx2).alloc _).drew
    have hx23:EF w92 w3:=by rw [e3];exact (hx2.alloc _).drew
    clear e3;have hb3:=hb1.ext hx3 id;have k3:=k92.ext hx23 id;have own3:=hown.keep hx3 fun _ _=>id;have hsz3:=lt_ hx.size hx3.size;have hxa:EF w3 (w3.alloc (.cells #[.string x.op,.string x.t] 218)):=(Ext.refl w3).alloc _;obtain ⟨A2,C2,w4,r4,⟨cells4,o4,f4⟩,x4,kt4⟩:=d_y 90 218 Tryz.t218 _ 2 _ (by kernel_rfl) (by kernel_rfl) rfl (by kernel_rfl) rfl (by kernel_rfl) (by omega) (by decide) own3 hsz3 hf (x:=x)
     (cs:=[.string x.op,.string x.t]) rfl (fun v hv=>by
      simp only [mc_,nn_,or_false] at hv;rcases hv with rfl|rfl
      ·exact hcs0
      ·exact hcs1) rfl (fun x cs h=>by rw [h];rfl) (by omega) 90 #[false,false]
    have hbA:¬ blkOf A b:=a_q own3 (.inl (Nat.lt_of_lt_of_le hbl (lt_ h7 hx8.size)));have hb4:=hb3.ext x4 hbA;have hx14:Ext (XM b) w8 w4:=(hx.then hx3).trans x4 fun k hk hbl=>(a_q own3 (.inl hk) hbl).elim;refine ⟨adr b,rfl,A,L,C,(hb3.at (j:=1) rfl).cell,_,(k3.at (j:=0) rfl).cell,_,(k3.at (j:=1) rfl).cell,trivial,⟨((hb3.ext hxa id).at (j:=1) rfl).cell.trans (hb3.at (j:=1) rfl).cell.symm,trivial⟩,
     A2,L+1,C2,w4,r4,⟨kt4 _ (by decide),kt4 _ (by decide),trivial⟩,trivial,adr b,rfl,hb4.off (j:=1) (n:=1) (by simp) (q:=fun T=>(Nat.beq 26 T||(Nat.beq 96 T||false))) rfl,trivial,trivial,hK86 _ ?_⟩
    rw [a_a h0 (by omega)];have hset:Ext (XM b) w4 (w4.setCell ((adr b).add 1) (.slice A2 (L+1) C2)):=Ext.setCell (X:=XM b) (Ext.refl w4) (a:=(adr b).add 1) (.inl rfl) _;have hbase:b<w8.heap.size:=Nat.lt_of_lt_of_le hbl (lt_ h7 hx8.size);refine next h0 hlt ⟨hx14.trans hset fun _ _ h=>h,A2,L+1,C2,cells4,by omega,o4.keep hset fun k hk e=>?_,?_,hb4.set 1 _⟩
    ·have:=(o4.base k hk).1;rw [show k=b from e] at this;omega
    ·rw [show (i+1).toNat=i.toNat+1 by omega,List.take_succ,hxs,List.filter_append];simpa [hf1] using f4
   ·refine hK86 _ ?_;rw [a_a h0 (by omega)];have hx3:EF w1 (w2.alloc (.cells #[.string (findD types x.t).1.kind,.string (findD types x.t).1.doc,.string (findD types x.t).1.name,.slice b1 m1 d1,.slice b2 m2 d2,.slice b3 m3' d3,.slice b4 m4 d4,.slice b5 m5 d5] 96)):=(hx92.then hx2).alloc _;refine next h0 hlt ⟨hx.then hx3,A,L,C,cells,by omega,hown.keep hx3 fun _ _=>id,?_,hb1.ext hx3 id⟩
    rw [show (i+1).toNat=i.toNat+1 by omega,List.take_succ,hxs,List.filter_append];simpa [hf0] using hf
  ·have hle:¬ i<3:=odf hge;refine fin A L C w1 hxw hb1 ?_;rw [hdd];rw [tl_ (by simp;omega)] at hf;exact hown.sl hf (by omega) (by omega)
def i_z (types:List Def)(x:DirDef):Prop:=x.name∉giv/\(x.args.map (·.name)).Nodup/\(∀ y∈x.args,e_2 types y)/\x.locs.Nodup
structure OkSchema (types:List Def) (dirs:List DirDef) (defs:List SchemaDef):Prop where
 ok:∀ x∈types,okDef x
 simple:∀ x∈types,d_H types x
 few:types.length<=30/\dirs.length<=12
 small:∀ x∈types,x.fields.length+x.types.length+x.enums.length+x.ifaces.length<=12
 names:(types.map (·.name)).Nodup/\∀ s∈types.map (·.name),s≠E0/\s∉scal
 args:∀ x∈dirs,∀ y∈x.args,a_s y
 okdirs:∀ x∈dirs,i_z types x
 marks:(dirs.map (·.name)).Nodup/\∀ s∈dirs.map (·.name),s≠E0/\s∉scal
 roots:k_n types (a_F types defs)
 kept:∀ x∈types,s_4 types x
theorem n_j {a:Nat}(ha:a<=4194304)(hb:b<=4194304)(hc:c<=4194304)(hd:d<=4194304):wr (wr (wr ((a:Int)+(b:Int))+(c:Int))+(d:Int))=((a+b+c+d:Nat):Int):=by
 rw [b_p (by omega) (by omega),b_p (by omega) (by omega),b_p (by omega) (by omega)]
theorem n_8 {c1:Nat}{a2:OA}{l2 c2:Nat}{c3:Nat}{a4:OA}{l4 c4:Nat}{a5:OA}{l5 c5:Nat}{w:World}(loose:Bool)(hlo:loose=false)
  {exts:List SchemaDef} {dirs:List DirDef} {texts:List Def}
  (h1:a_p w a1 l1 c1 defs) (h2:a_p w a2 l2 c2 exts) (h3:a_Y w a3 l3 c3 dirs) (h4:RDefs w a4 l4 c4 types) (h5:RDefs w a5 l5 c5 texts) (hs:l1+l2<=4194304) (hB0:DB.B<=w.heap.size):
  CP 41 #[.agg #[.slice a1 l1 c1,.slice a2 l2 c2,.slice a3 l3 c3,.slice a4 l4 c4,.slice a5 l5 c5],.bool loose] w fun e w'=>∃ (q:OA) (b:Bool),e=.returned (.tuple #[.pointer q,.bool b])/\EF w w'/\
   (b=true->∃ k,q=some (adr k)/\∃ (A:OA) (L C:Nat),Blk w' k 92 [.slice a4 l4 c4,.slice A L C,.slice a3 l3 c3]/\b_w w' A L C (a_F types defs)/\OkSchema types dirs defs):=by
 obtain ⟨f1,g1⟩:=h1.len;obtain ⟨f2,g2⟩:=h2.len;obtain ⟨f3,g3⟩:=h3.len;obtain ⟨f4,g4⟩:=h4.len;obtain ⟨f5,g5⟩:=h5.len;have hx0:EF w (w.alloc (.cells #[.slice a1 l1 c1,.slice a2 l2 c2,.slice a3 l3 c3,.slice a4 l4 c4,.slice a5 l5 c5] 26)):=(Ext.refl w).alloc _;refine o_y a1 l1 c1 a2 l2 c2 a3 l3 c3 a4 l4 c4 a5 l5 c5 loose w _ ⟨trivial,fun K8 hK8=>?_⟩;have bad:∀ w',EF w w'->∃ (q:OA) (b:Bool),Ending.returned (.tuple #[.pointer none,.bool false])=.returned (.tuple #[.pointer q,.bool b])/\EF w w'/\
   (b=true->∃ k,q=some (adr k)/\∃ (A:OA) (L C:Nat),Blk w' k 92 [.slice a4 l4 c4,.slice A L C,.slice a3 l3 c3]/\b_w w' A L C (a_F types defs)/\OkSchema types dirs defs):=fun w' hx=>⟨none,false,rfl,hx,nofun⟩
 have go:∀ b w10,EF w w10->(b=false->((∀ x∈types,okDef x)/\∀ x∈dirs,∀ y∈x.args,a_s y)/\types.length<=30/\dirs.length<=12)->K8 b w10:=by
  intro b w10 hx10 hb;refine hK8 b w10 ⟨fun _=>bad _ hx10,fun hbf=>⟨trivial,trivial,?_⟩⟩;obtain ⟨⟨okd,oka⟩,n30,n12⟩:=hb hbf;have hx11:EF w10 (w10.alloc (.cells #[.slice a4 l4 c4,.slice none 0 0,.slice a3 l3 c3] 92)):=(Ext.refl w10).alloc _;have hk11:Blk (w10.alloc (.cells #[.slice a4 l4 c4,.slice none 0 0,.slice a3 l3 c3] 92)) w10.heap.size 92 [.slice a4 l4 c4,.slice none 0 0,.slice a3 l3 c3]:=Blk.made w10 _ _;have hsz11:(w10.alloc (.cells #[.slice a4 l4 c4,.slice none 0 0,.slice a3 l3 c3] 92)).heap.size=w10.heap.size+1:=by simp
  dsimp only;generalize hk:w10.heap.size=k at hk11 hsz11 ⊢;generalize (w10.alloc (.cells #[.slice a4 l4 c4,.slice none 0 0,.slice a3 l3 c3] 92))=w11 at hx11 hk11 hsz11 ⊢;have hkw:w.heap.size<=k:=by have:=hx10.size;omega
  have hw11:=hx10.then hx11;refine ⟨fun A L C i w1=>0<=i/\i<=l4/\EF w w1/\Blk w1 k 92 [.slice a4 l4 c4,.slice none 0 0,.slice a3 l3 c3]/\(∀ x∈types.take i.toNat,(d_H types x/\s_4 types x)/\x.fields.length+x.types.length+x.enums.length+x.ifaces.length<=12)/\
    L=i.toNat/\w11.heap.size<=w1.heap.size/\∃ cells,Own w11.heap.size w1 9 1 A L C cells/\Flat 1 RS ((types.take i.toNat).map (·.name)) cells,
   fun _ _ _ i _=>((l4:Int)-i).toNat,⟨by omega,by omega,hw11,hk11,by simp,rfl,Nat.le_refl _,[],Own.nil ..,.nil⟩,?_⟩
  rintro A L C i w1 ⟨h0,hi,hx,hk1,hn,rfl,hz1,cells,hown,hf⟩;refine ⟨fun hlt=>?_,fun hge=>?_⟩
  ·have hlt:=odt hlt;obtain ⟨p,x,hp,hxs,cs,hc,hr⟩:=h4.get h0 hlt;have hr':=hr;obtain ⟨b1,m1,d1,b2,m2,d2,b3,m3,d3,b4,m4,d4,b5,m5,d5,rfl,hv1,hv2,hv3,hv4,hv5⟩:=hr;obtain ⟨⟨_,_,hc0⟩,hcs0,⟨_,_,hc1⟩,hcs1,⟨_,_,hc2⟩,hcs2,⟨_,_,hc3⟩,hcs3,⟨_,_,hc4⟩,hcs4,⟨_,_,hc5⟩,hcs5,⟨_,_,hc6⟩,hcs6,⟨_,_,hc7⟩,hcs7,-⟩:=hc;have q2:=hv2.len;have q3:=hv3.len;have q4:=hv4.len;have q5:=hv5.len;have hx27:EF w1 (w1.alloc (.cells #[.string x.kind,.string x.doc,.string x.name,.slice b1 m1 d1,.slice b2 m2 d2,.slice b3 m3 d3,.slice b4 m4 d4,.slice b5 m5 d5] 96)):=(Ext.refl w1).alloc _;have own27:=hown.keep hx27 fun _ _=>id;obtain ⟨A2,C2,w30,r1,⟨cells2,o2,t2⟩,x2,kt2⟩:=a_S own27 (lt_ hz1 hx27.size) hf (s:=x.name) hcs2 (by omega);have hx30:EF w w30:=(hx.then hx27).trans x2 fun b hb hbl=>by
    have:=(own27.base b hbl).1;omega
   have hk30:=(hk1.ext hx27 id).ext x2 (a_q own27 (.inl (by omega)));have hz30:w11.heap.size<=w30.heap.size:=lt_ hz1 (lt_ hx27.size x2.size);refine ⟨p,hp,⟨h0,hlt⟩,_,hx.cell hc0 id,_,hx.cell hc1 id,_,hx.cell hc2 id,_,_,_,hx.cell hc3 id,_,_,_,hx.cell hc4 id,_,_,_,hx.cell hc5 id,_,_,_,hx.cell hc6 id,_,_,_,hx.cell hc7 id,trivial,trivial,trivial,A2,i.toNat+1,C2,w30,r1,⟨kt2 _ (by decide),kt2 _ (by decide),trivial⟩,fun K31 hK31=>?_⟩;rw [n_j q3.2 q4.2 q5.2 q2.2];have key:∀ b w',EF w30 w'->(b=false->(d_H types x/\s_4 types x)/\x.fields.length+x.types.length+x.enums.length+x.ifaces.length<=12)->K31 b w':=fun b w' hx' hy=>hK31 b w' ⟨fun _=>bad _ (hx30.then hx'),fun hb=>by
    rw [a_a h0 (by omega)];refine next h0 hlt ⟨hx30.then hx',hk30.ext hx' id,a_g h0 hn hxs (hy hb),by omega,lt_ hz30 hx'.size,cells2,o2.keep hx' fun _ _=>id,?_⟩
    rw [show (i+1).toNat=i.toNat+1 by omega,List.take_succ,hxs];simpa using t2⟩
   refine ⟨fun hsm=>?_,fun _=>key _ _ (Ext.refl _) nofun⟩;have hsm:x.fields.length+x.types.length+x.enums.length+x.ifaces.length<=12:=by
    have:=odf hsm;omega
   refine (RetB.base (g_4 x _ loose (hk30.at (j:=0) rfl) (h4.keep hx30.keep) (hr'.keep hx30.keep) (by omega)) (Ext.refl w30)).mono ?_;rintro _ w35 ⟨b,rfl,hkk,hx35,hb⟩;replace hb:b=true->d_H types x/\s_4 types x:=fun h=>⟨(hb h).1,(hb h).2 hlo⟩;refine ⟨b,rfl,by simp [hkk],fun hbt=>⟨fun _=>?_,fun _=>key _ _ hx35 fun _=>⟨hb (by simpa using hbt),hsm⟩⟩,fun _=>key _ _ hx35 nofun⟩;have hx35':=hx30.then hx35;refine (RetB.base (g_2 hcs2 ((hk30.ext hx35 id).at (j:=0) rfl) (h4.keep hx35'.keep) (SlL.nil ..)) hx35).mono ?_;rintro _ w38 ⟨b,rfl,hkk,hx38,-⟩;exact ⟨b,rfl,by simp [hkk],key _ _ hx38 fun _=>⟨hb (by simpa using hbt),hsm⟩⟩
  have hall:=a_o f4 hge hn;have hle:=odf hge;rw [tl_ (by omega)] at hf;have sall:RStrs w1 A i.toNat C (types.map (·.name)):=hown.sl hf (by omega) (by omega);have hx1:=hx;have hz16:=hz1;clear hn hge hx hz1 hown hf;refine ⟨fun B M D j w2=>0<=j/\j<=l3/\EF w1 w2/\(∀ x∈dirs.take j.toNat,i_z types x)/\
    M=j.toNat/\∃ cells,Own w1.heap.size w2 9 1 B M D cells/\Flat 1 RS ((dirs.take j.toNat).map (·.name)) cells,
   fun _ _ _ j _=>((l3:Int)-j).toNat,⟨by omega,by omega,Ext.refl _,by simp,rfl,[],Own.nil ..,.nil⟩,?_⟩
  rintro B M D j w2 ⟨j0,hj,hx,hn,rfl,cells,hown,hf⟩;have hxw:=hx1.then hx;refine ⟨fun hlt=>?_,fun hge=>?_⟩
  ·have hlt:=odt hlt;obtain ⟨p,x,hp,hxs,cs,hc,b1,m1,d1,b2,m2,d2,rfl,hv1,hv2⟩:=h3.get j0 hlt;obtain ⟨⟨_,_,hc0⟩,hcs0,⟨_,_,hc1⟩,hcs1,⟨_,_,hc2⟩,hcs2,⟨_,_,hc3⟩,hcs3,⟨_,_,hc4⟩,hcs4,-⟩:=hc;have hx27:EF w2 (w2.alloc (.cells #[.string x.doc,.string x.name,.slice b1 m1 d1,.slice b2 m2 d2,.bool x.rep] 120)):=(Ext.refl w2).alloc _;have own27:=hown.keep hx27 fun _ _=>id;obtain ⟨A2,C2,w30,r1,⟨cells2,o2,t2⟩,x2,kt2⟩:=a_S own27 (lt_ hx.size hx27.size) hf (s:=x.name) hcs1 (by omega);have hx30:EF w1 w30:=(hx.then hx27).trans x2 fun b hb hbl=>by
    have:=(own27.base b hbl).1;omega
   refine ⟨p,hp,⟨j0,hlt⟩,_,hxw.cell hc0 id,_,hxw.cell hc1 id,_,_,_,hxw.cell hc2 id,_,_,_,hxw.cell hc3 id,_,hxw.cell hc4 id,trivial,trivial,trivial,A2,j.toNat+1,C2,w30,r1,⟨kt2 _ (by decide),kt2 _ (by decide),trivial⟩,fun K31 hK31=>?_⟩;intro w59 e59;have hx59:EF w1 w59:=by rw [e59];exact hx30.drew
   have o59:=o2.keep (w':=w59) (X:=fun _=>False) (by rw [e59];exact (Ext.refl w30).drew) fun _ _=>id;clear e59;have key:∀ b w',EF w59 w'->(b=false->i_z types x)->K31 b w':=fun b w' hx' hy=>hK31 b w' ⟨fun _=>bad _ (hx1.then (hx59.then hx')),fun hb=>by
    rw [a_a j0 (by omega)];refine next j0 hlt ⟨hx59.then hx',a_g j0 hn hxs (hy hb),by omega,cells2,o59.keep hx' fun _ _=>id,?_⟩
    rw [show (j+1).toNat=j.toNat+1 by omega,List.take_succ,hxs];simpa using t2⟩
   refine (j_8 w59).mono ?_;rintro _ w61 ⟨a6,l6,c6,rfl,s6,hx61⟩;refine ⟨a6,l6,c6,rfl,by simp [hx61.keepT],by simp,?_⟩;refine (RetB.base (c_in x.name s6) hx61).mono ?_;rintro _ w64 ⟨b,rfl,hkk,hx64,hb64⟩;refine ⟨b,rfl,by simp [hkk],trivial,fun _=>key _ _ hx64 nofun,fun hbf=>⟨fun _=>key _ _ hx64 nofun,fun hdoc=>?_⟩⟩;have ngiv:x.name∉giv:=fun h=>by rw [hb64.2 h] at hbf;cases hbf
   have hw64:=hx1.then (hx59.then hx64);refine (RetB.base (d_P ((hk1.ext (hx59.then hx64) id).at (j:=0) rfl) (h4.keep hw64.keep) (hv1.keep hw64.keep)) hx64).mono ?_;rintro _ w67 ⟨b,rfl,hkk,hx67,hb67⟩;refine ⟨b,rfl,by simp [hkk],trivial,fun _=>key _ _ hx67 nofun,fun hb1=>?_⟩;have hb67:=hb67 (by simpa using hb1);refine (RetB.base (j_5 (hv2.keep (hx1.then (hx59.then hx67)).keep)) hx67).mono ?_;rintro _ w70 ⟨b,rfl,hkk,hx70,hb70⟩;exact ⟨b,rfl,by simp [hkk],trivial,key _ _ hx70 fun h=>⟨ngiv,hb67.1,hb67.2,hb70 (by simpa using h)⟩⟩
  have halld:=a_o f3 hge hn;have hled:=odf hge;rw [tl_ (by omega)] at hf;have sd:RStrs w2 B j.toNat D (dirs.map (·.name)):=hown.sl hf (by omega) (by omega);intro K72 hK72;have no:∀ w',EF w w'->K72 (some (adr k)) false w':=fun w' hx'=>hK72 _ _ _ ⟨_,_,rfl,hx',nofun⟩;refine (RetB.base (d_A (sall.keep hx.keep)) (Ext.refl w2)).mono ?_;rintro _ w77 ⟨b,rfl,hkk,hx77,hb77⟩;refine ⟨b,rfl,by simp [hkk],fun g77=>?_,fun _=>no _ (hxw.then hx77)⟩;refine (RetB.base (d_A (sd.keep hx77.keep)) hx77).mono ?_;rintro _ w80 ⟨b,rfl,hkk,hx80,hb80⟩;refine ⟨b,rfl,by simp [hkk],fun g80=>?_,fun _=>no _ (hxw.then hx80)⟩;have hw80:=hxw.then hx80;have hk80:=hk1.ext (hx.then hx80) id;refine (g_3 hk80 (h4.keep hw80.keep) (h1.keep hw80.keep) (by omega) a2 l2 c2 a3 l3 c3 a4 l4 c4 a5 l5 c5).mono ?_;rintro _ w83 ⟨r,rfl,hx83,hr⟩;refine ⟨r,rfl,⟨hx83.keepT1 hk80 (by decide),trivial⟩,hK72 _ _ _ ⟨_,_,rfl,hw80.trans hx83 fun m hm e=>by have:m=k:=e;omega,fun hrt=>?_⟩⟩;obtain ⟨A',L',C',z1,z2,z3⟩:=hr hrt;exact ⟨k,rfl,A',L',C',z1,z2,⟨okd,fun x hx=>(hall x hx).1.1,⟨n30,n12⟩,fun x hx=>(hall x hx).2,hb77 g77,oka,halld,hb80 g80,z3,fun x hx=>(hall x hx).1.2⟩⟩
 refine (i_5 4 (h1.keep hx0.keep) (h2.keep hx0.keep) (h3.keep hx0.keep) (h4.keep hx0.keep) (h5.keep hx0.keep) hs).mono ?_;rintro _ w86 ⟨b,rfl,hx86,hb⟩;have hw86:=hx0.then hx86;refine ⟨b,rfl,by simp [hx86.keepT],fun hbt=>?_,fun _=>go _ _ hw86 nofun⟩;have hb:=hb (by simpa using hbt);refine ⟨fun _=>⟨fun _=>⟨fun h30=>go _ _ hw86 fun h12=>⟨hb,?_,?_⟩,fun _=>go _ _ hw86 nofun⟩,fun _=>go _ _ hw86 nofun⟩,fun _=>go _ _ hw86 nofun⟩
 ·have:=odf h30;omega
 ·have:=odf h12;omega
theorem n_5 {c1:Nat}{a2:OA}{l2 c2:Nat}{c3:Nat}{a4:OA}{l4 c4:Nat}{a5:OA}{l5 c5:Nat}{w:World}
  {exts:List SchemaDef} {dirs:List DirDef} {texts:List Def}
  (h1:a_p w a1 l1 c1 defs) (h2:a_p w a2 l2 c2 exts) (h3:a_Y w a3 l3 c3 dirs) (h4:RDefs w a4 l4 c4 types) (h5:RDefs w a5 l5 c5 texts) (hs:l1+l2<=4194304) (hB0:DB.B<=w.heap.size):
  CP 10 #[.agg #[.slice a1 l1 c1,.slice a2 l2 c2,.slice a3 l3 c3,.slice a4 l4 c4,.slice a5 l5 c5]] w fun e w'=>∃ (q:OA) (b:Bool),e=.returned (.tuple #[.pointer q,.bool b])/\EF w w'/\
   (b=true->∃ k,q=some (adr k)/\∃ (A:OA) (L C:Nat),Blk w' k 92 [.slice a4 l4 c4,.slice A L C,.slice a3 l3 c3]/\b_w w' A L C (a_F types defs)/\OkSchema types dirs defs):=by
 have hx0:EF w (w.alloc (.cells #[.slice a1 l1 c1,.slice a2 l2 c2,.slice a3 l3 c3,.slice a4 l4 c4,.slice a5 l5 c5] 26)):=(Ext.refl w).alloc _;refine o_t a1 l1 c1 a2 l2 c2 a3 l3 c3 a4 l4 c4 a5 l5 c5 w _ ⟨trivial,?_⟩;refine (n_8 false rfl (h1.keep hx0.keep) (h2.keep hx0.keep) (h3.keep hx0.keep) (h4.keep hx0.keep) (h5.keep hx0.keep) hs (lt_ hB0 hx0.size)).mono ?_;rintro _ w8 ⟨q,b,rfl,hx8,hb⟩;exact ⟨q,b,rfl,by simp [hx8.keepT],q,b,rfl,hx0.then hx8,hb⟩
end Go.VC
