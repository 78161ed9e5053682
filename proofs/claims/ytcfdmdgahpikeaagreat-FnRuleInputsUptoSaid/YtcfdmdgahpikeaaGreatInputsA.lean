/- Part of the proof of a law of a rule over documents (InputsA), where what the arguments hold is of bulk at most 1048576. -/
import Derived.Test.YtcfdmdgahpikeaaGreatBaseB
import Derived.Test.YtcfdmdgahpikeaaGreatWalkD
import Derived.Test.YtcfdmdgahpikeaaGreatLawA
import Derived.Test.YtcfdmdgahpikeaaGreatReadA
set_option linter.unusedVariables false
set_option linter.unusedSimpArgs false
set_option linter.unusedSectionVars false
set_option linter.deprecated false
namespace Go.VC
open Go Go.Proofs
set_option maxRecDepth 100000
theorem q_rules_VariablesAreInputTypesRule (a : OA) (b : Value) (w : World) (R : EW) (h :
 (b.oneCell' = true /\ True) /\ (let c := w.alloc (.cells #[b] 130);
 C0 71 #[.pointer a, (.func (.func 78) #[] #[(.pointer (some (adr w.heap.size)))])] c (fun d => True /\ R (.returned (.tuple #[])) d))) : CP 40 #[.pointer a, b] w R :=
 vcq Tryz.func40 [] [] [.l (.optr a), .l (.val b)] h
theorem q_rules_VariablesAreInputTypesRule_1 (a : OA) (b : OA) (c : Addr) (w : World) (R : EW) (h :
 Pt b fun d => Ll w (d.add 3) fun e f g => ∃ (i : Int -> World -> Prop) (j : Int -> World -> Nat), i 0 w /\
 (∀ k : Int, ∀ l : World, i k l ->
 (Br (decide (k < (f : Int))) (∀ m : World -> Prop, (∀ n : World,
 ((i (IntKind.i64.wrap (k + 1)) n /\ j (IntKind.i64.wrap (k + 1)) n < j k l)) ->
 m n) ->
 Ix e k f fun o => Lp l (o.add (k.toNat * 1)) fun p => Pt p fun q => Lp l (q.add 7) fun r => (Br (r.isNone) (m l) (Pt p fun s => Lp l (s.add 7) fun t => Cb 79 #[.pointer t] l (fun u v => True /\ (Br (!u) (∀ x, x = v.drew -> Lv x c fun y => Pt p fun z => Ls x (z.add 1) fun A => Pt p fun B => Lp x (B.add 2) fun C => Pt p fun D => Lp x (D.add 5) fun E => Cs 80 #[.pointer C] x (fun F G => True /\ ((G.cell? (D.add 5) = x.cell? (D.add 5)) /\ (G.cell? (z.add 1) = x.cell? (z.add 1)) /\ (G.cell? c = x.cell? c) /\ True) /\ True /\ (let H := G.alloc (.cells #[(ifcV (some (9, (.string A)))), (ifcV (some (9, (.string F))))] 20);
 ((H.cell? (D.add 5) = G.cell? (D.add 5)) /\ (H.cell? c = G.cell? c) /\ True) /\ CP 73 #[(.string (⟨#[86,97,114,105,97,98,108,101,32,34,36,37,115,34,32,99,97,110,110,111,116,32,98,101,32,110,111,110,45,105,110,112,117,116,32,116,121,112,101,32,34,37,115,34,46]⟩ : BA)), (.slice (some (adr G.heap.size)) 2 2)] H (fun I J => ∃ K : Value, I = .returned K /\ True /\ ((J.cell? (D.add 5) = H.cell? (D.add 5)) /\ (J.cell? c = H.cell? c) /\ True) /\ CP 74 #[.pointer E] J (fun L M => ∃ N : Value, L = .returned N /\ True /\ ((M.cell? c = J.cell? c) /\ True) /\ (K.oneCell' = true /\ N.oneCell' = true /\ True) /\ (let O := M.alloc (.cells #[K, N] 156);
 ((O.cell? c = M.cell? c) /\ True) /\ ∃ P Q, y = .func (.func P) #[] Q.toArray /\ ∃ S, Tryz.prog.funcs[P]? = some S /\ (S.name == "runtime.NumGoroutine" || S.body.isNone) = false /\ CP P ([(.slice (some (adr M.heap.size)) 2 2)] ++ Q).toArray O (fun U V => U = .returned (.tuple #[]) /\ True /\ True /\ m V))))))) (m v)))))) (R (.returned (.tuple #[])) l)))) : CP 78 #[.pointer a, .pointer b, (.pointer (some c))] w R :=
 vcq Tryz.func78 [] [(3, ⟨[(12, .int .i64)],[]⟩), (10, ⟨[],[]⟩)] [.l (.optr a), .l (.optr b), .l (.ptr c)] h
theorem q_ast_Definition_IsInputType (a : OA) (w : World) (R : EW) (h :
 ∀ b : Bool -> World -> Prop, (∀ c : Bool, ∀ d : World,
 (R (.returned (.bool c)) d) ->
 b c d) ->
 Pt a fun e => Ls w e fun f => (Nr (f.toList == (⟨#[83,67,65,76,65,82]⟩ : BA).toList) (Pt a fun g => Ls w g fun i => (Nr (i.toList == (⟨#[69,78,85,77]⟩ : BA).toList) (Pt a fun j => Ls w j fun k => b (k.toList == (⟨#[73,78,80,85,84,95,79,66,74,69,67,84]⟩ : BA).toList) w) (b true w))) (b true w))) : CP 79 #[.pointer a] w R :=
 vcq Tryz.func79 [] [(2, ⟨[(2, .bool)],[]⟩)] [.l (.optr a)] h
theorem q_ast_Type_String (a : OA) (w : World) (R : EW) (h :
 ∀ b : BA -> World -> Prop, (∀ c : BA, ∀ d : World,
 (Pt a fun e => Ls d e fun f => (Br (!(f.toList == (⟨#[]⟩ : BA).toList)) (Pt a fun g => Ls d g fun i => ∃ j, ∃ k, (eqGuard .add 9 (Operand.tmp 16) (Operand.tmp 17) (.string i) (.string c)).run Tryz.prog d = .ok () d /\ (binOp .add 9 (.string i) (.string c)).run Tryz.prog d = .ok (.string j) k /\ True /\ R (.returned (.string j)) k) (Pt a fun l => Lp d (l.add 1) fun m => Cs 80 #[.pointer m] d (fun n o => True /\ ∃ p, ∃ q, (eqGuard .add 9 (Operand.const (.string (⟨#[91]⟩ : BA))) (Operand.tmp 23) (.string (⟨#[91]⟩ : BA)) (.string n)).run Tryz.prog o = .ok () o /\ (binOp .add 9 (.string (⟨#[91]⟩ : BA)) (.string n)).run Tryz.prog o = .ok (.string p) q /\ True /\ ∃ r, ∃ s, (eqGuard .add 9 (Operand.tmp 24) (Operand.const (.string (⟨#[93]⟩ : BA))) (.string p) (.string (⟨#[93]⟩ : BA))).run Tryz.prog q = .ok () q /\ (binOp .add 9 (.string p) (.string (⟨#[93]⟩ : BA))).run Tryz.prog q = .ok (.string r) s /\ True /\ ∃ t, ∃ u, (eqGuard .add 9 (Operand.tmp 25) (Operand.tmp 26) (.string r) (.string c)).run Tryz.prog s = .ok () s /\ (binOp .add 9 (.string r) (.string c)).run Tryz.prog s = .ok (.string t) u /\ True /\ R (.returned (.string t)) u)))) ->
 b c d) ->
 Pt a fun v => Lb w (v.add 2) fun x => (Br x (b (⟨#[33]⟩ : BA) w) (b (⟨#[]⟩ : BA) w))) : CP 80 #[.pointer a] w R :=
 vcq Tryz.func80 [] [(4, ⟨[(3, .str)],[]⟩)] [.l (.optr a)] h
theorem q_impl_RVariablesAreInputTypes (a : OA) (b c : Nat) (d : OA) (e f : Nat) (g : BA) (i : BA) (j : BA) (k : OA) (l m : Nat) (n : OA) (o p : Nat) (q : OA) (r s : Nat) (t : OA) (u v : Nat) (w : World) (R : EW) (h :
 True /\ (let x := w.alloc (.cells #[.slice a b c, .slice d e f, .string g, .string i, .string j, .slice k l m, .slice n o p] 40);
 True /\ (let y := x.alloc (.cells #[.slice q r s, .slice t u v] 30);
 CP 33 #[(.agg #[.slice a b c, .slice d e f, .string g, .string i, .string j, .slice k l m, .slice n o p]), (.agg #[.slice q r s, .slice t u v]), (.func (.func 40) #[] #[])] y (fun z A => ∃ B, ∃ C, z = .returned (.tuple #[.int .i64 B, .bool C]) /\ (KeepT 40 y A /\ KeepT 30 y A /\ True) /\ R (.returned (.tuple #[.int .i64 B, .bool C])) A)))) : CP 17 #[(.agg #[.slice a b c, .slice d e f, .string g, .string i, .string j, .slice k l m, .slice n o p]), (.agg #[.slice q r s, .slice t u v])] w R :=
 vcq Tryz.func17 [2, 3] [] [.agg [.slice a b c, .slice d e f, .str g, .str i, .str j, .slice k l m, .slice n o p], .agg [.slice q r s, .slice t u v]] h
theorem q_World_NoInput (a : OA) (b : OA) (c d : Nat) (e : OA) (f g : Nat) (w : World) (R : EW) (h :
 True /\ (let i := w.alloc (.cells #[.slice b c d, .slice e f g] 30);
 Cl 41 #[(.agg #[.slice b c d, .slice e f g])] i (fun j k l m => (KeepT 30 i m /\ True) /\ ∃ (n : Int -> World -> Prop) (o : Int -> World -> Nat), n 0 m /\
 (∀ p : Int, ∀ q : World, n p q ->
 (Br (decide (p < (k : Int))) (Ix j p k fun r => Ls q (r.add (p.toNat * 1)) fun s => CP 42 #[.pointer a, .string s] q (fun t u => ∃ v, ∃ x, ∃ y, ∃ z A B, ∃ C D E, ∃ F G H, ∃ I J K, ∃ L M N, ∃ O, t = .returned (.tuple #[(.agg #[.string v, .string x, .string y, .slice z A B, .slice C D E, .slice F G H, .slice I J K, .slice L M N]), .bool O]) /\ (KeepT 30 q u /\ True) /\ True /\ (let P := u.alloc (.cells #[(.string (⟨#[]⟩ : BA)), (.string (⟨#[]⟩ : BA)), (.string (⟨#[]⟩ : BA)), .slice none 0 0, .slice none 0 0, .slice none 0 0, .slice none 0 0, .slice none 0 0] 74);
 True /\ (let Q := u.alloc (.cells #[.string v, .string x, .string y, .slice z A B, .slice C D E, .slice F G H, .slice I J K, .slice L M N] 74);
 ∀ S : Bool -> World -> Prop, (∀ U : Bool, ∀ V : World,
 ((Br U (R (.returned (.bool true)) V) ((n (IntKind.i64.wrap (p + 1)) V /\ o (IntKind.i64.wrap (p + 1)) V < o p q)))) ->
 S U V) ->
 (Br O (Cb 43 #[.string v] Q (fun W X => (KeepT 30 Q X /\ KeepT 74 Q X /\ True) /\ S (!W) X)) (S false Q)))))) (R (.returned (.bool false)) q)))))) : CP 18 #[.pointer a, (.agg #[.slice b c d, .slice e f g])] w R :=
 vcq Tryz.func18 [3, 7] [(6, ⟨[(12, .int .i64)],[]⟩), (19, ⟨[(28, .bool)],[]⟩)] [.l (.optr a), .agg [.slice b c d, .slice e f g]] h
theorem q_laws_FnRuleInputs (a : OA) (b c : Nat) (d : OA) (e f : Nat) (g : OA) (i j : Nat) (k : OA) (l m : Nat) (n : OA) (o p : Nat) (q : OA) (r s : Nat) (t : OA) (u v : Nat) (w : World) (R : EW) (h :
 True /\ (let x := w.alloc (.cells #[.slice a b c, .slice d e f, .slice g i j, .slice k l m, .slice n o p] 26);
 True /\ (let y := x.alloc (.cells #[.slice q r s, .slice t u v] 30);
 ∀ z : Bool -> World -> Prop, (∀ A : Bool, ∀ B : World,
 ((Br A (R (.returned (.bool true)) B) (CP 11 #[(.agg #[.slice a b c, .slice d e f, .slice g i j, .slice k l m, .slice n o p])] B (fun C D => ∃ E, ∃ F, C = .returned (.tuple #[.pointer E, .bool F]) /\ (KeepT 26 B D /\ KeepT 30 B D /\ True) /\ ∀ G : Bool -> World -> Prop, (∀ H : Bool, ∀ I : World,
 ((Br H (R (.returned (.bool true)) I) (∀ J, J = I.drew -> CP 14 #[.pointer E] J (fun K L => ∃ M N O, ∃ P Q S, ∃ U, ∃ V, ∃ W, ∃ X Y Z, ∃ aa ab ac, K = .returned (.agg #[.slice M N O, .slice P Q S, .string U, .string V, .string W, .slice X Y Z, .slice aa ab ac]) /\ (KeepT 26 J L /\ KeepT 30 J L /\ True) /\ ((0 = 0) /\ True) /\ CP 17 #[(.agg #[.slice M N O, .slice P Q S, .string U, .string V, .string W, .slice X Y Z, .slice aa ab ac]), (.agg #[.slice q r s, .slice t u v])] L (fun ad ae => ∃ af, ∃ ag, ad = .returned (.tuple #[.int .i64 af, .bool ag]) /\ (KeepT 26 L ae /\ KeepT 30 L ae /\ True) /\ True /\ True /\ True /\ Cb 18 #[.pointer E, (.agg #[.slice q r s, .slice t u v])] ae (fun ah ai => (KeepT 26 ae ai /\ KeepT 30 ae ai /\ True) /\ Cb 15 #[.int .i64 af, .bool ag, .bool ah] ai (fun aj ak => (KeepT 26 ai ak /\ KeepT 30 ai ak /\ True) /\ R (.returned (.bool aj)) ak))))))) ->
 G H I) ->
 (Nr (!F) (Cb 12 #[(.agg #[.slice q r s, .slice t u v])] D (fun al am => (KeepT 26 D am /\ KeepT 30 D am /\ True) /\ G (!al) am)) (G true D)))))) ->
 z A B) ->
 Cb 9 #[(.agg #[.slice a b c, .slice d e f, .slice g i j, .slice k l m, .slice n o p])] y (fun an ao => (KeepT 26 y ao /\ KeepT 30 y ao /\ True) /\ (Nr (!an) (Cb 10 #[(.agg #[.slice q r s, .slice t u v])] ao (fun ap aq => (KeepT 26 ao aq /\ KeepT 30 ao aq /\ True) /\ z (!ap) aq)) (z true ao)))))) : CP 4 #[(.agg #[.slice a b c, .slice d e f, .slice g i j, .slice k l m, .slice n o p]), (.agg #[.slice q r s, .slice t u v])] w R :=
 vcq Tryz.func4 [2, 3] [(3, ⟨[(16, .bool)],[]⟩), (13, ⟨[(28, .bool)],[]⟩)] [.agg [.slice a b c, .slice d e f, .slice g i j, .slice k l m, .slice n o p], .agg [.slice q r s, .slice t u v]] h
end Go.VC
namespace Go.VC
open Go Go.Proofs
set_option maxRecDepth 100000
theorem q_core_Events_OnOperation (a : OA) (b : Value) (w : World) (R : EW) (h :
 Pt a fun c => Ll w c fun d e f => (b.oneCell' = true /\ True) /\ (let g := w.alloc (.cells #[b] 159);
 ∃ i j k, ∃ l, (Go.builtin .append #[116, 116] 116 #[false, false] #[.slice d e f, (.slice (some (adr w.heap.size)) 1 1)]).run Tryz.prog g = .ok (.value (.slice i j k)) l /\ True /\ Pt a fun m => Off l m 1 [] /\ True /\ (let n := (l.setCell m (.slice i j k));
 R (.returned (.tuple #[])) n))) : CP 71 #[.pointer a, b] w R :=
 vcq Tryz.func71 [] [] [.l (.optr a), .l (.val b)] h
end Go.VC
namespace Go.VC
open Go Go.Proofs
variable [DB]
theorem c_core_Events_OnOperation {eb : Nat} {f : Value} {evs : List Value} {w : World} (hf : smallV f) (hB : Blk w eb 126 evs) (hj : evs[0]? = some (.slice none 0 0)) :
  CP 71 #[.pointer (some (adr eb)), f] w fun e w' => e = .returned (.tuple #[]) /\ ∃ (p : Addr) (C : Nat), Blk w' eb 126 (evs.set 0 (.slice (some p) 1 C)) /\ At w' 159 p f /\ w.heap.size <= p.block /\ Ext (fun b => b = eb) w w' := by
 obtain ⟨p, C, w7, r7, ha, hp, hx, -⟩ := on_append 116 159 Tryz.t159 _ _ (by kernel_rfl) (by kernel_rfl) rfl (by kernel_rfl) rfl (by kernel_rfl) (by decide) (w := w) hf 116 #[false, false]
 have hB7 := hB.ext hx id
 have hlt := hB.lt
 have hl : 0 + 1 <= evs.length := (List.getElem?_eq_some_iff.1 hj).1
 have hs : Ext (fun b => b = eb) w7 (w7.setCell ⟨eb, 0, none⟩ (.slice (some p) 1 C)) := Ext.setCell (X := fun b => b = eb) (Ext.refl _) (a := ⟨eb, 0, none⟩) (.inl rfl) _
 refine q_core_Events_OnOperation (some (adr eb)) f w _ ⟨adr eb, rfl, none, 0, 0, (hB.at (j := 0) hj).cell, ⟨hf.one, trivial⟩, some p, 1, C, w7, r7, trivial, adr eb, rfl, hB7.off (j := 0) (n := 1) (q := fun _ => false) hl rfl, trivial, rfl, p, C, hB7.set 0 _, hs.at (by show ¬ p.block = eb; omega) ha, hp, (hx.toM _).trans hs fun _ _ e => e⟩
end Go.VC
namespace Go.VC
open Go Go.Proofs
variable [DB]
abbrev StK (bad : Ev -> Prop) (ae cnt : Nat) (l : List Ev) (w : World) : Prop := Cnt ae cnt (l.length * 4194304) (∃ e ∈ l, bad e) w
abbrev InK (bad : Ev -> Prop) (ae cnt : Nat) (l : List Ev) (k : Nat) (b : Prop) (w : World) : Prop := Cnt ae cnt (l.length * 4194304 + k) ((∃ e ∈ l, bad e) ∨ b) w
theorem InK.start {bad : Ev -> Prop} {ae cnt : Nat} {l : List Ev} {w : World} {b : Prop} (h : StK bad ae cnt l w) (hb : ¬ b) : InK bad ae cnt l 0 b w := Cnt.skip h (by omega) ⟨.inl, fun k => k.elim id fun k => absurd k hb⟩
theorem InK.good {bad : Ev -> Prop} {ae cnt : Nat} {l : List Ev} {w : World} {k k' : Nat} {b b' : Prop} (h : InK bad ae cnt l k b w) (hk : k <= k') (hb : b ↔ b') : InK bad ae cnt l k' b' w := Cnt.skip h (by omega) ⟨fun k => k.imp id hb.1, fun k => k.imp id hb.2⟩
theorem InK.told {bad : Ev -> Prop} {ae cnt : Nat} {l : List Ev} {w : World} {k k' : Nat} {b' : Prop} (h : Cnt ae cnt (l.length * 4194304 + k + 1) True w) (hk : k + 1 <= k') (hb : b') : InK bad ae cnt l k' b' w := Cnt.skip h (by omega) ⟨fun _ => .inr hb, fun _ => trivial⟩
theorem InK.stop {bad : Ev -> Prop} {ae cnt : Nat} {l : List Ev} {w : World} {k : Nat} {b : Prop} {ev : Ev} (h : InK bad ae cnt l k b w) (hk : k <= 4194304) (hb : b ↔ bad ev) : StK bad ae cnt (l ++ [ev]) w :=
 Cnt.skip h (by rw [List.length_append, List.length_cons, List.length_nil]; omega) (Iff.trans ⟨fun k => k.imp id hb.1, fun k => k.imp id hb.2⟩ ex_snoc.symm)
end Go.VC
namespace Go.VC
open Go Go.Proofs
set_option maxRecDepth 100000
theorem q_varTypes (a : OA) (b c : Nat) (d : OA) (e f : Nat) (w : World) (R : EW) (h :
 True /\ (let g := w.alloc (.cells #[.slice a b c, .slice d e f] 30);
 ∃ (i : OA -> Nat -> Nat -> Int -> World -> Prop) (j : OA -> Nat -> Nat -> Int -> World -> Nat), i none 0 0 0 g /\
 (∀ (k : OA) (l m : Nat), ∀ n : Int, ∀ o : World, i k l m n o ->
 (Br (decide (n < (b : Int))) (Ix a n b fun p => L_sslll o (p.add (n.toNat * 5)) fun q r s t u v x y z A B => True /\ (let C := o.alloc (.cells #[(.string (⟨#[]⟩ : BA)), (.string (⟨#[]⟩ : BA)), .slice none 0 0, .slice none 0 0, .slice none 0 0] 50);
 True /\ (let D := o.alloc (.cells #[.string q, .string r, .slice s t u, .slice v x y, .slice z A B] 50);
 ∃ (E : OA -> Nat -> Nat -> Int -> World -> Prop) (F : OA -> Nat -> Nat -> Int -> World -> Nat), E k l m 0 D /\
 (∀ (G : OA) (H I : Nat), ∀ J : Int, ∀ K : World, E G H I J K ->
 (Br (decide (J < (t : Int))) (Ix s J t fun L => Ls K (L.add (J.toNat * 6)) fun M => Ls K ((L.add (J.toNat * 6)).add 1) fun N => Ll K ((L.add (J.toNat * 6)).add 2) fun O P Q => Lb K ((L.add (J.toNat * 6)).add 3) fun S => Ll K ((L.add (J.toNat * 6)).add 4) fun U V W => Ll K ((L.add (J.toNat * 6)).add 5) fun X Y Z => True /\ (let aa := K.alloc (.cells #[(.string (⟨#[]⟩ : BA)), (.string (⟨#[]⟩ : BA)), .slice none 0 0, .bool false, .slice none 0 0, .slice none 0 0] 58);
 True /\ (let ab := K.alloc (.cells #[.string M, .string N, .slice O P Q, .bool S, .slice U V W, .slice X Y Z] 58);
 Cs 32 #[(.agg #[.string N, .slice O P Q, .bool S])] ab (fun ac ad => (KeepT 30 ab ad /\ KeepT 50 ab ad /\ KeepT 58 ab ad /\ True) /\ True /\ (let ae := ad.alloc (.cells #[.string ac] 9);
 ∃ af ag ah, ∃ ai, (Go.builtin .append #[70, 70] 70 #[false, false] #[.slice G H I, (.slice (some (adr ad.heap.size)) 1 1)]).run Tryz.prog ae = .ok (.value (.slice af ag ah)) ai /\ (KeepT 30 ae ai /\ KeepT 50 ae ai /\ KeepT 58 ae ai /\ True) /\ (E af ag ah (IntKind.i64.wrap (J + 1)) ai /\ F af ag ah (IntKind.i64.wrap (J + 1)) ai < F G H I J K)))))) ((i G H I (IntKind.i64.wrap (n + 1)) K /\ j G H I (IntKind.i64.wrap (n + 1)) K < j k l m n o))))))) (R (.returned (.slice k l m)) o))))) : CP 41 #[(.agg #[.slice a b c, .slice d e f])] w R :=
 vcq Tryz.func41 [1, 5, 7] [(8, ⟨[(3, .slice), (11, .int .i64)],[]⟩), (22, ⟨[(3, .slice), (18, .int .i64)],[]⟩)] [.agg [.slice a b c, .slice d e f]] h
end Go.VC
namespace Go.VC
open Go Go.Proofs
set_option maxRecDepth 100000
theorem q_conditions (a : OA) (b c : Nat) (d : OA) (e f : Nat) (w : World) (R : EW) (h :
 True /\ (let g := w.alloc (.cells #[.slice a b c, .slice d e f] 30);
 ∃ (i : OA -> Nat -> Nat -> Int -> World -> Prop) (j : OA -> Nat -> Nat -> Int -> World -> Nat), i none 0 0 0 g /\
 (∀ (k : OA) (l m : Nat), ∀ n : Int, ∀ o : World, i k l m n o ->
 (Br (decide (n < (e : Int))) (Ix d n e fun p => L_ssll o (p.add (n.toNat * 4)) fun q r s t u v x y => True /\ (let z := o.alloc (.cells #[(.string (⟨#[]⟩ : BA)), (.string (⟨#[]⟩ : BA)), .slice none 0 0, .slice none 0 0] 62);
 True /\ (let A := o.alloc (.cells #[.string q, .string r, .slice s t u, .slice v x y] 62);
 True /\ (let B := A.alloc (.cells #[.string r] 9);
 ∃ C D E, ∃ F, (Go.builtin .append #[70, 70] 70 #[false, false] #[.slice k l m, (.slice (some (adr A.heap.size)) 1 1)]).run Tryz.prog B = .ok (.value (.slice C D E)) F /\ (KeepT 30 B F /\ KeepT 62 B F /\ True) /\ Cl 86 #[.slice v x y] F (fun G H I J => (KeepT 30 F J /\ KeepT 62 F J /\ True) /\ ∃ K L M, ∃ N, (Go.builtin .append #[70, 70] 70 #[false, false] #[.slice C D E, .slice G H I]).run Tryz.prog J = .ok (.value (.slice K L M)) N /\ (KeepT 30 J N /\ KeepT 62 J N /\ True) /\ (i K L M (IntKind.i64.wrap (n + 1)) N /\ j K L M (IntKind.i64.wrap (n + 1)) N < j k l m n o)))))) (∃ (O : OA -> Nat -> Nat -> Int -> World -> Prop) (P : OA -> Nat -> Nat -> Int -> World -> Nat), O k l m 0 o /\
 (∀ (Q : OA) (S U : Nat), ∀ V : Int, ∀ W : World, O Q S U V W ->
 (Br (decide (V < (b : Int))) (Ix a V b fun X => L_sslll W (X.add (V.toNat * 5)) fun Y Z aa ab ac ad ae af ag ah ai => True /\ (let aj := W.alloc (.cells #[(.string (⟨#[]⟩ : BA)), (.string (⟨#[]⟩ : BA)), .slice none 0 0, .slice none 0 0, .slice none 0 0] 50);
 True /\ (let ak := W.alloc (.cells #[.string Y, .string Z, .slice aa ab ac, .slice ad ae af, .slice ag ah ai] 50);
 Cl 86 #[.slice ag ah ai] ak (fun al am an ao => (KeepT 30 ak ao /\ KeepT 50 ak ao /\ True) /\ ∃ ap aq ar, ∃ au, (Go.builtin .append #[70, 70] 70 #[false, false] #[.slice Q S U, .slice al am an]).run Tryz.prog ao = .ok (.value (.slice ap aq ar)) au /\ (KeepT 30 ao au /\ KeepT 50 ao au /\ True) /\ (O ap aq ar (IntKind.i64.wrap (V + 1)) au /\ P ap aq ar (IntKind.i64.wrap (V + 1)) au < P Q S U V W))))) (R (.returned (.slice Q S U)) W)))))))) : CP 45 #[(.agg #[.slice a b c, .slice d e f])] w R :=
 vcq Tryz.func45 [1, 5, 7] [(8, ⟨[(3, .slice), (11, .int .i64)],[]⟩), (27, ⟨[(3, .slice), (29, .int .i64)],[]⟩)] [.agg [.slice a b c, .slice d e f]] h
theorem q_conditionsOf (a : OA) (b c : Nat) (w : World) (R : EW) (h :
 ∃ (d : OA -> Nat -> Nat -> Int -> World -> Prop) (e : OA -> Nat -> Nat -> Int -> World -> Nat), d none 0 0 0 w /\
 (∀ (f : OA) (g i : Nat), ∀ j : Int, ∀ k : World, d f g i j k ->
 (Br (decide (j < (b : Int))) (Ix a j b fun l => L_issslll k (l.add (j.toNat * 7)) fun m n o p q r s t u v x y z => True /\ (let A := k.alloc (.cells #[.int .i64 0, (.string (⟨#[]⟩ : BA)), (.string (⟨#[]⟩ : BA)), (.string (⟨#[]⟩ : BA)), .slice none 0 0, .slice none 0 0, .slice none 0 0] 104);
 True /\ (let B := k.alloc (.cells #[.int .i64 m, .string n, .string o, .string p, .slice q r s, .slice t u v, .slice x y z] 104);
 ∀ C : OA -> Nat -> Nat -> World -> Prop, (∀ (D : OA) (E F : Nat), ∀ G : World,
 (Cl 86 #[.slice x y z] G (fun H I J K => (KeepT 104 G K /\ True) /\ ∃ L M N, ∃ O, (Go.builtin .append #[70, 70] 70 #[false, false] #[.slice D E F, .slice H I J]).run Tryz.prog K = .ok (.value (.slice L M N)) O /\ (KeepT 104 K O /\ True) /\ (d L M N (IntKind.i64.wrap (j + 1)) O /\ e L M N (IntKind.i64.wrap (j + 1)) O < e f g i j k))) ->
 C D E F G) ->
 ∀ P : Bool -> World -> Prop, (∀ Q : Bool, ∀ S : World,
 ((Br Q (True /\ (let U := S.alloc (.cells #[.string p] 9);
 ∃ V W X, ∃ Y, (Go.builtin .append #[70, 70] 70 #[false, false] #[.slice f g i, (.slice (some (adr S.heap.size)) 1 1)]).run Tryz.prog U = .ok (.value (.slice V W X)) Y /\ (KeepT 104 U Y /\ True) /\ C V W X Y)) (C f g i S))) ->
 P Q S) ->
 (Br (m == 2) (P (!(p.toList == (⟨#[]⟩ : BA).toList)) B) (P false B))))) (R (.returned (.slice f g i)) k)))) : CP 86 #[.slice a b c] w R :=
 vcq Tryz.func86 [5] [(8, ⟨[(3, .slice), (8, .int .i64)],[]⟩), (19, ⟨[(3, .slice)],[]⟩), (20, ⟨[(19, .bool)],[]⟩)] [.l (.slice a b c)] h
end Go.VC
namespace Go.VC
open Go Go.Proofs
variable [DB]
theorem take_snoc {α : Type} {xs : List α} {i : Int} {x : α} (h0 : 0 <= i) (hx : xs[i.toNat]? = some x) : xs.take (i + 1).toNat = xs.take i.toNat ++ [x] := by
 rw [show (i + 1).toNat = i.toNat + 1 by omega, List.take_add_one, hx]; rfl
theorem condL_append : ∀ a b : List Sel, condL (a ++ b) = condL a ++ condL b
 | [], b => rfl
 | s :: a, b => by simp [condL, condL_append a b]
theorem condL_take {l : List Sel} {i : Int} {x : Sel} (h0 : 0 <= i) (hx : l[i.toNat]? = some x) : condL (l.take (i + 1).toNat) = condL (l.take i.toNat) ++ condS x := by
 rw [take_snoc h0 hx, condL_append]
 simp [condL]
theorem condL_take_le (xs : List Sel) (j : Nat) : (condL (xs.take j)).length <= (condL xs).length := by
 have : condL xs = condL (xs.take j) ++ condL (xs.drop j) := by rw [<- condL_append, List.take_append_drop]
 rw [this, List.length_append]
 omega
theorem condL_le : ∀ l : List Sel, (condL l).length <= selL l
 | [] => by simp [condL, selL]
 | .mk k al n on args dirs kids :: l => by
  have h1 := condL_le kids
  have h2 := condL_le l
  simp only [condL, condS, selL, selS, List.length_append]
  have : (if k = 2 /\ on ≠ E0 then [on] else []).length <= 1 := by split <;> simp
  omega
theorem selL_mem {s : Sel} : ∀ {l : List Sel}, s ∈ l -> selS s <= selL l
 | t :: l, h => by
  simp only [selL]
  rcases List.mem_cons.1 h with rfl | h
  ·omega
  ·have := selL_mem h
   omega
abbrev CondOf (xs : List Sel) : Prop := ∀ (a : OA) (l c : Nat) (w : World), RSels w a l c xs -> okSels xs -> selL xs <= 2097152 ->
 CP 86 #[.slice a l c] w fun e w' => ∃ A L C, e = .returned (.slice A L C) /\ Ext (fun _ => False) w w' /\ L = (condL xs).length /\ ∃ cells, Own w.heap.size w' 9 1 A L C cells /\ Flat 1 RS (condL xs) cells
theorem c_conditionsOf_of {xs : List Sel} (IH : ∀ k al n on args dirs kids, Sel.mk k al n on args dirs kids ∈ xs -> CondOf kids) : CondOf xs := by
 intro a l c w hl hok hfew
 obtain ⟨e1, e3⟩ := hl.len
 refine q_conditionsOf a l c w _ ⟨fun A L C i w1 => 0 <= i /\ i <= l /\ Ext (fun _ => False) w w1 /\ L = (condL (xs.take i.toNat)).length /\ ∃ cells, Own w.heap.size w1 9 1 A L C cells /\ Flat 1 RS (condL (xs.take i.toNat)) cells, fun _ _ _ i _ => ((l : Int) - i).toNat, ⟨by omega, by omega, Ext.refl w, rfl, [], Own.nil .., .nil⟩, ?_⟩
 rintro A L C i w1 ⟨h0, hi, hx, hL, cells, hown, hf⟩
 refine ⟨fun hlt => ?_, fun hge => ?_⟩
 ·have hlt := of_decide_eq_true hlt
  obtain ⟨p, x, hp, hxs, cs, hc, hv⟩ := hl.get h0 hlt
  have hmem := List.mem_of_getElem? hxs
  have hokx := okSels_iff.1 hok x hmem
  have hlen := condL_take_le xs (i + 1).toNat
  have htk := condL_take h0 hxs
  obtain ⟨k, al, n, on, args, dirs, kids⟩ := x
  have IHk := IH k al n on args dirs kids hmem
  obtain ⟨a1, l1, c1, a2, l2, c2, a3, l3, c3, rfl, hv1, hv2, hv3⟩ := RSel_mk.1 hv
  obtain ⟨⟨_, _, hc0⟩, hs0, ⟨_, _, hc1⟩, hs1, ⟨_, _, hc2⟩, hs2, ⟨_, _, hc3⟩, hs3, ⟨_, _, hc4⟩, hs4, ⟨_, _, hc5⟩, hs5, ⟨_, _, hc6⟩, -⟩ := hc
  simp only [okSel] at hokx
  obtain ⟨hk, -, -, hkids, hk1, -⟩ := hokx
  have hsp : condS (.mk k al n on args dirs kids) = (if k = 2 /\ on ≠ E0 then [on] else []) ++ condL kids := by simp only [condS]
  have hsel := selL_mem hmem
  simp only [selS] at hsel
  have hcs := condL_le xs
  rw [hsp] at htk
  rw [htk] at hlen
  simp only [List.length_append] at hlen
  refine ⟨p, hp, ⟨h0, hlt⟩, _, hx.cell hc0 id, _, hx.cell hc1 id, _, hx.cell hc2 id, _, hx.cell hc3 id, _, _, _, hx.cell hc4 id, _, _, _, hx.cell hc5 id, _, _, _, hx.cell hc6 id, trivial, trivial, fun K17 hK17 => ?_⟩
  have hx16 : Ext (fun _ => False) w1 (w1.alloc (.cells #[.int .i64 k, .string al, .string n, .string on, .slice a1 l1 c1, .slice a2 l2 c2, .slice a3 l3 c3] 104)) := (Ext.refl w1).alloc _
  have key : ∀ (A' : OA) (L' C' : Nat) (w' : World) (cells' : List Value), Ext (fun _ => False) w w' -> L' = (condL (xs.take i.toNat) ++ if k = 2 /\ on ≠ E0 then [on] else []).length -> Own w.heap.size w' 9 1 A' L' C' cells' -> Flat 1 RS (condL (xs.take i.toNat) ++ if k = 2 /\ on ≠ E0 then [on] else []) cells' -> K17 A' L' C' w' := by
   intro A' L' C' w' cells' x' hL' o' f'
   refine hK17 A' L' C' w' ?_
   refine (IHk a3 l3 c3 w' (hv3.keep x'.keep) hkids (by omega)).mono ?_
   rintro _ w21 ⟨A2, L2, C2, rfl, x21, hL2, cells2, o2, f2⟩
   rw [List.length_append] at hL'
   have o1 := o'.keep x21 fun _ _ => id
   obtain ⟨A3, C3, w24, r24, ⟨cells3, o3, f3⟩, x24, -⟩ := append_strs o1 (Nat.le_trans x'.size x21.size) f' (o2.sl f2 (by omega) (by omega)) (by omega)
   refine ⟨A2, L2, C2, rfl, ⟨x21.keepT _, trivial⟩, A3, L' + L2, C3, w24, r24, ⟨o1.keepT x24 (by decide), trivial⟩, ?_⟩
   rw [wrap_lt h0 (by omega)]
   refine next h0 hlt ⟨(x'.then x21).trans x24 fun b hb hbl => ?_, ?_, cells3, o3, ?_⟩
   ·have := (o1.base b hbl).1
    omega
   ·rw [htk]
    simp only [List.length_append]
    omega
   ·rw [htk, <- List.append_assoc]
    exact f3
  intro K25 hK25
  have key25 : ∀ z : Bool, (z = true ↔ k = 2 /\ on ≠ E0) -> K25 z (w1.alloc (.cells #[.int .i64 k, .string al, .string n, .string on, .slice a1 l1 c1, .slice a2 l2 c2, .slice a3 l3 c3] 104)) := by
   intro z hz
   refine hK25 z _ ⟨fun h => ?_, fun h => ?_⟩
   ·have hk := hz.1 h
    obtain ⟨A2, C2, w27, r1, ⟨cells2, o2, f2⟩, x2, k2⟩ := append_str (hown.keep hx16 fun _ _ => id) (Nat.le_trans hx.size hx16.size) hf (s := on) hs3 (by omega)
    refine ⟨trivial, A2, L + 1, C2, w27, r1, ⟨k2 104 (by decide), trivial⟩, key A2 (L + 1) C2 w27 cells2 ((hx.then hx16).trans x2 fun b hb hbl => ?_) (by rw [if_pos hk, List.length_append, hL]; rfl) o2 (by rw [if_pos hk]; exact f2)⟩
    have := ((hown.keep hx16 fun _ _ => id).base b hbl).1
    omega
   ·have hk : ¬ (k = 2 /\ on ≠ E0) := fun e => by
     rw [hz.2 e] at h
     cases h
    exact key A L C _ cells (hx.then hx16) (by rw [if_neg hk, List.append_nil, hL]) (hown.keep hx16 fun _ _ => id) (by rw [if_neg hk, List.append_nil]; exact hf)
  refine ⟨fun hk => key25 _ ⟨fun h => ⟨by simpa using hk, nbeq_t h⟩, fun h => ?_⟩, fun hk => key25 false ⟨nofun, fun h => by simp [h.1] at hk⟩⟩
  have hne := h.2
  cases hb : (on.toList == (⟨#[]⟩ : BA).toList) with
  | false => rfl
  | true => exact absurd (bytes_beq_t.1 hb) hne
 ·have hle := of_decide_eq_false hge
  rw [List.take_of_length_le (by omega)] at hf hL
  exact ⟨A, L, C, rfl, hx, hL, cells, hown, hf⟩
theorem c_conditionsOf_all : ∀ (d : Nat) (xs : List Sel), SizeOf.sizeOf xs < d -> CondOf xs
 | 0, _, h => by omega
 | d + 1, xs, h => c_conditionsOf_of fun k al n on args dirs kids hm => c_conditionsOf_all d kids (by
   have := List.sizeOf_lt_of_mem hm
   simp only [Sel.mk.sizeOf_spec] at this
   omega)
theorem c_conditionsOf (xs : List Sel) : CondOf xs := c_conditionsOf_all _ xs (Nat.lt_succ_self _)
def condsD (ops : List OpD) (frags : List Frag) : List BA := (frags.flatMap fun x => x.on :: condL x.kids) ++ ops.flatMap fun x => condL x.kids
theorem flat_take_le {α : Type} (f : α -> List BA) (xs : List α) (j : Nat) : ((xs.take j).flatMap f).length <= (xs.flatMap f).length := by
 have : xs.flatMap f = (xs.take j).flatMap f ++ (xs.drop j).flatMap f := by rw [<- List.flatMap_append, List.take_append_drop]
 rw [this, List.length_append]
 omega
theorem flat_snoc {α : Type} (f : α -> List BA) {xs : List α} {i : Int} {x : α} (h0 : 0 <= i) (hx : xs[i.toNat]? = some x) : (xs.take (i + 1).toNat).flatMap f = (xs.take i.toNat).flatMap f ++ f x := by
 rw [take_snoc h0 hx, List.flatMap_append]
 simp
theorem le_sum {α : Type} (f : α -> Nat) {x : α} : ∀ {l : List α}, x ∈ l -> f x <= (l.map f).sum
 | y :: l, h => by
  simp only [List.map_cons, List.sum_cons]
  rcases List.mem_cons.1 h with rfl | h
  ·omega
  ·have := le_sum f h
   omega
theorem flat_len {α : Type} {f : α -> List BA} {g : α -> Nat} : ∀ {l : List α}, (∀ x ∈ l, (f x).length <= g x) -> (l.flatMap f).length <= (l.map g).sum
 | [], _ => by simp
 | x :: l, h => by
  have h1 := h x (by simp)
  have h2 := flat_len (l := l) (f := f) (g := g) fun y hy => h y (by simp [hy])
  simp only [List.flatMap_cons, List.length_append, List.map_cons, List.sum_cons]
  omega
theorem c_conditions_own {a : OA} {l c : Nat} {a' : OA} {l' c' : Nat} {ops : List OpD} {frags : List Frag} {w : World} (hl : ROps w a l c ops) (hl' : RFrags w a' l' c' frags) (ok1 : ∀ x ∈ ops, okOp x) (ok2 : ∀ x ∈ frags, okFrag x) (h12 : frags.length <= 12) (hsp : selTot ops frags <= 2097152) :
  CP 45 #[.agg #[.slice a l c, .slice a' l' c']] w fun e w' => ∃ A L C, e = .returned (.slice A L C) /\ Ext (fun _ => False) w w' /\ L = (condsD ops frags).length /\ L <= selTot ops frags + 12 /\ ∃ cells, Own w.heap.size w' 9 1 A L C cells /\ Flat 1 RS (condsD ops frags) cells := by
 obtain ⟨e1, e3⟩ := hl.len
 obtain ⟨e1', e3'⟩ := hl'.len
 have ht1 : (frags.flatMap fun x => x.on :: condL x.kids).length <= (frags.map fun x => selL x.kids).sum + frags.length * 1 := by
  rw [<- sum_addk (fun x : Frag => selL x.kids) 1]
  exact flat_len fun x _ => by
   have := condL_le x.kids
   simp only [List.length_cons]
   omega
 have ht2 : (ops.flatMap fun x => condL x.kids).length <= (ops.map fun x => selL x.kids).sum := flat_len fun x _ => condL_le x.kids
 have hsm1 : ∀ x ∈ ops, selL x.kids <= (ops.map fun x => selL x.kids).sum := fun x hx => le_sum (fun x : OpD => selL x.kids) hx
 have hsm2 : ∀ x ∈ frags, selL x.kids <= (frags.map fun x => selL x.kids).sum := fun x hx => le_sum (fun x : Frag => selL x.kids) hx
 unfold selTot at hsp
 have hx0 := (Ext.refl (X := fun _ => False) w).alloc (.cells #[.slice a l c, .slice a' l' c'] 30)
 refine q_conditions a l c a' l' c' w _ ⟨trivial, ?_⟩
 refine ⟨fun A L C i w1 => 0 <= i /\ i <= l' /\ Ext (fun _ => False) w w1 /\ L = ((frags.take i.toNat).flatMap fun x => x.on :: condL x.kids).length /\ ∃ cells, Own w.heap.size w1 9 1 A L C cells /\ Flat 1 RS ((frags.take i.toNat).flatMap fun x => x.on :: condL x.kids) cells, fun _ _ _ i _ => ((l' : Int) - i).toNat, ⟨by omega, by omega, hx0, rfl, [], Own.nil .., .nil⟩, ?_⟩
 rintro A L C i w1 ⟨h0, hi, hx, hL, cells, hown, hf⟩
 refine ⟨fun hlt => ?_, fun hge => ?_⟩
 ·have hlt := of_decide_eq_true hlt
  obtain ⟨p, x, hp, hxs, cs, hc, a2, l2, c2, a3, l3, c3, rfl, hv2, hv3⟩ := hl'.get h0 hlt
  obtain ⟨⟨_, _, hc0⟩, hs0, ⟨_, _, hc1⟩, hs1, ⟨_, _, hc2⟩, hs2, ⟨_, _, hc3⟩, -⟩ := hc
  have hmem := List.mem_of_getElem? hxs
  have hlen := flat_take_le (fun x : Frag => x.on :: condL x.kids) frags (i + 1).toNat
  have hsn := flat_snoc (fun x : Frag => x.on :: condL x.kids) h0 hxs
  have hsel := hsm2 x hmem
  rw [hsn, List.length_append, List.length_cons] at hlen
  refine ⟨p, hp, ⟨h0, hlt⟩, _, hx.cell hc0 id, _, hx.cell hc1 id, _, _, _, hx.cell hc2 id, _, _, _, hx.cell hc3 id, trivial, trivial, trivial, ?_⟩
  have hy15 : Ext (fun _ => False) w1 (w1.alloc (.cells #[.string x.name, .string x.on, .slice a2 l2 c2, .slice a3 l3 c3] 62)) := (Ext.refl w1).alloc _
  obtain ⟨A2, C2, w18, r18, ⟨cells2, o2, f2⟩, x2, k2⟩ := append_str (hown.keep hy15 fun _ _ => id) (Nat.le_trans hx.size hy15.size) hf (s := x.on) hs1 (by omega)
  have hx18 : Ext (fun _ => False) w w18 := (hx.then hy15).trans x2 fun b hb hbl => by
   have := ((hown.keep hy15 fun _ _ => id).base b hbl).1
   omega
  refine ⟨A2, L + 1, C2, w18, r18, ⟨k2 30 (by decide), k2 62 (by decide), trivial⟩, ?_⟩
  refine (c_conditionsOf x.kids a3 l3 c3 _ (hv3.keep hx18.keep) (ok2 x hmem).2.1 (by omega)).mono ?_
  rintro _ w20 ⟨A3, L3, C3, rfl, x20, hL3, cells3, o3, f3⟩
  have o1 := o2.keep x20 fun _ _ => id
  have hcl := condL_le x.kids
  obtain ⟨A4, C4, w23, r23, ⟨cells4, o4, f4⟩, x23, -⟩ := append_strs o1 (Nat.le_trans hx18.size x20.size) f2 (o3.sl f3 (by omega) (by omega)) (by omega)
  refine ⟨A3, L3, C3, rfl, ⟨x20.keepT _, x20.keepT _, trivial⟩, A4, L + 1 + L3, C4, w23, r23, ⟨o1.keepT x23 (by decide), o1.keepT x23 (by decide), trivial⟩, ?_⟩
  rw [wrap_lt h0 (by omega)]
  refine next h0 hlt ⟨(hx18.then x20).trans x23 fun b hb hbl => ?_, ?_, cells4, o4, ?_⟩
  ·have := (o1.base b hbl).1
   omega
  ·rw [hsn, List.length_append, List.length_cons]; omega
  ·rw [hsn]
   simpa using f4
 ·have hle := of_decide_eq_false hge
  rw [List.take_of_length_le (by omega)] at hf hL
  refine ⟨fun A L C i w1 => 0 <= i /\ i <= l /\ Ext (fun _ => False) w w1 /\ L = ((frags.flatMap fun x => x.on :: condL x.kids) ++ (ops.take i.toNat).flatMap fun x => condL x.kids).length /\ ∃ cells, Own w.heap.size w1 9 1 A L C cells /\ Flat 1 RS ((frags.flatMap fun x => x.on :: condL x.kids) ++ (ops.take i.toNat).flatMap fun x => condL x.kids) cells, fun _ _ _ i _ => ((l : Int) - i).toNat, ⟨by omega, by omega, hx, by simpa using hL, cells, hown, by simpa using hf⟩, ?_⟩
  clear hown hf hL hx hle hge h0 hi
  rintro A L C i w1 ⟨h0, hi, hx, hL, cells, hown, hf⟩
  rw [List.length_append] at hL
  refine ⟨fun hlt => ?_, fun hge => ?_⟩
  ·have hlt := of_decide_eq_true hlt
   obtain ⟨p, x, hp, hxs, cs, hc, a1, l1, c1, a2, l2, c2, a3, l3, c3, rfl, hv1, hv2, hv3⟩ := hl.get h0 hlt
   obtain ⟨⟨_, _, hc0⟩, hs0, ⟨_, _, hc1⟩, hs1, ⟨_, _, hc2⟩, hs2, ⟨_, _, hc3⟩, hs3, ⟨_, _, hc4⟩, -⟩ := hc
   have hmem := List.mem_of_getElem? hxs
   have hlen := flat_take_le (fun x : OpD => condL x.kids) ops (i + 1).toNat
   have hsn := flat_snoc (fun x : OpD => condL x.kids) h0 hxs
   have hsel := hsm1 x hmem
   have hcl := condL_le x.kids
   rw [hsn, List.length_append] at hlen
   refine ⟨p, hp, ⟨h0, hlt⟩, _, hx.cell hc0 id, _, hx.cell hc1 id, _, _, _, hx.cell hc2 id, _, _, _, hx.cell hc3 id, _, _, _, hx.cell hc4 id, trivial, trivial, ?_⟩
   have hx16 := hx.alloc (.cells #[.string x.kind, .string x.name, .slice a1 l1 c1, .slice a2 l2 c2, .slice a3 l3 c3] 50)
   have hy16 : Ext (fun _ => False) w1 (w1.alloc (.cells #[.string x.kind, .string x.name, .slice a1 l1 c1, .slice a2 l2 c2, .slice a3 l3 c3] 50)) := (Ext.refl w1).alloc _
   refine (c_conditionsOf x.kids a3 l3 c3 _ (hv3.keep hx16.keep) (ok1 x hmem).2.2.2 (by omega)).mono ?_
   rintro _ w18 ⟨A2, L2, C2, rfl, x18, hL2, cells2, o2, f2⟩
   have o1 := (hown.keep hy16 fun _ _ => id).keep x18 fun _ _ => id
   obtain ⟨A3, C3, w21, r21, ⟨cells3, o3, f3⟩, x21, -⟩ := append_strs o1 (Nat.le_trans hx16.size x18.size) hf (o2.sl f2 (by omega) (by omega)) (by omega)
   refine ⟨A2, L2, C2, rfl, ⟨x18.keepT _, x18.keepT _, trivial⟩, A3, L + L2, C3, w21, r21, ⟨o1.keepT x21 (by decide), o1.keepT x21 (by decide), trivial⟩, ?_⟩
   rw [wrap_lt h0 (by omega)]
   refine next h0 hlt ⟨(hx16.then x18).trans x21 fun b hb hbl => ?_, ?_, cells3, o3, ?_⟩
   ·have := (o1.base b hbl).1
    omega
   ·rw [hsn, List.length_append, List.length_append]; omega
   ·rw [hsn, <- List.append_assoc]; exact f3
  ·have hle := of_decide_eq_false hge
   rw [List.take_of_length_le (by omega)] at hf hL
   refine ⟨A, L, C, rfl, hx, ?_, ?_, cells, hown, hf⟩
   ·rw [condsD, List.length_append]; exact hL
   ·unfold selTot
    omega
theorem c_conditions {a : OA} {l c : Nat} {a' : OA} {l' c' : Nat} {ops : List OpD} {frags : List Frag} {w : World} (hl : ROps w a l c ops) (hl' : RFrags w a' l' c' frags) (ok1 : ∀ x ∈ ops, okOp x) (ok2 : ∀ x ∈ frags, okFrag x) (h12 : frags.length <= 12) (hsp : selTot ops frags <= 2097152) :
  CP 45 #[.agg #[.slice a l c, .slice a' l' c']] w fun e w' => ∃ A L C, e = .returned (.slice A L C) /\ Ext (fun _ => False) w w' /\ RStrs w' A L C (condsD ops frags) := by
 refine (c_conditions_own hl hl' ok1 ok2 h12 hsp).mono ?_
 rintro _ w' ⟨A, L, C, rfl, hx, hL, hle, cells, hown, hf⟩
 exact ⟨A, L, C, rfl, hx, hown.sl hf (by omega) (by omega)⟩
end Go.VC
namespace Go.VC
open Go Go.Proofs
variable [DB]
def vtO (x : OpD) : List BA := x.vars.map fun v => baseName v.t
def varTypesD (ops : List OpD) : List BA := ops.flatMap vtO
theorem vt_len (l : List OpD) : (l.flatMap vtO).length = (l.map fun x => x.vars.length).sum := by
 induction l with
 | nil => rfl
 | cons x r ih => simp only [List.flatMap_cons, List.length_append, List.map_cons, List.sum_cons, ih, vtO, List.length_map]
theorem c_varTypes {a : OA} {l c : Nat} {a' : OA} {l' c' : Nat} {ops : List OpD} {w : World} (hl : ROps w a l c ops) (hn : (ops.map fun x => x.vars.length).sum <= 2097152) :
  CP 41 #[.agg #[.slice a l c, .slice a' l' c']] w fun e w' => ∃ A L C, e = .returned (.slice A L C) /\ Ext (fun _ => False) w w' /\ RStrs w' A L C (varTypesD ops) := by
 obtain ⟨e1, e3⟩ := hl.len
 rw [<- vt_len] at hn
 have hx0 := (Ext.refl (X := fun _ => False) w).alloc (.cells #[.slice a l c, .slice a' l' c'] 30)
 refine q_varTypes a l c a' l' c' w _ ⟨trivial, ?_⟩
 refine ⟨fun A L C i w1 => 0 <= i /\ i <= l /\ Ext (fun _ => False) w w1 /\ L = ((ops.take i.toNat).flatMap vtO).length /\ ∃ cells, Own w.heap.size w1 9 1 A L C cells /\ Flat 1 RS ((ops.take i.toNat).flatMap vtO) cells, fun _ _ _ i _ => ((l : Int) - i).toNat, ⟨by omega, by omega, hx0, rfl, [], Own.nil .., .nil⟩, ?_⟩
 rintro A L C i w1 ⟨h0, hi, hx, hL, cells, hown, hf⟩
 refine ⟨fun hlt => ?_, fun hge => ?_⟩
 ·have hlt := of_decide_eq_true hlt
  obtain ⟨p, x, hp, hxs, cs, hc, a1, l1, c1, a2, l2, c2, a3, l3, c3, rfl, hv1, hv2, hv3⟩ := hl.get h0 hlt
  obtain ⟨⟨_, _, hc0⟩, hs0, ⟨_, _, hc1⟩, hs1, ⟨_, _, hc2⟩, hs2, ⟨_, _, hc3⟩, hs3, ⟨_, _, hc4⟩, -⟩ := hc
  have hlen := flat_take_le vtO ops (i + 1).toNat
  have hsn := flat_snoc vtO h0 hxs
  rw [hsn, List.length_append] at hlen
  have hvl : (vtO x).length = x.vars.length := by simp [vtO]
  obtain ⟨d1, d3⟩ := hv1.len
  refine ⟨p, hp, ⟨h0, hlt⟩, _, hx.cell hc0 id, _, hx.cell hc1 id, _, _, _, hx.cell hc2 id, _, _, _, hx.cell hc3 id, _, _, _, hx.cell hc4 id, trivial, trivial, ?_⟩
  have hx16 := hx.alloc (.cells #[.string x.kind, .string x.name, .slice a1 l1 c1, .slice a2 l2 c2, .slice a3 l3 c3] 50)
  have hy16 : Ext (fun _ => False) w1 (w1.alloc (.cells #[.string x.kind, .string x.name, .slice a1 l1 c1, .slice a2 l2 c2, .slice a3 l3 c3] 50)) := (Ext.refl w1).alloc _
  refine ⟨fun A L C j w2 => 0 <= j /\ j <= l1 /\ Ext (fun _ => False) w w2 /\ L = ((ops.take i.toNat).flatMap vtO ++ (vtO x).take j.toNat).length /\ ∃ cells, Own w.heap.size w2 9 1 A L C cells /\ Flat 1 RS ((ops.take i.toNat).flatMap vtO ++ (vtO x).take j.toNat) cells, fun _ _ _ j _ => ((l1 : Int) - j).toNat, ⟨by omega, by omega, hx16, by simpa using hL, cells, hown.keep hy16 fun _ _ => id, by simpa using hf⟩, ?_⟩
  clear hown hf hL hx16 hy16
  rintro A L C j w2 ⟨j0, hj, hx2, hL, cells, hown, hf⟩
  refine ⟨fun hjl => ?_, fun hjg => ?_⟩
  ·have hjl := of_decide_eq_true hjl
   obtain ⟨p2, y, hp2, hys, cs2, hc', n, b1, m1, g1, nn, b2, m2, g2, b3, m3, g3, rfl, hw1, hw2, hw3⟩ := (RVars.keep hx2.keep hv1).get j0 hjl
   obtain ⟨⟨_, _, hd0⟩, hz0, ⟨_, _, hd1⟩, hz1, ⟨_, _, hd2⟩, hz2, ⟨_, _, hd3⟩, hz3, ⟨_, _, hd4⟩, hz4, ⟨_, _, hd5⟩, -⟩ := hc'
   refine ⟨p2, hp2, ⟨j0, hjl⟩, _, hd0.cell, _, hd1.cell, _, _, _, hd2.cell, _, hd3.cell, _, _, _, hd4.cell, _, _, _, hd5.cell, trivial, trivial, ?_⟩
   have hy30 : Ext (fun _ => False) w2 (w2.alloc (.cells #[.string y.name, .string n, .slice b1 m1 g1, .bool nn, .slice b2 m2 g2, .slice b3 m3 g3] 58)) := (Ext.refl w2).alloc _
   refine (c_Base hz1 (hw1.keep hy30.keep)).mono ?_
   rintro _ w32 ⟨rfl, hbn, x32⟩
   have y32 := hy30.then x32
   have hsz : (baseName y.t).size <= 4194304 := hbn
   have hLb : L + 1 <= 16777216 := by
    rw [List.length_append, List.length_take] at hL
    omega
   obtain ⟨A2, C2, w36, r36, ⟨cells2, o2, f2⟩, x36, k36⟩ := append_str (hown.keep y32 fun _ _ => id) (Nat.le_trans hx2.size y32.size) hf hsz hLb
   refine ⟨_, rfl, ⟨x32.keepT _, x32.keepT _, x32.keepT _, trivial⟩, trivial, A2, L + 1, C2, w36, r36, ⟨k36 _ (by decide), k36 _ (by decide), k36 _ (by decide), trivial⟩, ?_⟩
   rw [wrap_lt j0 (by omega)]
   have htk : (vtO x).take (j + 1).toNat = (vtO x).take j.toNat ++ [baseName y.t] := take_snoc j0 (by simp [vtO, hys])
   refine next j0 hjl ⟨(hx2.then y32).trans x36 fun b hb hbl => ?_, ?_, cells2, o2, ?_⟩
   ·have := ((hown.keep y32 fun _ _ => id).base b hbl).1
    omega
   ·rw [htk, <- List.append_assoc, List.length_append, <- hL]; rfl
   ·rw [htk, <- List.append_assoc]; exact f2
  ·have hje := of_decide_eq_false hjg
   rw [List.take_of_length_le (l := vtO x) (by omega)] at hf hL
   rw [wrap_lt h0 (by omega)]
   refine next h0 hlt ⟨hx2, ?_, cells, hown, ?_⟩
   ·rw [hsn]; exact hL
   ·rw [hsn]; exact hf
 ·have hle := of_decide_eq_false hge
  rw [List.take_of_length_le (by omega)] at hf hL
  exact ⟨A, L, C, rfl, hx, hown.sl hf (by omega) (by omega)⟩
end Go.VC
namespace Go.VC
open Go Go.Proofs
variable [DB]
def isInput (k : BA) : Prop := k = kScalar ∨ k = kEnum ∨ k = kInput
theorem c_IsInputType {c : WCtx} {d : Def} {db : Nat} {w : World} (hwk : Wk c c.w0 w) (hp : PDef c.M c.w0 d db) :
  CP 79 #[.pointer (some (adr db))] w fun e w' => ∃ b : Bool, e = .returned (.bool b) /\ w' = w /\ (b = true ↔ isInput d.kind) := by
 obtain ⟨_, _, _, _, _, _, A3, L3, C3, _, _, _, _, _, _, pos3, hM, hB, -⟩ := hp
 have c0 := hwk.nd hM hB (j := 0) rfl rfl
 refine q_ast_Definition_IsInputType (some (adr db)) w _ fun K2 hK2 => ?_
 have key : ∀ z : Bool, (z = true ↔ isInput d.kind) -> K2 z w := fun z hz => hK2 z w ⟨z, rfl, rfl, hz⟩
 refine ⟨adr db, rfl, d.kind, c0, fun h1 => ⟨adr db, rfl, d.kind, c0, fun h2 => ⟨adr db, rfl, d.kind, c0, key _ ⟨fun h => .inr (.inr (bytes_beq_t.1 h)), fun h => ?_⟩⟩, fun h2 => key true ⟨fun _ => .inr (.inl (bytes_beq_t.1 h2)), fun _ => rfl⟩⟩, fun h1 => key true ⟨fun _ => .inl (bytes_beq_t.1 h1), fun _ => rfl⟩⟩
 exact bytes_beq_t.2 ((h.resolve_left (bytes_beq_f.1 h1)).resolve_left (bytes_beq_f.1 h2))
theorem c_ast_Type_String {c : WCtx} : ∀ (t : Typ) (b : Nat) (w : World), Wk c c.w0 w -> PTyp c.M c.w0 t b -> okTyp t -> typW t <= 2097152 -> CP 80 #[.pointer (some (adr b))] w fun e w' => ∃ s, e = .returned (.string s) /\ s.size <= 4 * typW t /\ w' = w
 | .mk n [] nn, b, w, hwk, hp, hok, hs => by
  simp only [PTyp] at hp
  obtain ⟨q, pos, hM, hB, -⟩ := hp
  have hn : n ≠ E0 := by simpa [okTyp] using hok
  simp only [typW, typsW] at hs ⊢
  have c0 := hwk.nd hM hB (j := 0) rfl rfl
  refine q_ast_Type_String (some (adr b)) w _ fun K2 hK2 => ?_
  have key : ∀ s : BA, s.size <= 1 -> K2 s w := fun s h1 => hK2 s w ⟨adr b, rfl, n, c0, fun _ => ⟨adr b, rfl, n, c0, _, _, guard_add, run_str_add (by omega) (by omega), trivial, _, rfl, by rw [ByteArray.size_append]; omega, rfl⟩, fun h => absurd (nbeq_f h) hn⟩
  exact ⟨adr b, rfl, nn, hwk.nd hM hB (j := 2) rfl rfl, fun _ => key _ (by decide), fun _ => key _ (by decide)⟩
 | .mk n (t :: l) nn, b, w, hwk, hp, hok, hs => by
  simp only [PTyp, PTypE] at hp
  obtain ⟨q, pos, hM, hB, eb, rfl, ht⟩ := hp
  have hl : l = [] /\ n = E0 /\ okTyp t := by
   cases l with
   | nil => exact ⟨rfl, by simpa [okTyp] using hok⟩
   | cons y l => exact absurd hok (by simp [okTyp])
  obtain ⟨rfl, rfl, hot⟩ := hl
  simp only [typW, typsW] at hs ⊢
  have c0 := hwk.nd hM hB (j := 0) rfl rfl
  refine q_ast_Type_String (some (adr b)) w _ fun K2 hK2 => ?_
  have key : ∀ s : BA, s.size <= 1 -> K2 s w := fun s h1 => hK2 s w ⟨adr b, rfl, E0, c0, fun h => by simp at h, fun _ => ⟨adr b, rfl, _, hwk.nd hM hB (j := 1) rfl rfl, (c_ast_Type_String t eb w hwk ht hot (by omega)).mono fun e w' ⟨s', he, hs', hw'⟩ => by
   subst he
   subst hw'
   have e1 : (⟨#[91]⟩ : BA).size = 1 := rfl
   have e2 : (⟨#[93]⟩ : BA).size = 1 := rfl
   have e3 : E0.size = 0 := rfl
   refine ⟨s', rfl, trivial, _, _, guard_add, run_str_add (by omega) (by omega), trivial, _, _, guard_add, run_str_add (by rw [ByteArray.size_append]; omega) (by omega), trivial, _, _, guard_add, run_str_add (by rw [ByteArray.size_append, ByteArray.size_append]; omega) (by omega), trivial, _, rfl, ?_, rfl⟩
   rw [ByteArray.size_append, ByteArray.size_append, ByteArray.size_append]
   omega⟩⟩
  exact ⟨adr b, rfl, nn, hwk.nd hM hB (j := 2) rfl rfl, fun _ => key _ (by decide), fun _ => key _ (by decide)⟩
def badInN (c : WCtx) (n : BA) : Prop := ∃ d, lastN Def.name c.types n = some d /\ ¬ isInput d.kind
def badIn (c : WCtx) : Ev -> Prop
 | .op o => ∃ v ∈ o.vars, badInN c (typeName v.t)
 | _ => False
theorem ex_take {α : Type} {P : α -> Prop} {xs : List α} {i : Int} {x : α} (h0 : 0 <= i) (hx : xs[i.toNat]? = some x) : (∃ y ∈ xs.take (i + 1).toNat, P y) ↔ (∃ y ∈ xs.take i.toNat, P y) ∨ P x := by
 rw [take_snoc h0 hx]
 exact ex_snoc
theorem c_In_1 {c : WCtx} {ae cnt : Nat} {bad : Ev -> Prop} {l : List Ev} {w : World} {co : OA} {vm : Nat} {evs : List Value} {node : Value} {ev : Ev} (hbad : ∀ e, bad e ↔ badIn c e) (hty : ∀ x ∈ c.ops, ∀ v ∈ x.vars, typW v.t <= 2097152) (hVM : ∀ b, (b = cnt ∨ b = ae) -> ¬ c.M b) (hne : ae ≠ cnt) (hc : StK bad ae cnt l w) (hw : Wst c co vm evs w) (hk : slot ev = 0) (hn : evNode c w node ev) :
  CP 78 #[.pointer (some (adr c.wb)), node, .pointer (some (adr ae))] w fun e w' => e = .returned (.tuple #[]) /\ Ext (fun b => b = cnt ∨ b = ae) w w' /\ StK bad ae cnt (l ++ [ev]) w' := by
 cases ev with
 | op o =>
  obtain ⟨b, A, L, C, rfl, hp, ho, hcell, hL, hvars⟩ := hn
  obtain ⟨A1, L1, C1, A2, L2, C2, A3, L3, C3, pos, hM, hB, hv, -⟩ := hp
  have hL0 := hv.1
  have hL1 := hv.2.2.1
  have hL2 : L <= 4194304 := by omega
  have hwk : ∀ {w' : World}, Ext (fun b => b = cnt ∨ b = ae) w w' -> Wk c w w' := fun x => Wk.ofExt x fun b hM hV => hVM b hV hM
  refine q_rules_VariablesAreInputTypesRule_1 (some (adr c.wb)) (some (adr b)) (adr ae) w _ ⟨adr b, rfl, A, L, C, hcell, ?_⟩
  refine ⟨fun i w1 => 0 <= i /\ i <= (L : Int) /\ Ext (fun b => b = cnt ∨ b = ae) w w1 /\ InK bad ae cnt l i.toNat (∃ v ∈ o.vars.take i.toNat, badInN c (typeName v.t)) w1, fun i _ => ((L : Int) - i).toNat, ⟨by omega, by omega, Ext.refl w, InK.start hc (by simp)⟩, ?_⟩
  rintro i w9 ⟨h0, hi, x9, c9⟩
  refine ⟨fun hlt => ?_, fun hge => ?_⟩
  ·have hlt := of_decide_eq_true hlt
   obtain ⟨y, hy⟩ : ∃ y, o.vars[i.toNat]? = some y := ⟨_, List.getElem?_eq_getElem (by omega)⟩
   have hmem := List.mem_of_getElem? hy
   obtain ⟨p, vb, hpA, -, hpv, hnt, hMp, hat, hok⟩ := hvars i.toNat y hy
   have hpv' := hpv
   obtain ⟨tb, qd, Av, Lv, Cv, posv, hMv, hBv, hpt, -⟩ := hpv'
   have wk9 := hw.wk.trans (hwk x9)
   obtain ⟨q, hq, oq⟩ := hnt.wk hMv (hwk x9)
   replace oq := oq y hpv
   intro K10 hK10
   have key : ∀ w', Ext (fun b => b = cnt ∨ b = ae) w w' -> InK bad ae cnt l (i.toNat + 1) ((∃ v ∈ o.vars.take i.toNat, badInN c (typeName v.t)) ∨ badInN c (typeName y.t)) w' -> K10 w' := by
    intro w' x' c'
    refine hK10 w' ?_
    rw [wrap_lt h0 (by omega)]
    refine next h0 hlt ⟨x', c'.good (by omega) (ex_take h0 hy).symm⟩
   have good : ¬ badInN c (typeName y.t) -> K10 w9 := fun hg => key w9 x9 (c9.good (by omega) ⟨.inl, fun k => k.elim id fun k => absurd k hg⟩)
   have a9 : At w9 _ (p.add i.toNat) _ := wk9.at (by rw [add_block]; exact hMp) hat rfl
   refine ⟨p, hpA, ⟨h0, hlt⟩, _, by rw [Nat.mul_one]; exact a9.cell, adr vb, rfl, q, hq.cell, fun hz => good fun ⟨d, hd, _⟩ => ?_, fun hz => ⟨adr vb, rfl, q, hq.cell, ?_⟩⟩
   ·rw [hd] at oq
    obtain ⟨db, rfl, -⟩ := oq
    cases hz
   ·cases hl : lastN Def.name c.types (typeName y.t) with
    | none =>
     rw [hl] at oq
     rw [show q = none from oq] at hz
     cases hz
    | some d =>
     rw [hl] at oq
     obtain ⟨db, rfl, hpd⟩ := oq
     refine (c_IsInputType wk9 hpd).mono ?_
     rintro _ w19 ⟨z, rfl, rfl, hz'⟩
     refine ⟨z, rfl, trivial, fun h => ?_, fun h => good fun ⟨d', hd', hn⟩ => ?_⟩
     ·intro w21 e21
      have x21 : Ext (fun _ => False) w19 w21 := by rw [e21]; exact (Ext.refl w19).drew
      have c21 := Cnt.ext c9 x21 id id
      have wk21 := wk9.trans (Wk.ofExt x21 fun _ _ => id)
      have a21 := wk21.at (a := ⟨vb, 5, none⟩) hMv (hBv.at (j := 5) rfl) rfl
      have n21 := wk21.at (a := ⟨vb, 1, none⟩) hMv (hBv.at (j := 1) rfl) rfl
      refine ⟨_, (c21.1.at (j := 0) rfl).cell, adr vb, rfl, _, n21.cell, adr vb, rfl, _, wk21.nd hMv hBv (j := 2) rfl rfl, adr vb, rfl, posv, a21.cell, ?_⟩
      refine (c_ast_Type_String y.t tb w21 wk21 hpt hok (hty o ho y hmem)).mono ?_
      rintro _ w30 ⟨s, rfl, -, rfl⟩
      refine ⟨s, rfl, trivial, ⟨rfl, rfl, rfl, trivial⟩, trivial, ?_⟩
      refine tell c21 a21 hne ((Ext.refl w30).alloc _) rfl fun w' x' c' => key w' ((x9.trans (x21.toM _) fun _ _ e => e).trans x' fun _ _ e => e) (InK.told c' (by omega) (.inr ⟨d, hl, fun hin => ?_⟩))
      rw [hz'.2 hin] at h
      cases h
     ·rw [hl] at hd'
      obtain rfl : d = d' := by simpa using hd'
      cases z with
      | true => exact hn (hz'.1 rfl)
      | false => cases h
  ·have hle := of_decide_eq_false hge
   rw [List.take_of_length_le (by omega)] at c9
   exact ⟨rfl, x9, c9.stop (by omega) (hbad (.op o)).symm⟩
 | _ => cases hk
theorem typeName_base : ∀ t : Typ, typeName t = baseName t
 | .mk n [] _ => rfl
 | .mk _ (t :: _) _ => by simp only [typeName, baseName]; exact typeName_base t
theorem inputsRule (types : List Def) (dirs : List DirDef) (defs : List SchemaDef) (ops : List OpD) (frags : List Frag) (hO : OkSchema types dirs defs) (h12 : ops.length <= 12) (h12' : frags.length <= 12) (ok1 : ∀ x ∈ ops, okOp x) (ok2 : ∀ x ∈ frags, okFrag x) (hs : docW ops frags <= 2097152) :
  RuleOK 40 (wideD types dirs (rootsOf types defs)) ops frags fun n => 0 <= n /\ (n > 0 ↔ ∃ n ∈ varTypesD ops, (findD types n).2 = true /\ ¬ isInput (findD types n).1.kind) := by
 refine ⟨⟨_, Tryz.func40, by kernel_rfl⟩, ?_⟩
 intro c cnt hops hfrags hwd hb hB hcnt hne hMc hMe
 subst hops
 subst hfrags
 have x3 : Ext (fun _ => False) c.w0 (c.w0.alloc (.cells #[.func (.func 69) #[] #[.pointer (some (adr cnt))]] 130)) := (Ext.refl c.w0).alloc _
 have Bae := Blk.made c.w0 130 [.func (.func 69) #[] #[.pointer (some (adr cnt))]]
 refine q_rules_VariablesAreInputTypesRule (some (adr c.eb)) _ c.w0 _ ⟨⟨rfl, trivial⟩, ?_⟩
 have hlc := hcnt.lt
 have hle := hB.lt
 generalize hw3 : c.w0.alloc (.cells #[.func (.func 69) #[] #[.pointer (some (adr cnt))]] 130) = w3
 replace x3 : Ext (fun _ => False) c.w0 w3 := by rw [<- hw3]; exact x3
 replace Bae : Blk w3 c.w0.heap.size 130 [.func (.func 69) #[] #[.pointer (some (adr cnt))]] := by rw [<- hw3]; exact Bae
 clear hw3
 have hla := Bae.lt
 refine (c_core_Events_OnOperation (f := .func (.func 78) #[] #[.pointer (some (adr c.w0.heap.size))]) rfl (hB.ext x3 id) rfl).mono ?_
 rintro _ w5 ⟨rfl, p, C, B5, ap, hpb, x5⟩
 have y5 : Ext (fun b => b = c.eb) c.w0 w5 := (x3.toM _).trans x5 fun _ _ e => e
 have hz5 := x5.size
 have hz3 := x3.size
 have hae : c.w0.heap.size ≠ cnt := by omega
 have Bae5 := Bae.ext x5 (by show ¬ c.w0.heap.size = c.eb; omega)
 have Bc5 := hcnt.ext y5 hne
 refine ⟨rfl, trivial, rfl, y5, fun b => b = cnt ∨ b = c.w0.heap.size, StK (badIn c) c.w0.heap.size cnt, obL [(0, p, C)], ?_, fun b hb' => ?_, fun b hb' T cs fr ho => ?_, fun l w'' hl ht => ?_⟩
 ·have hVM : ∀ b, (b = cnt ∨ b = c.w0.heap.size) -> ¬ c.M b := fun b hV hM => by
   have := hb.m b hM
   rcases hV with rfl | rfl
   ·exact hMc hM
   ·omega
  refine rule_one hb hMe y5 (fun b hb' => hb'.imp id fun e => by omega) hlc hne hMc hle (fun l w w'' h hx => Cnt.ext h hx (fun e => e (.inr rfl)) fun e => e (.inl rfl)) (Cnt.zero Bae5 Bc5 (by simp)) B5 fun b5 wb fm fl j => vis_all (fun x hx => ?_) j
  simp only [List.mem_cons, List.not_mem_nil, or_false] at hx
  subst hx
  refine ⟨_, _, [.pointer (some (adr c.w0.heap.size))], _, ap, fun h => ?_, fun h => ?_, Tryz.func78, by kernel_rfl, fun l w1 co vm evs node ev hl hw hk hn => c_In_1 (fun e => Iff.rfl) (fun x hx v hv => Nat.le_trans (typ_W hx hv) hs) hVM hae hl hw hk hn⟩
  ·have : p.block < c.w0.heap.size := hb.m _ h
   omega
  ·have : p.block = cnt ∨ p.block = c.w0.heap.size := h
   omega
 ·rcases hb' with rfl | rfl
  ·exact .inr (Nat.le_refl _)
  ·exact .inr (by omega)
 ·rcases hb' with rfl | rfl
  ·rw [Bc5.type ho]; decide
  ·rw [Bae5.type ho]; decide
 ·obtain ⟨-, n, hn, hk⟩ := hl
  have hs' := selTot_W c.ops c.frags
  have hsm := spN_small (c := { c with V := fun b => b = cnt ∨ b = c.w0.heap.size, St := StK (badIn c) c.w0.heap.size cnt, w0 := w5 }) (ob := obL [(0, p, C)]) rfl rfl rfl h12 h12' (Nat.le_trans hs' hs) (vars_few (c := c) hb.query)
  obtain ⟨k1, k2, k3⟩ := hk (Nat.le_trans (Nat.mul_le_mul_right _ (Nat.le_trans ht.few hsm)) (by decide))
  refine ⟨n, hn, k1, k3.trans ((ht.bad fun e hbad => ?_).trans ?_)⟩
  ·cases e with
   | op s => rfl
   | _ => cases hbad
  ·have hT : ∀ n, badInN c n ↔ (findD types n).2 = true /\ ¬ isInput (findD types n).1.kind := fun n => by
    unfold badInN
    rw [hwd.1]
    show (∃ d, lastN Def.name (preTypes ++ types) n = some d /\ _) ↔ _
    rw [wide_find hO]
    split
    ·rename_i h
     simp [h]
    ·rename_i h
     simp [h]
   constructor
   ·rintro ⟨e, hdoc, hbd⟩
    cases e with
    | op o =>
     obtain ⟨v, hv, hbn⟩ := hbd
     have hox : o ∈ c.ops := by
      rcases hdoc with ⟨x, hx, he⟩ | ⟨x, hx, he⟩
      ·rw [op_op.1 he]; exact hx
      ·exact absurd he op_fr
     exact ⟨baseName v.t, List.mem_flatMap.2 ⟨o, hox, List.mem_map.2 ⟨v, hv, rfl⟩⟩, by rw [<- typeName_base]; exact (hT _).1 hbn⟩
    | _ => cases hbd
   ·rintro ⟨n, hm, hn⟩
    obtain ⟨x, hx, hm⟩ := List.mem_flatMap.1 hm
    obtain ⟨v, hv, rfl⟩ := List.mem_map.1 hm
    exact ⟨.op x, .inl ⟨x, hx, op_op.2 rfl⟩, v, hv, by rw [typeName_base]; exact (hT _).2 hn⟩
theorem c_World_NoInput {k : Nat} {A4 : OA} {L4 C4 : Nat} {A : OA} {L C : Nat} {A3 : OA} {L3 C3 : Nat} {types : List Def} {a : OA} {l c : Nat} {a' : OA} {l' c' : Nat} {ops : List OpD} {frags : List Frag} {w : World} (hB : Blk w k 68 [.slice A4 L4 C4, .slice A L C, .slice A3 L3 C3]) (hT : RDefs w A4 L4 C4 types) (hl : ROps w a l c ops) (hl' : RFrags w a' l' c' frags) (hs : docW ops frags <= 2097152) :
  CP 18 #[.pointer (some (adr k)), .agg #[.slice a l c, .slice a' l' c']] w (RetB w fun b => b = true ↔ ∃ n ∈ varTypesD ops, (findD types n).2 = true /\ ¬ isInput (findD types n).1.kind) := by
 have hx0 := (Ext.refl (X := fun _ => False) w).alloc (.cells #[.slice a l c, .slice a' l' c'] 30)
 refine q_World_NoInput (some (adr k)) a l c a' l' c' w _ ⟨trivial, ?_⟩
 refine (c_varTypes (hl.keep hx0.keep) (Nat.le_trans (vars_W ops frags) hs)).mono ?_
 rintro _ w6 ⟨A7, L7, C7, rfl, x6, hr⟩
 have y6 := hx0.then x6
 obtain ⟨e1, e3⟩ := hr.len
 refine ⟨A7, L7, C7, rfl, ⟨x6.keepT _, trivial⟩, fun i w1 => 0 <= i /\ i <= L7 /\ Ext (fun _ => False) w6 w1 /\ ∀ n ∈ (varTypesD ops).take i.toNat, ¬ ((findD types n).2 = true /\ ¬ isInput (findD types n).1.kind), fun i _ => ((L7 : Int) - i).toNat, ⟨by omega, by omega, Ext.refl w6, by simp⟩, ?_⟩
 rintro i w1 ⟨h0, hi, hx, hn⟩
 refine ⟨fun hlt => ?_, fun hge => ?_⟩
 ·have hlt := of_decide_eq_true hlt
  obtain ⟨p, n, hp, hns, cs, hc, rfl⟩ := hr.get h0 hlt
  have y1 := y6.then hx
  refine ⟨p, hp, ⟨h0, hlt⟩, n, hx.cell hc.1.choose_spec.2 id, ?_⟩
  refine (c_World_Find hc.2.1 ((hB.ext y1 id).at (j := 0) rfl) (hT.keep y1.keep)).mono ?_
  rintro _ w15 ⟨cs, rfl, ⟨b1, m1, d1, b2, m2, d2, b3, m3, d3, b4, m4, d4, b5, m5, d5, rfl, -⟩, -, x15⟩
  have y26 := (hx.then x15).alloc (.cells #[.string (findD types n).1.kind, .string (findD types n).1.doc, .string (findD types n).1.name, .slice b1 m1 d1, .slice b2 m2 d2, .slice b3 m3 d3, .slice b4 m4 d4, .slice b5 m5 d5] 74)
  refine ⟨_, _, _, _, _, _, _, _, _, _, _, _, _, _, _, _, _, _, _, rfl, ⟨x15.keepT _, trivial⟩, trivial, trivial, fun K27 hK27 => ?_⟩
  have key : ∀ (z : Bool) w', Ext (fun _ => False) w6 w' -> (z = true ↔ (findD types n).2 = true /\ ¬ isInput (findD types n).1.kind) -> K27 z w' := by
   intro z w' x' hz
   refine hK27 z w' ⟨fun h => ⟨true, rfl, y6.then x', fun _ => ⟨n, List.mem_of_getElem? hns, hz.1 h⟩, fun _ => rfl⟩, fun h => ?_⟩
   rw [wrap_lt h0 (by omega)]
   refine next h0 hlt ⟨x', take_all_int h0 hn hns fun hbad => ?_⟩
   rw [hz.2 hbad] at h
   cases h
  refine ⟨fun hf => ?_, fun hf => key false _ y26 ⟨nofun, fun h => by rw [h.1] at hf; cases hf⟩⟩
  refine (c_IsInput _ _).mono ?_
  rintro _ w31 ⟨b, rfl, x31, hb⟩
  refine ⟨b, rfl, ⟨x31.keepT _, x31.keepT _, trivial⟩, key (!b) w31 (y26.then x31) ?_⟩
  rw [hf]
  cases b with
  | true =>
   have := hb.1 rfl
   exact ⟨nofun, fun h => absurd this h.2⟩
  | false => exact ⟨fun _ => ⟨rfl, fun h => by cases hb.2 h⟩, fun _ => rfl⟩
 ·have hall := take_end e1 hge hn
  exact ⟨false, rfl, y6.then hx, nofun, fun ⟨n, hm, hb⟩ => absurd hb (hall n hm)⟩
end Go.VC
namespace Go.VC
open Go Go.Proofs
variable [DB]
theorem c_impl_RVariablesAreInputTypes {P : Int -> Prop} {wd : WorldD} {a1 : OA} {l1 c1 : Nat} {a2 : OA} {l2 c2 : Nat} {a6 : OA} {l6 c6 : Nat} {a7 : OA} {l7 c7 : Nat} {q8 : OA} {q8l q8c : Nat} {q9 : OA} {q9l q9c : Nat} {ops : List OpD} {frags : List Frag} {w : World}
  (hw : RWorld w wd [.slice a1 l1 c1, .slice a2 l2 c2, .string wd.query, .string wd.mutation, .string wd.subscription, .slice a6 l6 c6, .slice a7 l7 c7]) (ok3 : ∀ x ∈ wd.dirs, ∀ y ∈ x.args, okArgDef y) (ok4 : ∀ x ∈ wd.types, okDef x)
  (few6 : (pushD wd.types wd.possible).length <= 4194304) (few7 : (pushD wd.types wd.implements).length <= 4194304) (hl1 : ROps w q8 q8l q8c ops) (hl2 : RFrags w q9 q9l q9c frags) (ok1 : ∀ x ∈ ops, okOp x) (ok2 : ∀ x ∈ frags, okFrag x) (hr : RuleOK 40 wd ops frags P) (hB0 : DB.B <= w.heap.size) :
  CP 17 #[.agg #[.slice a1 l1 c1, .slice a2 l2 c2, .string wd.query, .string wd.mutation, .string wd.subscription, .slice a6 l6 c6, .slice a7 l7 c7], .agg #[.slice q8 q8l q8c, .slice q9 q9l q9c]] w fun e w' =>
   ∃ n, e = .returned (.tuple #[.int .i64 n, .bool true]) /\ P n /\ Ext (fun _ => False) w w' := by
 have x11 : Ext (fun _ => False) w (w.alloc (.cells #[.slice a1 l1 c1, .slice a2 l2 c2, .string wd.query, .string wd.mutation, .string wd.subscription, .slice a6 l6 c6, .slice a7 l7 c7] 40)) := (Ext.refl w).alloc _
 have x12 := x11.alloc (.cells #[.slice q8 q8l q8c, .slice q9 q9l q9c] 30)
 refine q_impl_RVariablesAreInputTypes a1 l1 c1 a2 l2 c2 wd.query wd.mutation wd.subscription a6 l6 c6 a7 l7 c7 q8 q8l q8c q9 q9l q9c w _ ⟨trivial, trivial, ?_⟩
 refine (c_impl_found (RWorld.keep x12.keep hw) ok3 ok4 few6 few7 (hl1.keep x12.keep) (hl2.keep x12.keep) ok1 ok2 hr (Nat.le_trans hB0 x12.size)).mono ?_
 rintro _ w' ⟨n, rfl, hp, hx⟩
 exact ⟨n, true, rfl, ⟨hx.keepT _, hx.keepT _, trivial⟩, n, rfl, hp, x12.then hx⟩
theorem c_law_FnRuleInputs {S : List Def -> List RootD -> List OpD -> List Frag -> Prop} (rule : ∀ types dirs defs ops frags, OkSchema types dirs defs -> ops.length <= 12 -> frags.length <= 12 -> (∀ x ∈ ops, okOp x) -> (∀ x ∈ frags, okFrag x) -> docW ops frags <= 2097152 -> RuleOK 40 (wideD types dirs (rootsOf types defs)) ops frags fun n => 0 <= n /\ (n > 0 ↔ S types (rootsOf types defs) ops frags))
  (spec : ∀ {k : Nat} {A4 : OA} {L4 C4 : Nat} {A : OA} {L C : Nat} {A3 : OA} {L3 C3 : Nat} {types : List Def} {dirs : List DirDef} {defs : List SchemaDef} {a : OA} {l c : Nat} {a' : OA} {l' c' : Nat} {ops : List OpD} {frags : List Frag} {w : World}, Blk w k 68 [.slice A4 L4 C4, .slice A L C, .slice A3 L3 C3] -> RDefs w A4 L4 C4 types -> RRoots w A L C (rootsOf types defs) -> OkSchema types dirs defs -> ROps w a l c ops -> RFrags w a' l' c' frags -> (∀ x ∈ ops, okOp x) -> (∀ x ∈ frags, okFrag x) -> docW ops frags <= 2097152 -> ops.length <= 12 -> frags.length <= 12 ->
   CP 18 #[.pointer (some (adr k)), .agg #[.slice a l c, .slice a' l' c']] w (RetB w fun b => b = true ↔ S types (rootsOf types defs) ops frags))
  {d1 : OA} {d1l d1c : Nat} {d2 : OA} {d2l d2c : Nat} {d3 : OA} {d3l d3c : Nat} {d4 : OA} {d4l d4c : Nat} {d5 : OA} {d5l d5c : Nat} {q6 : OA} {q6l q6c : Nat} {q7 : OA} {q7l q7c : Nat} {defs exts : List SchemaDef} {dirs : List DirDef} {types texts : List Def} {ops : List OpD} {frags : List Frag} {w : World}
  (h1 : RSchemaDefs w d1 d1l d1c defs) (h2 : RSchemaDefs w d2 d2l d2c exts) (h3 : RDirDefs w d3 d3l d3c dirs) (h4 : RDefs w d4 d4l d4c types) (h5 : RDefs w d5 d5l d5c texts) (hs : d1l + d2l <= 4194304) (hsp : docW ops frags <= 2097152) (h6 : ROps w q6 q6l q6c ops) (h7 : RFrags w q7 q7l q7c frags) (hB0 : DB.B <= w.heap.size) :
  CP 4 #[.agg #[.slice d1 d1l d1c, .slice d2 d2l d2c, .slice d3 d3l d3c, .slice d4 d4l d4c, .slice d5 d5l d5c], .agg #[.slice q6 q6l q6c, .slice q7 q7l q7c]] w fun e w' => e = .returned (.bool true) /\ Ext (fun _ => False) w w' := by
 have x8 : Ext (fun _ => False) w (w.alloc (.cells #[.slice d1 d1l d1c, .slice d2 d2l d2c, .slice d3 d3l d3c, .slice d4 d4l d4c, .slice d5 d5l d5c] 26)) := (Ext.refl w).alloc _
 have x9 := x8.alloc (.cells #[.slice q6 q6l q6c, .slice q7 q7l q7c] 30)
 refine q_laws_FnRuleInputs d1 d1l d1c d2 d2l d2c d3 d3l d3c d4 d4l d4c d5 d5l d5c q6 q6l q6c q7 q7l q7c w _ ⟨trivial, trivial, fun K10 hK10 => ?_⟩
 have key10 : ∀ b w', Ext (fun _ => False) w w' -> K10 b w' := by
  intro b w' xw
  refine hK10 b w' ⟨fun _ => ⟨rfl, xw⟩, fun _ => ?_⟩
  refine (c_Build (h1.keep xw.keep) (h2.keep xw.keep) (h3.keep xw.keep) (h4.keep xw.keep) (h5.keep xw.keep) hs (Nat.le_trans hB0 xw.size)).mono ?_
  rintro _ w14 ⟨q15, b16, rfl, x14, hok⟩
  refine ⟨q15, b16, rfl, ⟨x14.keepT _, x14.keepT _, trivial⟩, fun K17 hK17 => ?_⟩
  have y14 := xw.then x14
  have key17 : ∀ b w', Ext (fun _ => False) w14 w' -> (b = false -> b16 = true /\ ops.length <= 12 /\ frags.length <= 12 /\ (∀ x ∈ ops, okOp x) /\ (∀ x ∈ frags, okFrag x)) -> K17 b w' := by
   intro b w19 x19 hb
   have y19 := y14.then x19
   refine hK17 b w19 ⟨fun _ => ⟨rfl, y19⟩, fun hbf => ?_⟩
   obtain ⟨hb16, n1, n2, ok1, ok2⟩ := hb hbf
   obtain ⟨k, rfl, A, L, C, hB, hR, hO⟩ := hok hb16
   intro w20 e20
   have x20 : Ext (fun _ => False) w19 w20 := by rw [e20]; exact (Ext.refl w19).drew
   have y20 := y19.then x20
   have z20 := x19.then x20
   refine (c_World_Wide (hB.ext z20 id) (h4.keep y20.keep) (hR.keep z20.keep) (h3.keep y20.keep) hO.few.1 (fun t ht => by have := hO.small t ht; omega) hO.few.2 (Nat.le_trans hB0 y20.size)).mono ?_
   rintro _ w22 ⟨cs, rfl, hW, x22⟩
   obtain ⟨ok3, ok4, few6, few7⟩ := wide_ok hO
   have hW' := hW
   obtain ⟨a1, l1, c1, a2, l2, c2, a6, l6, c6, a7, l7, c7, rfl, -⟩ := hW'
   have y22 := y20.then x22
   refine ⟨a1, l1, c1, a2, l2, c2, _, _, _, a6, l6, c6, a7, l7, c7, rfl, ⟨x22.keepT _, x22.keepT _, trivial⟩, ⟨rfl, trivial⟩, ?_⟩
   refine (c_impl_RVariablesAreInputTypes hW ok3 ok4 few6 few7 (h6.keep y22.keep) (h7.keep y22.keep) ok1 ok2 (rule types dirs defs ops frags hO n1 n2 ok1 ok2 hsp) (Nat.le_trans hB0 y22.size)).mono ?_
   rintro _ w31 ⟨n, rfl, ⟨hn0, hn⟩, x31⟩
   have y31 := y22.then x31
   refine ⟨n, true, rfl, ⟨x31.keepT _, x31.keepT _, trivial⟩, trivial, trivial, trivial, ?_⟩
   have z31 := (z20.then x22).then x31
   refine (spec (hB.ext z31 id) (h4.keep y31.keep) (hR.keep z31.keep) hO (h6.keep y31.keep) (h7.keep y31.keep) ok1 ok2 hsp n1 n2).mono ?_
   rintro _ w35 ⟨b36, rfl, x35, hb36⟩
   have y35 := y31.then x35
   refine ⟨b36, rfl, ⟨x35.keepT _, x35.keepT _, trivial⟩, ?_⟩
   refine (c_laws_told n true b36 w35).mono ?_
   rintro _ w38 ⟨rfl, rfl⟩
   refine ⟨_, rfl, ⟨(Ext.refl _).keepT _, (Ext.refl _).keepT _, trivial⟩, ?_, y35⟩
   rw [told_true hn0 (hn.trans hb36.symm)]
  refine ⟨fun hb => ?_, fun hb => key17 true w14 (Ext.refl w14) nofun⟩
  refine (c_Small (h6.keep y14.keep) (h7.keep y14.keep)).mono ?_
  rintro _ w41 ⟨b42, rfl, x41, hsm⟩
  refine ⟨b42, rfl, ⟨x41.keepT _, x41.keepT _, trivial⟩, key17 _ w41 x41 fun h => ⟨by simpa using hb, hsm (by simpa using h)⟩⟩
 refine (c_laws_zzFits20 d1 d1l d1c d2 d2l d2c d3 d3l d3c d4 d4l d4c d5 d5l d5c _).mono ?_
 rintro _ w44 ⟨b45, rfl, x44, -⟩
 have y44 := x9.then x44
 refine ⟨b45, rfl, ⟨x44.keepT _, x44.keepT _, trivial⟩, fun _ => ?_, fun _ => key10 true w44 y44⟩
 refine (c_laws_zzFits21 q6 q6l q6c q7 q7l q7c _).mono ?_
 rintro _ w47 ⟨b48, rfl, x47, -⟩
 exact ⟨b48, rfl, ⟨x47.keepT _, x47.keepT _, trivial⟩, key10 _ w47 (y44.then x47)⟩
theorem c_FnRuleInputs {d1 : OA} {d1l d1c : Nat} {d2 : OA} {d2l d2c : Nat} {d3 : OA} {d3l d3c : Nat} {d4 : OA} {d4l d4c : Nat} {d5 : OA} {d5l d5c : Nat} {q6 : OA} {q6l q6c : Nat} {q7 : OA} {q7l q7c : Nat} {defs exts : List SchemaDef} {dirs : List DirDef} {types texts : List Def} {ops : List OpD} {frags : List Frag} {w : World}
  (h1 : RSchemaDefs w d1 d1l d1c defs) (h2 : RSchemaDefs w d2 d2l d2c exts) (h3 : RDirDefs w d3 d3l d3c dirs) (h4 : RDefs w d4 d4l d4c types) (h5 : RDefs w d5 d5l d5c texts) (hs : d1l + d2l <= 4194304) (hsp : docW ops frags <= 2097152) (h6 : ROps w q6 q6l q6c ops) (h7 : RFrags w q7 q7l q7c frags) (hB0 : DB.B <= w.heap.size) :
  CP 4 #[.agg #[.slice d1 d1l d1c, .slice d2 d2l d2c, .slice d3 d3l d3c, .slice d4 d4l d4c, .slice d5 d5l d5c], .agg #[.slice q6 q6l q6c, .slice q7 q7l q7c]] w fun e w' => e = .returned (.bool true) /\ Ext (fun _ => False) w w' :=
 c_law_FnRuleInputs (S := fun types _ ops _ => ∃ n ∈ varTypesD ops, (findD types n).2 = true /\ ¬ isInput (findD types n).1.kind) (fun types dirs defs ops frags hO h h2 ok1 ok2 hs => inputsRule types dirs defs ops frags hO h h2 ok1 ok2 hs) (fun hB h4 hR hO h h2 ok1 ok2 hs n1 n2 => c_World_NoInput hB h4 h h2 hs) h1 h2 h3 h4 h5 hs hsp h6 h7 hB0
end Go.VC
