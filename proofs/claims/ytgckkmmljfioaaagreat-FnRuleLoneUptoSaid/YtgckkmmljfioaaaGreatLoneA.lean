/- Part of the proof of a law of a rule over documents (LoneA), where what the arguments hold is of bulk at most 1048576. -/
import Derived.Test.YtgckkmmljfioaaaGreatBaseB
import Derived.Test.YtgckkmmljfioaaaGreatWalkD
import Derived.Test.YtgckkmmljfioaaaGreatLawA
set_option linter.unusedVariables false
set_option linter.unusedSimpArgs false
set_option linter.unusedSectionVars false
set_option linter.deprecated false
namespace Go.VC
open Go Go.Proofs
set_option maxRecDepth 100000
theorem q_rules_LoneAnonymousOperationRule (a : OA) (b : Value) (w : World) (R : EW) (h :
 (b.oneCell' = true /\ True) /\ (let c := w.alloc (.cells #[b] 122);
 CP 72 #[.pointer a, (.func (.func 73) #[] #[(.pointer (some (adr w.heap.size)))])] c (fun d e => d = .returned (.tuple #[]) /\ True /\ R (.returned (.tuple #[])) e))) : CP 40 #[.pointer a, b] w R :=
 vcq Tryz.func40 [] [] [.l (.optr a), .l (.val b)] h
theorem q_rules_LoneAnonymousOperationRule_1 (a : OA) (b : OA) (c : Addr) (w : World) (R : EW) (h :
 ∀ d : Bool -> World -> Prop, (∀ e : Bool, ∀ f : World,
 (((e = true ->
 ∀ g, g = f.drew -> ∃ i : Value, g.cell? c = some i /\ ∃ j, b = some j /\ ∃ k, g.cell? (j.add 6) = some (.pointer k) /\ CP 65 #[(.string (⟨#[84,104,105,115,32,97,110,111,110,121,109,111,117,115,32,111,112,101,114,97,116,105,111,110,32,109,117,115,116,32,98,101,32,116,104,101,32,111,110,108,121,32,100,101,102,105,110,101,100,32,111,112,101,114,97,116,105,111,110,46]⟩ : BA)), .slice none 0 0] g (fun l m => ∃ n : Value, l = .returned n /\ True /\ ((m.cell? (j.add 6) = g.cell? (j.add 6)) /\ (m.cell? c = g.cell? c) /\ True) /\ CP 66 #[.pointer k] m (fun o p => ∃ q : Value, o = .returned q /\ True /\ ((p.cell? c = m.cell? c) /\ True) /\ (n.oneCell' = true /\ q.oneCell' = true /\ True) /\ (let r := p.alloc (.cells #[n, q] 135);
 ((r.cell? c = p.cell? c) /\ True) /\ ∃ s t, i = .func (.func s) #[] t.toArray /\ ∃ u, Tryz.prog.funcs[s]? = some u /\ (u.name == "runtime.NumGoroutine" || u.body.isNone) = false /\ CP s ([(.slice (some (adr p.heap.size)) 2 2)] ++ t).toArray r (fun v x => v = .returned (.tuple #[]) /\ True /\ True /\ R (.returned (.tuple #[])) x))))) /\
 (e = false ->
 R (.returned (.tuple #[])) f))) ->
 d e f) ->
 ∃ y, b = some y /\ ∃ z, w.cell? (y.add 2) = some (.string z) /\ (((z.toList == (⟨#[]⟩ : BA).toList) = true -> ∃ A, a = some A /\ ∃ B, w.cell? (A.add 2) = some (.pointer B) /\ ∃ C, B = some C /\ ∃ D E F, w.cell? C = some (.slice D E F) /\ d (decide ((E : Int) > 1)) w) /\ ((z.toList == (⟨#[]⟩ : BA).toList) = false -> d false w))) : CP 73 #[.pointer a, .pointer b, (.pointer (some c))] w R :=
 vcq Tryz.func73 [] [(0, ⟨[(20, .bool)],[]⟩)] [.l (.optr a), .l (.optr b), .l (.ptr c)] h
theorem q_impl_RLoneAnonymousOperation (a : OA) (b c : Nat) (d : OA) (e f : Nat) (g : BA) (i : BA) (j : BA) (k : OA) (l m : Nat) (n : OA) (o p : Nat) (q : OA) (r s : Nat) (t : OA) (u v : Nat) (w : World) (R : EW) (h :
 True /\ (let x := w.alloc (.cells #[.slice a b c, .slice d e f, .string g, .string i, .string j, .slice k l m, .slice n o p] 40);
 True /\ (let y := x.alloc (.cells #[.slice q r s, .slice t u v] 30);
 CP 31 #[(.agg #[.slice a b c, .slice d e f, .string g, .string i, .string j, .slice k l m, .slice n o p]), (.agg #[.slice q r s, .slice t u v]), (.func (.func 40) #[] #[])] y (fun z A => ∃ B, ∃ C, z = .returned (.tuple #[.int .i64 B, .bool C]) /\ (KeepT 40 y A /\ KeepT 30 y A /\ True) /\ R (.returned (.tuple #[.int .i64 B, .bool C])) A)))) : CP 16 #[(.agg #[.slice a b c, .slice d e f, .string g, .string i, .string j, .slice k l m, .slice n o p]), (.agg #[.slice q r s, .slice t u v])] w R :=
 vcq Tryz.func16 [2, 3] [] [.agg [.slice a b c, .slice d e f, .str g, .str i, .str j, .slice k l m, .slice n o p], .agg [.slice q r s, .slice t u v]] h
theorem q_Lone (a : OA) (b c : Nat) (d : OA) (e f : Nat) (w : World) (R : EW) (h :
 True /\ (let g := w.alloc (.cells #[.slice a b c, .slice d e f] 30);
 ∃ (i : Int -> World -> Prop) (j : Int -> World -> Nat), i 0 g /\
 (∀ k : Int, ∀ l : World, i k l ->
 (((decide (k < (b : Int))) = true ->
 ∃ m, a = some m /\ (0 <= k /\ k < (b : Int)) /\ ∃ n, l.cell? (m.add (k.toNat * 5)) = some (.string n) /\ ∃ o, l.cell? ((m.add (k.toNat * 5)).add 1) = some (.string o) /\ ∃ p q r, l.cell? ((m.add (k.toNat * 5)).add 2) = some (.slice p q r) /\ ∃ s t u, l.cell? ((m.add (k.toNat * 5)).add 3) = some (.slice s t u) /\ ∃ v x y, l.cell? ((m.add (k.toNat * 5)).add 4) = some (.slice v x y) /\ True /\ (let z := l.alloc (.cells #[(.string (⟨#[]⟩ : BA)), (.string (⟨#[]⟩ : BA)), .slice none 0 0, .slice none 0 0, .slice none 0 0] 51);
 True /\ (let A := l.alloc (.cells #[.string n, .string o, .slice p q r, .slice s t u, .slice v x y] 51);
 ∀ B : Bool -> World -> Prop, (∀ C : Bool, ∀ D : World,
 (((C = true ->
 R (.returned (.bool true)) D) /\
 (C = false ->
 (i (IntKind.i64.wrap (k + 1)) D /\ j (IntKind.i64.wrap (k + 1)) D < j k l)))) ->
 B C D) ->
 (((o.toList == (⟨#[]⟩ : BA).toList) = true -> B (decide ((b : Int) > 1)) A) /\ ((o.toList == (⟨#[]⟩ : BA).toList) = false -> B false A))))) /\
 ((decide (k < (b : Int))) = false ->
 R (.returned (.bool false)) l))))) : CP 17 #[(.agg #[.slice a b c, .slice d e f])] w R :=
 vcq Tryz.func17 [1, 4] [(6, ⟨[(8, .int .i64)],[]⟩), (17, ⟨[(20, .bool)],[]⟩)] [.agg [.slice a b c, .slice d e f]] h
theorem q_laws_FnRuleLone (a : OA) (b c : Nat) (d : OA) (e f : Nat) (g : OA) (i j : Nat) (k : OA) (l m : Nat) (n : OA) (o p : Nat) (q : OA) (r s : Nat) (t : OA) (u v : Nat) (w : World) (R : EW) (h :
 True /\ (let x := w.alloc (.cells #[.slice a b c, .slice d e f, .slice g i j, .slice k l m, .slice n o p] 26);
 True /\ (let y := x.alloc (.cells #[.slice q r s, .slice t u v] 30);
 ∀ z : Bool -> World -> Prop, (∀ A : Bool, ∀ B : World,
 (((A = true ->
 R (.returned (.bool true)) B) /\
 (A = false ->
 CP 10 #[(.agg #[.slice a b c, .slice d e f, .slice g i j, .slice k l m, .slice n o p])] B (fun C D => ∃ E, ∃ F, C = .returned (.tuple #[.pointer E, .bool F]) /\ (KeepT 26 B D /\ KeepT 30 B D /\ True) /\ ∀ G : Bool -> World -> Prop, (∀ H : Bool, ∀ I : World,
 (((H = true ->
 R (.returned (.bool true)) I) /\
 (H = false ->
 ∀ J, J = I.drew -> CP 13 #[.pointer E] J (fun K L => ∃ M N O, ∃ P Q S, ∃ U, ∃ V, ∃ W, ∃ X Y Z, ∃ aa ab ac, K = .returned (.agg #[.slice M N O, .slice P Q S, .string U, .string V, .string W, .slice X Y Z, .slice aa ab ac]) /\ (KeepT 26 J L /\ KeepT 30 J L /\ True) /\ ((0 = 0) /\ True) /\ CP 16 #[(.agg #[.slice M N O, .slice P Q S, .string U, .string V, .string W, .slice X Y Z, .slice aa ab ac]), (.agg #[.slice q r s, .slice t u v])] L (fun ad ae => ∃ af, ∃ ag, ad = .returned (.tuple #[.int .i64 af, .bool ag]) /\ (KeepT 26 L ae /\ KeepT 30 L ae /\ True) /\ True /\ True /\ True /\ CP 17 #[(.agg #[.slice q r s, .slice t u v])] ae (fun ah ai => ∃ aj, ah = .returned (.bool aj) /\ (KeepT 26 ae ai /\ KeepT 30 ae ai /\ True) /\ CP 14 #[.int .i64 af, .bool ag, .bool aj] ai (fun ak al => ∃ am, ak = .returned (.bool am) /\ (KeepT 26 ai al /\ KeepT 30 ai al /\ True) /\ R (.returned (.bool am)) al))))))) ->
 G H I) ->
 (((!F) = false -> CP 11 #[(.agg #[.slice q r s, .slice t u v])] D (fun an ao => ∃ ap, an = .returned (.bool ap) /\ (KeepT 26 D ao /\ KeepT 30 D ao /\ True) /\ G (!ap) ao)) /\ ((!F) = true -> G true D)))))) ->
 z A B) ->
 CP 8 #[(.agg #[.slice a b c, .slice d e f, .slice g i j, .slice k l m, .slice n o p])] y (fun aq ar => ∃ au, aq = .returned (.bool au) /\ (KeepT 26 y ar /\ KeepT 30 y ar /\ True) /\ (((!au) = false -> CP 9 #[(.agg #[.slice q r s, .slice t u v])] ar (fun av ax => ∃ ay, av = .returned (.bool ay) /\ (KeepT 26 ar ax /\ KeepT 30 ar ax /\ True) /\ z (!ay) ax)) /\ ((!au) = true -> z true ar)))))) : CP 4 #[(.agg #[.slice a b c, .slice d e f, .slice g i j, .slice k l m, .slice n o p]), (.agg #[.slice q r s, .slice t u v])] w R :=
 vcq Tryz.func4 [2, 3] [(3, ⟨[(16, .bool)],[]⟩), (13, ⟨[(28, .bool)],[]⟩)] [.agg [.slice a b c, .slice d e f, .slice g i j, .slice k l m, .slice n o p], .agg [.slice q r s, .slice t u v]] h
end Go.VC
namespace Go.VC
open Go Go.Proofs
set_option maxRecDepth 100000
theorem q_core_Events_OnOperation (a : OA) (b : Value) (w : World) (R : EW) (h :
 ∃ c, a = some c /\ ∃ d e f, w.cell? c = some (.slice d e f) /\ (b.oneCell' = true /\ True) /\ (let g := w.alloc (.cells #[b] 169);
 ∃ i j k, ∃ l, (Go.builtin .append #[108, 108] 108 #[false, false] #[.slice d e f, (.slice (some (adr w.heap.size)) 1 1)]).run Tryz.prog g = .ok (.value (.slice i j k)) l /\ True /\ ∃ m, a = some m /\ Off l m 1 [] /\ True /\ (let n := (l.setCell m (.slice i j k));
 R (.returned (.tuple #[])) n))) : CP 72 #[.pointer a, b] w R :=
 vcq Tryz.func72 [] [] [.l (.optr a), .l (.val b)] h
end Go.VC
namespace Go.VC
open Go Go.Proofs
variable [DB]
theorem c_core_Events_OnOperation {eb : Nat} {f : Value} {cs : List Value} {w : World} (hf : smallV f) (hB : Blk w eb 118 (.slice none 0 0 :: cs)) :
  CP 72 #[.pointer (some (adr eb)), f] w fun e w' => e = .returned (.tuple #[]) /\ ∃ (p : Addr) (C : Nat), Blk w' eb 118 (.slice (some p) 1 C :: cs) /\ At w' 169 p f /\ w.heap.size <= p.block /\ Ext (fun b => b = eb) w w' := by
 obtain ⟨p, C, w7, r7, ha, hp, hx, -⟩ := on_append 108 169 Tryz.t169 _ _ (by kernel_rfl) (by kernel_rfl) rfl (by kernel_rfl) rfl (by kernel_rfl) (by decide) (w := w) hf 108 #[false, false]
 have hB7 := hB.ext hx id
 have hlt := hB.lt
 have hs : Ext (fun b => b = eb) w7 (w7.setCell ⟨eb, 0, none⟩ (.slice (some p) 1 C)) := Ext.setCell (X := fun b => b = eb) (Ext.refl _) (a := ⟨eb, 0, none⟩) (.inl rfl) _
 refine q_core_Events_OnOperation (some (adr eb)) f w _ ⟨adr eb, rfl, none, 0, 0, (hB.at (j := 0) rfl).cell, ⟨hf.one, trivial⟩, some p, 1, C, w7, r7, trivial, adr eb, rfl, hB7.off (j := 0) (n := 1) (q := fun _ => false) (by simp) rfl, trivial, rfl, p, C, hB7.set 0 _, hs.at (by show ¬ p.block = eb; omega) ha, hp, (hx.toM _).trans hs fun _ _ e => e⟩
end Go.VC
namespace Go.VC
open Go Go.Proofs
variable [DB]
def badLone (ops : List OpD) : Ev -> Prop
 | .op o => o.name = E0 /\ 1 < ops.length
 | _ => False
abbrev StLone (ops : List OpD) (ae cnt : Nat) (l : List Ev) (w : World) : Prop := Cnt ae cnt l.length (∃ e ∈ l, badLone ops e) w
theorem ex_snoc {α : Type} {P : α -> Prop} {l : List α} {x : α} : (∃ e ∈ l ++ [x], P e) ↔ (∃ e ∈ l, P e) ∨ P x := by
 constructor
 ·rintro ⟨e, he, h⟩
  rcases List.mem_append.1 he with he | he
  ·exact .inl ⟨e, he, h⟩
  ·obtain rfl : e = x := by simpa using he
   exact .inr h
 ·rintro (⟨e, he, h⟩ | h)
  ·exact ⟨e, by simp [he], h⟩
  ·exact ⟨x, by simp, h⟩
theorem c_Lone_1 {c : WCtx} {ae cnt : Nat} {l : List Ev} {w : World} {co : OA} {vm : Nat} {evs : List Value} {node : Value} {ev : Ev} (hq : PQuery c.M c.w0 c.ops c.frags c.qb) (hne : ae ≠ cnt) (hc : StLone c.ops ae cnt l w) (hw : Wst c co vm evs w) (hk : isOp ev = true) (hn : evNode c w node ev) :
  CP 73 #[.pointer (some (adr c.wb)), node, .pointer (some (adr ae))] w fun e w' => e = .returned (.tuple #[]) /\ Ext (fun b => b = cnt ∨ b = ae) w w' /\ StLone c.ops ae cnt (l ++ [ev]) w' := by
 cases ev with
 | frag f => cases hk
 | spread n f => cases hk
 | op o =>
  obtain ⟨b, rfl, hp, ho⟩ := hn
  obtain ⟨A1, L1, C1, A2, L2, C2, A3, L3, C3, pos, hM, hB, -⟩ := hp
  obtain ⟨Q1, QL1, QC1, Q2, QL2, QC2, posq, hMq, hBq, hops, -⟩ := hq
  have hlen := hops.1
  refine q_rules_LoneAnonymousOperationRule_1 (some (adr c.wb)) (some (adr b)) (adr ae) w _ fun K4 hK4 => ?_
  have key : ∀ z : Bool, (z = true ↔ badLone c.ops (.op o)) -> K4 z w := by
   intro z hz
   refine hK4 z w ⟨fun h => ?_, fun h => ⟨rfl, Ext.refl w, Cnt.skip hc (by simp) ⟨fun k => ex_snoc.2 (.inl k), fun k => (ex_snoc.1 k).elim id fun hb => absurd (hz.2 hb) (by rw [h]; decide)⟩⟩⟩
   intro w7 e7
   have x7 : Ext (fun _ => False) w w7 := by rw [e7]; exact (Ext.refl w).drew
   have c7 := Cnt.ext hc x7 id id
   have a7 := (hw.wk.trans (Wk.ofExt x7 fun _ _ => id)).at (a := ⟨b, 6, none⟩) hM (hB.at (j := 6) rfl) rfl
   refine ⟨_, (c7.1.at (j := 0) rfl).cell, adr b, rfl, pos, a7.cell, tell0 c7 a7 hne rfl fun w' x' c' => ⟨rfl, (x7.toM _).trans x' fun _ _ e => e, Cnt.skip c' (by simp) ?_⟩⟩
   exact ⟨fun _ => ⟨.op o, by simp, hz.1 h⟩, fun _ => trivial⟩
  refine ⟨adr b, rfl, o.name, hw.wk.nd hM hB (j := 2) rfl rfl, fun he => ?_, fun hne' => key false ⟨nofun, fun hb => absurd hb.1 (bytes_beq_f.1 hne')⟩⟩
  refine ⟨adr c.wb, rfl, _, (hw.walker.at (j := 2) rfl).cell, adr c.qb, rfl, Q1, QL1, QC1, hw.wk.nd hMq hBq (j := 0) rfl rfl, key _ ?_⟩
  rw [hlen]
  have he := bytes_beq_t.1 he
  simp [badLone, he]
  omega
theorem loneRule (ops : List OpD) (frags : List Frag) (h12 : ops.length <= 12) : RuleOK 40 ops frags fun n => 0 <= n /\ (n > 0 ↔ ∃ x ∈ ops, x.name = E0 /\ 1 < ops.length) := by
 refine ⟨⟨_, Tryz.func40, by kernel_rfl⟩, ?_⟩
 intro c cnt hops hfrags hb hB hcnt hne hMc hMe
 subst hops
 have x3 : Ext (fun _ => False) c.w0 (c.w0.alloc (.cells #[.func (.func 61) #[] #[.pointer (some (adr cnt))]] 122)) := (Ext.refl c.w0).alloc _
 have Bae := Blk.made c.w0 122 [.func (.func 61) #[] #[.pointer (some (adr cnt))]]
 refine q_rules_LoneAnonymousOperationRule (some (adr c.eb)) _ c.w0 _ ⟨⟨rfl, trivial⟩, ?_⟩
 have hlc := hcnt.lt
 have hle := hB.lt
 generalize hw3 : c.w0.alloc (.cells #[.func (.func 61) #[] #[.pointer (some (adr cnt))]] 122) = w3
 replace x3 : Ext (fun _ => False) c.w0 w3 := by rw [<- hw3]; exact x3
 replace Bae : Blk w3 c.w0.heap.size 122 [.func (.func 61) #[] #[.pointer (some (adr cnt))]] := by rw [<- hw3]; exact Bae
 clear hw3
 have hla := Bae.lt
 refine (c_core_Events_OnOperation (f := .func (.func 73) #[] #[.pointer (some (adr c.w0.heap.size))]) rfl (hB.ext x3 id)).mono ?_
 rintro _ w5 ⟨rfl, p, C, B5, ap, hpb, x5⟩
 have y5 : Ext (fun b => b = c.eb) c.w0 w5 := (x3.toM _).trans x5 fun _ _ e => e
 have hz5 := x5.size
 have hz3 := x3.size
 have hae : c.w0.heap.size ≠ cnt := by omega
 have Bae5 := Bae.ext x5 (by show ¬ c.w0.heap.size = c.eb; omega)
 have Bc5 := hcnt.ext y5 hne
 refine ⟨rfl, trivial, rfl, y5, fun b => b = cnt ∨ b = c.w0.heap.size, StLone c.ops c.w0.heap.size cnt, ⟨some p, 1, C, true, none, 0, 0, false, none, 0, 0, false⟩, ?_, fun b hb' => ?_, fun b hb' T cs fr ho => ?_, fun l w'' hl ht => ?_⟩
 ·refine rule_one hb hMe y5 (fun b hb' => hb'.imp id fun e => by omega) hlc hne hMc hle (fun l w w'' h hx => Cnt.ext h hx (fun e => e (.inr rfl)) fun e => e (.inl rfl)) (Cnt.zero Bae5 Bc5 (by simp)) B5 fun b5 wb fm fl => ⟨vis_one (cap := [.pointer (some (adr c.w0.heap.size))]) ap (fun h => ?_) (fun h => ?_) Tryz.func73 (by kernel_rfl) fun l w1 co vm evs node ev hl hw hk hn => c_Lone_1 b5.query hae hl hw hk hn, .inl ⟨rfl, rfl⟩, .inl ⟨rfl, rfl⟩⟩
  ·have : p.block < c.w0.heap.size := hb.m _ h
   omega
  ·have : p.block = cnt ∨ p.block = c.w0.heap.size := h
   omega
 ·rcases hb' with rfl | rfl
  ·exact .inr (Nat.le_refl _)
  ·exact .inr (by omega)
 ·rcases hb' with rfl | rfl
  ·rw [Bc5.type ho]; decide
  ·rw [Bae5.type ho]; decide
 ·obtain ⟨-, n, hn, hk⟩ := hl
  have hl : l = c.ops.map Ev.op := by
   rw [ht.exact rfl]
   have h1 : ∀ xs : List OpD, (xs.flatMap fun x => em true (.op x)) = xs.map Ev.op := fun xs => by
    induction xs with
    | nil => rfl
    | cons x xs ih => rw [List.flatMap_cons, ih]; rfl
   have h2 : ∀ xs : List Frag, (xs.flatMap fun x => em false (.frag x)) = [] := fun xs => by simp [em]
   rw [h1, h2, List.append_nil]
  obtain ⟨k1, k2, k3⟩ := hk (by rw [hl]; simp; omega)
  refine ⟨n, hn, k1, k3.trans ?_⟩
  rw [hl]
  constructor
  ·rintro ⟨e, he, hb'⟩
   obtain ⟨x, hx, rfl⟩ := List.mem_map.1 he
   exact ⟨x, hx, hb'⟩
  ·rintro ⟨x, hx, hb'⟩
   exact ⟨_, List.mem_map.2 ⟨x, hx, rfl⟩, hb'⟩
end Go.VC
namespace Go.VC
open Go Go.Proofs
variable [DB]
theorem c_Lone {a : OA} {l c : Nat} {a' : OA} {l' c' : Nat} {ops : List OpD} {frags : List Frag} {w : World} (hl : ROps w a l c ops) (hl' : RFrags w a' l' c' frags) :
  CP 17 #[.agg #[.slice a l c, .slice a' l' c']] w (RetB w fun b => b = true ↔ ∃ x ∈ ops, x.name = E0 /\ 1 < ops.length) := by
 obtain ⟨e1, e3⟩ := hl.len
 have hx0 := (Ext.refl (X := fun _ => False) w).alloc (.cells #[.slice a l c, .slice a' l' c'] 30)
 refine q_Lone a l c a' l' c' w _ ⟨trivial, fun i w1 => 0 <= i /\ i <= l /\ Ext (fun _ => False) w w1 /\ ∀ x ∈ ops.take i.toNat, ¬ (x.name = E0 /\ 1 < ops.length), fun i _ => ((l : Int) - i).toNat, ⟨by omega, by omega, hx0, by simp⟩, ?_⟩
 rintro i w7 ⟨h0, hi, hx, hno⟩
 refine ⟨fun hlt => ?_, fun hge => ?_⟩
 ·have hlt := of_decide_eq_true hlt
  obtain ⟨p, x, hp, hxs, cs, hc, a1, l1, c1, a2, l2, c2, a3, l3, c3, rfl, hv1, hv2, hv3⟩ := hl.get h0 hlt
  obtain ⟨⟨_, _, hc0⟩, hs0, ⟨_, _, hc1⟩, hs1, ⟨_, _, hc2⟩, hs2, ⟨_, _, hc3⟩, hs3, ⟨_, _, hc4⟩, -⟩ := hc
  refine ⟨p, hp, ⟨h0, hlt⟩, _, hx.cell hc0 id, _, hx.cell hc1 id, _, _, _, hx.cell hc2 id, _, _, _, hx.cell hc3 id, _, _, _, hx.cell hc4 id, trivial, trivial, fun K16 hK16 => ?_⟩
  have hx' := hx.alloc (.cells #[.string x.kind, .string x.name, .slice a1 l1 c1, .slice a2 l2 c2, .slice a3 l3 c3] 51)
  have key : ∀ b : Bool, (b = true ↔ x.name = E0 /\ 1 < ops.length) -> K16 b (w7.alloc (.cells #[.string x.kind, .string x.name, .slice a1 l1 c1, .slice a2 l2 c2, .slice a3 l3 c3] 51)) := by
   intro b hb
   refine hK16 b _ ⟨fun h => ⟨true, rfl, hx', by simpa using ⟨x, List.mem_of_getElem? hxs, hb.1 h⟩⟩, fun h => ?_⟩
   rw [wrap_lt h0 (by omega)]
   refine next h0 hlt ⟨hx', fun y hy => ?_⟩
   rw [show (i + 1).toNat = i.toNat + 1 by omega, List.take_succ, hxs] at hy
   rcases List.mem_append.1 hy with hy | hy
   ·exact hno y hy
   ·obtain rfl : y = x := by simpa using hy
    intro hbad
    rw [hb.2 hbad] at h
    cases h
  refine ⟨fun he => key _ ?_, fun hne => key false ⟨nofun, fun hb => absurd hb.1 (bytes_beq_f.1 hne)⟩⟩
  have he := bytes_beq_t.1 he
  simp only [decide_eq_true_eq]
  exact ⟨fun h => ⟨he, by omega⟩, fun h => by omega⟩
 ·have hle := of_decide_eq_false hge
  rw [List.take_of_length_le (by omega)] at hno
  exact ⟨false, rfl, hx, ⟨nofun, fun ⟨x, hx, hb⟩ => absurd hb (hno x hx)⟩⟩
theorem c_impl_RLoneAnonymousOperation {P : Int -> Prop} {wd : WorldD} {a1 : OA} {l1 c1 : Nat} {a2 : OA} {l2 c2 : Nat} {a6 : OA} {l6 c6 : Nat} {a7 : OA} {l7 c7 : Nat} {q8 : OA} {q8l q8c : Nat} {q9 : OA} {q9l q9c : Nat} {ops : List OpD} {frags : List Frag} {w : World}
  (hw : RWorld w wd [.slice a1 l1 c1, .slice a2 l2 c2, .string wd.query, .string wd.mutation, .string wd.subscription, .slice a6 l6 c6, .slice a7 l7 c7]) (ok3 : ∀ x ∈ wd.dirs, ∀ y ∈ x.args, okArgDef y) (ok4 : ∀ x ∈ wd.types, okDef x)
  (few6 : (pushD wd.types wd.possible).length <= 4194304) (few7 : (pushD wd.types wd.implements).length <= 4194304) (hl1 : ROps w q8 q8l q8c ops) (hl2 : RFrags w q9 q9l q9c frags) (ok1 : ∀ x ∈ ops, okOp x) (ok2 : ∀ x ∈ frags, okFrag x) (hr : RuleOK 40 ops frags P) (hB0 : DB.B <= w.heap.size) :
  CP 16 #[.agg #[.slice a1 l1 c1, .slice a2 l2 c2, .string wd.query, .string wd.mutation, .string wd.subscription, .slice a6 l6 c6, .slice a7 l7 c7], .agg #[.slice q8 q8l q8c, .slice q9 q9l q9c]] w fun e w' =>
   ∃ n, e = .returned (.tuple #[.int .i64 n, .bool true]) /\ P n /\ Ext (fun _ => False) w w' := by
 have x11 : Ext (fun _ => False) w (w.alloc (.cells #[.slice a1 l1 c1, .slice a2 l2 c2, .string wd.query, .string wd.mutation, .string wd.subscription, .slice a6 l6 c6, .slice a7 l7 c7] 40)) := (Ext.refl w).alloc _
 have x12 := x11.alloc (.cells #[.slice q8 q8l q8c, .slice q9 q9l q9c] 30)
 refine q_impl_RLoneAnonymousOperation a1 l1 c1 a2 l2 c2 wd.query wd.mutation wd.subscription a6 l6 c6 a7 l7 c7 q8 q8l q8c q9 q9l q9c w _ ⟨trivial, trivial, ?_⟩
 refine (c_impl_found (RWorld.keep x12.keep hw) ok3 ok4 few6 few7 (hl1.keep x12.keep) (hl2.keep x12.keep) ok1 ok2 hr (Nat.le_trans hB0 x12.size)).mono ?_
 rintro _ w' ⟨n, rfl, hp, hx⟩
 exact ⟨n, true, rfl, ⟨hx.keepT _, hx.keepT _, trivial⟩, n, rfl, hp, x12.then hx⟩
theorem c_law_FnRuleLone {S : List OpD -> List Frag -> Prop} (rule : ∀ ops frags, ops.length <= 12 -> frags.length <= 12 -> (∀ x ∈ ops, okOp x) -> (∀ x ∈ frags, okFrag x) -> spTot ops frags <= 2097152 -> True -> RuleOK 40 ops frags fun n => 0 <= n /\ (n > 0 ↔ S ops frags))
  (spec : ∀ {a : OA} {l c : Nat} {a' : OA} {l' c' : Nat} {ops : List OpD} {frags : List Frag} {w : World}, ROps w a l c ops -> RFrags w a' l' c' frags -> ops.length <= 12 -> frags.length <= 12 -> (∀ x ∈ ops, okOp x) -> (∀ x ∈ frags, okFrag x) -> spTot ops frags <= 2097152 -> True -> CP 17 #[.agg #[.slice a l c, .slice a' l' c']] w (RetB w fun b => b = true ↔ S ops frags))
  {d1 : OA} {d1l d1c : Nat} {d2 : OA} {d2l d2c : Nat} {d3 : OA} {d3l d3c : Nat} {d4 : OA} {d4l d4c : Nat} {d5 : OA} {d5l d5c : Nat} {q6 : OA} {q6l q6c : Nat} {q7 : OA} {q7l q7c : Nat} {defs exts : List SchemaDef} {dirs : List DirDef} {types texts : List Def} {ops : List OpD} {frags : List Frag} {w : World}
  (h1 : RSchemaDefs w d1 d1l d1c defs) (h2 : RSchemaDefs w d2 d2l d2c exts) (h3 : RDirDefs w d3 d3l d3c dirs) (h4 : RDefs w d4 d4l d4c types) (h5 : RDefs w d5 d5l d5c texts) (hs : d1l + d2l <= 4194304) (hsp : spTot ops frags <= 2097152) (h6 : ROps w q6 q6l q6c ops) (h7 : RFrags w q7 q7l q7c frags) (hB0 : DB.B <= w.heap.size) :
  CP 4 #[.agg #[.slice d1 d1l d1c, .slice d2 d2l d2c, .slice d3 d3l d3c, .slice d4 d4l d4c, .slice d5 d5l d5c], .agg #[.slice q6 q6l q6c, .slice q7 q7l q7c]] w fun e w' => e = .returned (.bool true) /\ Ext (fun _ => False) w w' := by
 have x8 : Ext (fun _ => False) w (w.alloc (.cells #[.slice d1 d1l d1c, .slice d2 d2l d2c, .slice d3 d3l d3c, .slice d4 d4l d4c, .slice d5 d5l d5c] 26)) := (Ext.refl w).alloc _
 have x9 := x8.alloc (.cells #[.slice q6 q6l q6c, .slice q7 q7l q7c] 30)
 refine q_laws_FnRuleLone d1 d1l d1c d2 d2l d2c d3 d3l d3c d4 d4l d4c d5 d5l d5c q6 q6l q6c q7 q7l q7c w _ ⟨trivial, trivial, fun K10 hK10 => ?_⟩
 have key10 : ∀ b w', Ext (fun _ => False) w w' -> K10 b w' := by
  intro b w' xw
  refine hK10 b w' ⟨fun _ => ⟨rfl, xw⟩, fun _ => ?_⟩
  refine (c_Build (h1.keep xw.keep) (h2.keep xw.keep) (h3.keep xw.keep) (h4.keep xw.keep) (h5.keep xw.keep) hs (Nat.le_trans hB0 xw.size)).mono ?_
  rintro _ w14 ⟨q15, b16, rfl, x14, hok⟩
  refine ⟨q15, b16, rfl, ⟨x14.keepT _, x14.keepT _, trivial⟩, fun K17 hK17 => ?_⟩
  have y14 := xw.then x14
  have key17 : ∀ b w', Ext (fun _ => False) w14 w' -> (b = false -> b16 = true /\ ops.length <= 12 /\ frags.length <= 12 /\ (∀ x ∈ ops, okOp x) /\ (∀ x ∈ frags, okFrag x) /\ True) -> K17 b w' := by
   intro b w19 x19 hb
   have y19 := y14.then x19
   refine hK17 b w19 ⟨fun _ => ⟨rfl, y19⟩, fun hbf => ?_⟩
   obtain ⟨hb16, n1, n2, ok1, ok2, nl⟩ := hb hbf
   obtain ⟨k, rfl, A, L, C, hB, hR, hO⟩ := hok hb16
   intro w20 e20
   have x20 : Ext (fun _ => False) w19 w20 := by rw [e20]; exact (Ext.refl w19).drew
   have y20 := y19.then x20
   have z20 := x19.then x20
   refine (c_World_Wide (hB.ext z20 id) (h4.keep y20.keep) (hR.keep z20.keep) (h3.keep y20.keep) hO.few.1 (fun t ht => by have := hO.small t ht; omega) hO.few.2 (Nat.le_trans hB0 y20.size)).mono ?_
   rintro _ w22 ⟨cs, rfl, hW, x22⟩
   obtain ⟨ok3, ok4, few6, few7⟩ := wide_ok hO
   have hW' := hW
   obtain ⟨a1, l1, c1, a2, l2, c2, a6, l6, c6, a7, l7, c7, rfl, -⟩ := hW'
   have y22 := y20.then x22
   refine ⟨a1, l1, c1, a2, l2, c2, _, _, _, a6, l6, c6, a7, l7, c7, rfl, ⟨x22.keepT _, x22.keepT _, trivial⟩, ⟨rfl, trivial⟩, ?_⟩
   refine (c_impl_RLoneAnonymousOperation hW ok3 ok4 few6 few7 (h6.keep y22.keep) (h7.keep y22.keep) ok1 ok2 (rule ops frags n1 n2 ok1 ok2 hsp nl) (Nat.le_trans hB0 y22.size)).mono ?_
   rintro _ w31 ⟨n, rfl, ⟨hn0, hn⟩, x31⟩
   have y31 := y22.then x31
   refine ⟨n, true, rfl, ⟨x31.keepT _, x31.keepT _, trivial⟩, trivial, trivial, trivial, ?_⟩
   refine (spec (h6.keep y31.keep) (h7.keep y31.keep) n1 n2 ok1 ok2 hsp nl).mono ?_
   rintro _ w35 ⟨b36, rfl, x35, hb36⟩
   have y35 := y31.then x35
   refine ⟨b36, rfl, ⟨x35.keepT _, x35.keepT _, trivial⟩, ?_⟩
   refine (c_laws_told n true b36 w35).mono ?_
   rintro _ w38 ⟨rfl, rfl⟩
   refine ⟨_, rfl, ⟨(Ext.refl _).keepT _, (Ext.refl _).keepT _, trivial⟩, ?_, y35⟩
   rw [told_true hn0 (hn.trans hb36.symm)]
  refine ⟨fun hb => ?_, fun hb => key17 true w14 (Ext.refl w14) nofun⟩
  refine (c_Small (h6.keep y14.keep) (h7.keep y14.keep)).mono ?_
  rintro _ w41 ⟨b42, rfl, x41, hsm⟩
  refine ⟨b42, rfl, ⟨x41.keepT _, x41.keepT _, trivial⟩, key17 _ w41 x41 fun h => ⟨by simpa using hb, (hsm (by simpa using h)).1, (hsm (by simpa using h)).2.1, (hsm (by simpa using h)).2.2.1, (hsm (by simpa using h)).2.2.2, trivial⟩⟩
 refine (c_laws_zzFits20 d1 d1l d1c d2 d2l d2c d3 d3l d3c d4 d4l d4c d5 d5l d5c _).mono ?_
 rintro _ w44 ⟨b45, rfl, x44, -⟩
 have y44 := x9.then x44
 refine ⟨b45, rfl, ⟨x44.keepT _, x44.keepT _, trivial⟩, fun _ => ?_, fun _ => key10 true w44 y44⟩
 refine (c_laws_zzFits21 q6 q6l q6c q7 q7l q7c _).mono ?_
 rintro _ w47 ⟨b48, rfl, x47, -⟩
 exact ⟨b48, rfl, ⟨x47.keepT _, x47.keepT _, trivial⟩, key10 _ w47 (y44.then x47)⟩
theorem c_FnRuleLone {d1 : OA} {d1l d1c : Nat} {d2 : OA} {d2l d2c : Nat} {d3 : OA} {d3l d3c : Nat} {d4 : OA} {d4l d4c : Nat} {d5 : OA} {d5l d5c : Nat} {q6 : OA} {q6l q6c : Nat} {q7 : OA} {q7l q7c : Nat} {defs exts : List SchemaDef} {dirs : List DirDef} {types texts : List Def} {ops : List OpD} {frags : List Frag} {w : World}
  (h1 : RSchemaDefs w d1 d1l d1c defs) (h2 : RSchemaDefs w d2 d2l d2c exts) (h3 : RDirDefs w d3 d3l d3c dirs) (h4 : RDefs w d4 d4l d4c types) (h5 : RDefs w d5 d5l d5c texts) (hs : d1l + d2l <= 4194304) (hsp : spTot ops frags <= 2097152) (h6 : ROps w q6 q6l q6c ops) (h7 : RFrags w q7 q7l q7c frags) (hB0 : DB.B <= w.heap.size) :
  CP 4 #[.agg #[.slice d1 d1l d1c, .slice d2 d2l d2c, .slice d3 d3l d3c, .slice d4 d4l d4c, .slice d5 d5l d5c], .agg #[.slice q6 q6l q6c, .slice q7 q7l q7c]] w fun e w' => e = .returned (.bool true) /\ Ext (fun _ => False) w w' :=
 c_law_FnRuleLone (S := fun ops _ => ∃ x ∈ ops, x.name = E0 /\ 1 < ops.length) (fun ops frags h _ _ _ _ _ => loneRule ops frags h) (fun h h' _ _ _ _ _ _ => c_Lone h h') h1 h2 h3 h4 h5 hs hsp h6 h7 hB0
end Go.VC
