import PyProof.Rows.All
import Wide.All
import OpenK.AllK
import Wide.FinOn
import KE.LcSums
import KE.KBoundM
import KE.KStar
import KE.KFromBytes
import KE.KDictIter
import PySem.Challenge.RW_il0092_02
set_option maxRecDepth 1000000
set_option Elab.async false
set_option maxHeartbeats 4000000
set_option genSizeOf false
set_option bootstrap.genMatcherCode false
set_option genInjectivity false
set_option linter.all false
local macro_rules | `(tactic| omega) => `(tactic| first | assumption | exact Mine.o1 | exact Mine.o2 | exact Mine.o3 | exact Mine.o4 | exact Mine.o5 | exact Mine.o6 | exact Mine.p1 | exact Mine.p2 | exact Mine.p3 | exact Mine.p4 | exact Mine.p5 | exact Mine.p6 | exact Mine.p7 | exact Mine.p8 | exact Mine.p9 | lia)
namespace Mine
open PySem PySem.Spec PySem.Calls PyProof.Rows PySem.W
open Lean in
def aT (k : Name) (a : String) (l : List Syntax) : Syntax := .node .none k (mkAtom a :: l).toArray
open Lean in
def aN (l : List Syntax) : Syntax := .node .none `Lean.Parser.Tactic.tacticSeq #[.node .none `Lean.Parser.Tactic.tacticSeq1Indented #[.node .none `null l.toArray]]
open Lean in
def aX (n : Name) : Syntax := aN [aT `Lean.Parser.Tactic.exact "exact" [mkIdent n]]
open Lean in
def aY (a b : Syntax) : Syntax := aN [a, mkAtom ";", b]
def aT0 := aT `Lean.Parser.Tactic.tacticRfl "rfl" []
def aT1 := aT `tacticKernel_rfl "kernel_rfl" []
def aT2 := aT `Lean.Parser.Tactic.intros "intros" [.node .none `null #[]]
def aR := aN [aT0]
def aI := aY aT2 aT0
def aJ := aY aT2 aT1
def aU := aY aT2 (aT `Lean.Parser.Tactic.withUnfoldingAll "with_unfolding_all" [aR])
def aE := aX `PySem.PassesOwn.never
def aF := aX `Mine.eF0
def aG := aX `Mine.eG0
def aH := aX `Mine.eH0
def aA := aN [aT `Lean.Parser.Tactic.assumption "assumption" []]
def aD := aN [aT `Lean.Parser.Tactic.decide "decide" [.node .none `Lean.Parser.Tactic.optConfig #[.node .none `null #[]]]]
def aC := aN [aT `Lean.Parser.Tactic.constructor "constructor" []]
def aM := aN [aT `tacticMul_fits "mul_fits" []]
def aK := aN [aT1]
theorem eH0 {P : Prop} : false = true -> P := nofun
theorem eF0 {β : Type} {b : β} : ∃ L, some b = some L := ⟨_, rfl⟩
theorem eG0 {β : Type _} {l : List β} : ∃ l', List.Sublist l' l /\ True := ⟨[], List.nil_sublist _, trivial⟩
section
variable {α β : Type} {a b : α} {l l' : List α} {M : Model} {A : Around} {E E' : Value -> Shared -> Prop} {s : Shared} {t : Sem α} {Q Q' : α -> Shared -> Prop}
theorem lS (h : a ∈ [b]) : a = b := List.mem_singleton.mp h
theorem lC (h : a ∈ b :: l) : a = b \/ a ∈ l := List.mem_cons.mp h
theorem lA (h : a ∈ l ++ l') : a ∈ l \/ a ∈ l' := List.mem_append.mp h
theorem lR (l : List α) (h : a ∈ l') : a ∈ l ++ l' := List.mem_append_right l h
theorem lL (l' : List α) (h : a ∈ l) : a ∈ l ++ l' := List.mem_append_left l' h
theorem lM {f : α -> β} (h : a ∈ l) : f a ∈ l.map f := List.mem_map_of_mem h
theorem lG {i : Nat} (h : l[i]? = some a) : a ∈ l := List.mem_of_getElem? h
theorem hP (h : Heap) {o : Obj} (e : o.isFreed = false) : (h.push o).get? h.objs.size = some o := Heap.get?_push_size h e
theorem wP (h : Q a s) : wpAny M A (pure a) Q E s := wpAny_pure h
theorem wM (h : wpAny M A t Q E s) (hQ : ∀ a s, Q a s -> Q' a s) (hE : ∀ e s, E e s -> E' e s) : wpAny M A t Q' E' s := wpAny_mono h hQ hE
theorem wK (h : wpAny M A t Q E s) (hQ : ∀ a s, Q a s -> Q' a s) : wpAny M A t Q' E s := wpAny_mono h hQ fun _ _ f => f
theorem o1 {l a b : Nat} (h : autoParam (l < a) aA) (e : autoParam (Nat.ble (a + 1) b = true) aR) : l + 1 < b := Nat.lt_of_lt_of_le (Nat.succ_lt_succ h) (Nat.le_of_ble_eq_true e)
theorem o2 {l a b : Nat} (h : autoParam (l < a) aA) (e : autoParam (Nat.ble a b = true) aR) : l < b := Nat.lt_of_lt_of_le h (Nat.le_of_ble_eq_true e)
theorem o3 {l a b : Nat} (h : autoParam (l <= a) aA) (e : autoParam (Nat.ble a b = true) aR) : l <= b := Nat.le_trans h (Nat.le_of_ble_eq_true e)
theorem o4 {l a b : Nat} (h : autoParam (l <= a) aA) (e : autoParam (Nat.ble (a + 1) b = true) aR) : l < b := Nat.lt_of_le_of_lt h (Nat.le_of_ble_eq_true e)
theorem o5 {l a b : Nat} (h : autoParam (l < a) aA) (e : autoParam (Nat.ble a (b + 1) = true) aR) : l <= b := Nat.le_of_lt_succ (Nat.lt_of_lt_of_le h (Nat.le_of_ble_eq_true e))
theorem o6 {n : Nat} : (0 : Int) <= (n : Int) := Int.natCast_nonneg n
theorem p1 {n i k : Nat} (h : autoParam (n - i = k + 1) aA) : n - (i + 1) = k := (Nat.sub_add_eq n i 1).trans (congrArg (· - 1) h)
theorem p2 {n i k : Nat} (h : autoParam (n - i = k + 1) aA) : i < n := Nat.lt_of_sub_pos (h ▸ Nat.succ_pos k)
theorem p3 {n i : Nat} (h : autoParam (n - i = 0) aA) : n <= i := Nat.le_of_sub_eq_zero h
theorem p4 {n i : Nat} (h : autoParam (n - i = 0) aA) (g : autoParam (i <= n) aA) : i = n := Nat.le_antisymm g (p3 h)
theorem p5 {n i : Nat} (h : autoParam (n - i = 0) aA) (g : autoParam (i <= n) aA) : n = i := Nat.le_antisymm (p3 h) g
theorem p6 {a b m : Nat} (e : autoParam (Nat.ble a m = true) aR) : min a b <= m := Nat.le_trans (Nat.min_le_left ..) (Nat.le_of_ble_eq_true e)
theorem p7 {a b m : Nat} (e : autoParam (Nat.ble b m = true) aR) : min a b <= m := Nat.le_trans (Nat.min_le_right ..) (Nat.le_of_ble_eq_true e)
theorem p8 {a b l m : Nat} (h : autoParam (b <= l) aA) (e : autoParam (Nat.ble l m = true) aR) : min a b <= m := Nat.le_trans (Nat.min_le_right ..) (o3 h e)
theorem p9 {a b c d : Nat} (h : autoParam (a <= b) aA) (g : autoParam (b <= c) aA) (e : autoParam (Nat.ble c d = true) aR) : a <= d := Nat.le_trans h (o3 g e)
theorem wB {m : Sem α} {f : α -> Sem β} {Q : β -> Shared -> Prop} (h : wpAny M A m (fun a s' => wpAny M A (f a) Q E s') E s) : wpAny M A (m >>= f) Q E s := wpAny_bind h
end
variable {A A2 : Around} {A0 A1 N X X' XL Y Z : List Addr} {AI : Addr -> List Addr -> Nat -> Heap -> Prop} {BS bs : PyData -> Bool} {C D I N2 S Sx T a d0 dx it : Addr} {E Q Q1 : Value -> Shared -> Prop} {F : Frag} {YP : World -> Heap -> Prop} {apos cpos lp np p pos px tpos : Pos} {args ifs ifs2 : List Expr} {b expr led rb ser : Bool} {body orelse ss : List Stmt} {d d' d1 d2 : PyData} {dep hsh : Int} {dn ds : List PyData} {e e1 e2 elt iter iter2 kx o test tg value vx : Expr} {κ α β : Type} {env : Env} {es : List DictEntry} {fd : FuncData} {fv v : Value} {gs : List (Nat × PyData)} {h h' h'' : Heap} {hs : List ExceptHandler} {i j l : Nat} {id : String} {is : List Nat} {items : Array Value} {od : Obj} {op : Operator} {os : List (Addr × Obj)} {outer : List Env} {prog : Program} {s s' s0 s1 : Shared} {scope : Scope} {sl : Array (Option Value)} {t : Value -> Value -> Sem Value} {vs ws : List Value} {w : World} {enc : κ -> PyData} {g1 : α -> PyData} {g2 : β -> PyData} {k : κ} {ks sk : List κ} {kvs : List (κ × PyData)} {rk : κ -> Nat} {su : κ -> List κ}
theorem m0 {a : α} {l : List α} : a ∈ a :: l := .head _
theorem m1 {a b : α} {l : List α} : a ∈ b :: a :: l := .tail _ (.head _)
theorem m2 {a b c : α} {l : List α} : a ∈ b :: c :: a :: l := .tail _ (.tail _ (.head _))
theorem m3 {a b c d : α} {l : List α} : a ∈ b :: c :: d :: a :: l := .tail _ m2
theorem m4 {a b c d e : α} {l : List α} : a ∈ b :: c :: d :: e :: a :: l := .tail _ m3
theorem m5 {a b c d e f : α} {l : List α} : a ∈ b :: c :: d :: e :: f :: a :: l := .tail _ m4
theorem m6 {a b c d e f g : α} {l : List α} : a ∈ b :: c :: d :: e :: f :: g :: a :: l := .tail _ m5
theorem mz {l : List α} (h : l.length = 2) : ∃ a b, l = [a, b] := by
 obtain ⟨a, t, rfl⟩ := List.exists_cons_of_length_eq_add_one h
 obtain ⟨b, rfl⟩ := List.length_eq_one_iff.mp (Nat.succ.inj h)
 exact ⟨a, b, rfl⟩
structure Cfg where
 prog : Program
 w : World
 base : Heap
 fr : List Addr := []
noncomputable abbrev Cfg.M (c : Cfg) : Model := model c.prog c.w
noncomputable abbrev Cfg.push (c : Cfg) (L : Addr) : Cfg := { c with fr := L :: c.fr }
noncomputable def lH (o : Obj) : Prop := ∀ vs, o.data ≠ .fields vs
structure HX (c : Cfg) (Y : List Addr) (h h' : Heap) : Prop where
 up : ∀ b o, b ∉ Y -> h.get? b = some o -> ∃ sl, h'.get? b = some { o with slots := sl } /\ (b ∈ c.fr \/ sl = o.slots)
 st : c.base.StaysIn h -> c.base.StaysIn h'
 lv : ∀ b o, b ∈ c.fr -> h.get? b = some o -> lH o -> ∃ o', h'.get? b = some o' /\ lH o'
namespace HX
variable {c : Cfg} {Y' : List Addr} {h₀ : Heap}
theorem refl (h : Heap) : HX c Y h h := ⟨fun _ o _ e => ⟨o.slots, e, .inr rfl⟩, id, fun _ o _ e n => ⟨o, e, n⟩⟩
theorem lvs (x : HX c Y h h') (y : HX c Y' h' h'') : ∀ b o, b ∈ c.fr -> h.get? b = some o -> lH o -> ∃ o', h''.get? b = some o' /\ lH o' := fun b o hb e n => by
 obtain ⟨o', e', n'⟩ := x.lv b o hb e n
 exact y.lv b o' hb e' n'
theorem ups {b : Addr} {o : Obj} (x : ∃ sl, h'.get? b = some { o with slots := sl } /\ (b ∈ c.fr \/ sl = o.slots)) (y : HX c Y h' h'') (hb : b ∉ Y) : ∃ sl, h''.get? b = some { o with slots := sl } /\ (b ∈ c.fr \/ sl = o.slots) := by
 obtain ⟨sl, e1, r1⟩ := x
 obtain ⟨sl2, e2, r2⟩ := y.up b _ hb e1
 refine ⟨sl2, e2, ?_⟩
 rcases r1 with r1 | r1
 ·exact .inl r1
 ·rcases r2 with r2 | r2
  ·exact .inl r2
  ·exact .inr (r2.trans r1)
theorem trans (x : HX c Y h h') (y : HX c Y h' h'') : HX c Y h h'' := ⟨fun b o hb e => ups (x.up b o hb e) y hb, fun k => y.st (x.st k), x.lvs y⟩
theorem mono (x : HX c Y h h') (hs : ∀ y ∈ Y, y ∈ Y') : HX c Y' h h' := ⟨fun b o hb e => x.up b o (fun z => hb (hs b z)) e, x.st, x.lv⟩
theorem of_keep (k : ∀ b o, b ∉ Y -> h.get? b = some o -> h'.get? b = some o) (hb : ∀ y ∈ Y, c.base.get? y = none) (hl : ∀ y ∈ Y, y ∉ c.fr) : HX c Y h h' :=
 ⟨fun b o hn e => ⟨o.slots, k b o hn e, .inr rfl⟩, fun s b o e => k b o (fun z => by rw [hb b z] at e; cases e) (s b o e), fun b o hf e n => ⟨o, k b o (fun z => hl b z hf) e, n⟩⟩
theorem cP (k : ∀ b o, h.get? b = some o -> h'.get? b = some o) : HX c [] h h' := of_keep (fun b o _ e => k b o e) (fun _ z => nomatch z) (fun _ z => nomatch z)
theorem push (h : Heap) (o : Obj) : HX c [] h (h.push o) := cP (fun _ _ e => Heap.get?_push_of_some _ e)
theorem sameBut (s : Heap.SameBut a h h') (hb : c.base.get? a = none) (hl : a ∉ c.fr) : HX c [a] h h' :=
 of_keep (fun b o hn e => by rw [s.2 b (by simpa using hn)]; exact e) (by simpa using hb) (by simpa using hl)
theorem zV {o' : Obj} (s : Heap.SameBut a h h') (hb : c.base.get? a = none) (e' : h'.get? a = some o') (n' : lH o') : HX c [a] h h' := by
 have k : ∀ b o, b ∉ [a] -> h.get? b = some o -> h'.get? b = some o := fun b o hn e => by rw [s.2 b (by simpa using hn)]; exact e
 refine ⟨fun b o hn e => ⟨o.slots, k b o hn e, .inr rfl⟩, fun s b o e => k b o (fun z => by rw [lS z, hb] at e; cases e) (s b o e), fun b o hf e n => ?_⟩
 by_cases q : b = a
 ·exact ⟨o', q ▸ e', n'⟩
 ·exact ⟨o, k b o (by simpa using q) e, n⟩
theorem young (x : HX c [] h₀ h) (y : HX c Y h h') (hy : ∀ a ∈ Y, h₀.get? a = none) : HX c [] h₀ h' :=
 ⟨fun b o _ e => ups (x.up b o (fun z => nomatch z) e) y fun z => (by rw [hy b z] at e; cases e), fun k => y.st (x.st k), x.lvs y⟩
theorem zW (x : HX c Z h₀ h) (y : HX c Y h h') (hy : ∀ a ∈ Y, a ∈ Z \/ h₀.get? a = none) : HX c Z h₀ h' :=
 ⟨fun b o hz e => ups (x.up b o hz e) y fun z => (by
  rcases hy b z with q | q
  ·exact hz q
  ·rw [q] at e; cases e), fun k => y.st (x.st k), x.lvs y⟩
theorem exact (x : HX c Y h h') {b : Addr} {o : Obj} (hb : b ∉ Y) (hf : b ∉ c.fr) (e : h.get? b = some o) : h'.get? b = some o := by
 obtain ⟨sl, e1, r⟩ := x.up b o hb e
 rcases r with r | r
 ·exact absurd r hf
 ·rw [e1, r]
theorem get (x : HX c Y h h') {b : Addr} {o : Obj} (hb : b ∉ Y) (e : h.get? b = some o) : ∃ o', h'.get? b = some o' /\ o'.cls = o.cls /\ o'.dict = o.dict /\ o'.data = o.data := by
 obtain ⟨sl, e1, _⟩ := x.up b o hb e
 exact ⟨_, e1, rfl, rfl, rfl⟩
theorem ns (x : HX c Y h h') {a : Addr} {m : Str -> Option Value} (ha : a ∉ Y) (n : h.Ns a m) : h'.Ns a m := by
 obtain ⟨o, es, ep, e, d, r⟩ := n
 obtain ⟨o', e', _, _, d'⟩ := x.get ha e
 exact ⟨o', es, ep, e', d'.trans d, r⟩
theorem cell (x : HX c Y h h') {a : Addr} {v : Option Value} (ha : a ∉ Y) (n : h.IsCell a v) : h'.IsCell a v := by
 obtain ⟨o, e, d⟩ := n
 obtain ⟨o', e', _, _, d'⟩ := x.get ha e
 exact ⟨o', e', d'.trans d⟩
theorem alive (x : HX c Y h h') {a : Addr} (ha : a ∉ Y) (n : ∃ o, h.get? a = some o) : ∃ o, h'.get? a = some o := by
 obtain ⟨o, e⟩ := n
 obtain ⟨o', e', _⟩ := x.get ha e
 exact ⟨o', e'⟩
theorem frames (x : HX c Y h h') : ∀ {l : List Env}, (∀ env ∈ l, ∀ L, env.frame = some L -> L ∈ c.fr) -> h.FunFrames c.base l -> h'.FunFrames c.base l
 | [], _, _ => trivial
 | env :: _, hf, ⟨hk, ⟨L, o, e1, e2, e3, e4⟩, r⟩ => by
  obtain ⟨o', e', n'⟩ := x.lv L o (hf env (.head _) L e1) e3 e4
  exact ⟨hk, ⟨L, o', e1, e2, e', n'⟩, x.frames (fun env he => hf env (.tail _ he)) r⟩
theorem below (x : HX c Y h h') {A : Around} {l : List Env} (hf : ∀ env ∈ l, ∀ L, env.frame = some L -> L ∈ c.fr) (b : Below A c.base l h) : Below A c.base l h' := ⟨b.stack, x.st b.stays, x.frames hf b.frames⟩
theorem none_of (x : HX c Y h h') {a : Addr} (ha : a ∉ Y) (e : h'.get? a = none) : h.get? a = none := by
 cases q : h.get? a with
 | none => rfl
 | some o =>
  obtain ⟨o', e', _⟩ := x.get ha q
  rw [e] at e'; cases e'
theorem pop {L : Addr} (x : HX (c.push L) Y h h') (hL : h.get? L = none) : HX c Y h h' := by
 refine ⟨fun b o hb e => ?_, x.st, fun b o hb e n => x.lv b o (.tail _ hb) e n⟩
 obtain ⟨sl, e1, r⟩ := x.up b o hb e
 refine ⟨sl, e1, r.imp_left fun z => ?_⟩
 rcases lC z with q | q
 ·rw [q, hL] at e; cases e
 ·exact q
end HX
theorem ak (ha : h.objs.size <= a) : h.get? a = none := Heap.get?_none_of_le ha
noncomputable def pC (w : World) (e : DictEntry) : PyData -> Prop
 | .int i => (∃ t, e.key = .int i t) /\ e.hash = hashInt i
 | .str x => (∃ t, e.key = .str x t) /\ e.hash = hashStr w x
 | _ => False
inductive KeysAre (w : World) : List DictEntry -> List PyData -> Prop
 | nil : KeysAre w [] []
 | cons {e es k ks : _} : pC w e k -> KeysAre w es ks -> KeysAre w (e :: es) (k :: ks)
theorem KeysAre.cons_inv {e : DictEntry} {k : PyData} {ks : List PyData} (h : KeysAre w (e :: es) (k :: ks)) : pC w e k /\ KeysAre w es ks := by
 cases h with | cons a r => exact ⟨a, r⟩
noncomputable abbrev opq (a : Addr) : PyData := .dict [(.none, .int (a : Int))]
noncomputable abbrev tyS : PyData := .dict [(.none, .bool true)]
noncomputable abbrev mL (C : Addr) (ns : List Str) (is : List Nat) (ks ds : List PyData) : PyData := .dict [(.none, .list [.int (C : Int), .list (ns.map .str), .list (is.map fun i => .int (i : Nat)), .list ks, .list ds])]
noncomputable abbrev mO (C dx : Addr) (sl : Array (Option Value)) : Obj := { cls := .ref C, dict := some dx, data := .plain, slots := sl }
noncomputable abbrev bH (vs : List Value) (n : Nat) : Obj := { cls := .type "list", dict := none, data := .seq vs.toArray n, slots := #[] }
noncomputable abbrev jx (vs : List Value) (n : Nat) : Obj := { cls := .type "tuple", dict := none, data := .seq vs.toArray n, slots := #[] }
noncomputable abbrev oH (es : List DictEntry) (n : Nat) : Obj := { cls := .type "dict", dict := none, data := .dict es.toArray n, slots := #[] }
mutual
inductive Rd (w : World) (X : List Addr) (h : Heap) : Value -> PyData -> Prop
 | none : Rd w X h .none .none
 | bool (b : _) : Rd w X h (.bool b) (.bool b)
 | int (i t : _) : Rd w X h (.int i t) (.int i)
 | str (x t : _) : Rd w X h (.str x t) (.str x)
 | list {a vs n xs : _} : a ∉ X -> h.get? a = some (bH vs n) -> RdL w X h vs xs -> Rd w X h (.ref a) (.list xs)
 | tuple {a vs n xs : _} : a ∉ X -> h.get? a = some (jx vs n) -> RdL w X h vs xs -> Rd w X h (.ref a) (.tuple xs)
 | dict {a es n kvs : _} : a ∉ X -> h.get? a = some (oH es n) -> KeysAre w es (kvs.map (·.1)) -> (kvs.map (·.1)).Nodup -> RdL w X h (es.map (·.val)) (kvs.map (·.2)) -> Rd w X h (.ref a) (.dict kvs)
 | opq (a : Addr) : Rd w X h (.ref a) (.dict [(.none, .int (a : Int))])
 | tys : Rd w X h (.type "str") (.dict [(.none, .bool true)])
 | inst {a C dx sl es n us ws ks ds : _} {ns : List Str} {is : List Nat} : a ∉ X -> dx ∉ X -> h.get? a = some (mO C dx sl) -> h.get? dx = some (dictOf es n) -> ((∀ p ∈ ns.zip us, getL p.1 es = some (some p.2)) /\ ∀ p ∈ is.zip ws, (sl[p.1]?).join = some p.2) -> RdL w X h us ks -> RdL w X h ws ds -> Rd w X h (.ref a) (.dict [(.none, .list [.int (C : Int), .list (ns.map .str), .list (is.map fun i => .int (i : Nat)), .list ks, .list ds])])
inductive RdL (w : World) (X : List Addr) (h : Heap) : List Value -> List PyData -> Prop
 | nil : RdL w X h [] []
 | cons {v vs d ds : _} : Rd w X h v d -> RdL w X h vs ds -> RdL w X h (v :: vs) (d :: ds)
end
section
variable {us : List Value} {es : List PyData}
theorem RdL.ind {P : List Value -> List PyData -> Prop} (h0 : P [] []) (h1 : ∀ v vs d ds, Rd w X h v d -> RdL w X h vs ds -> P vs ds -> P (v :: vs) (d :: ds)) (r : RdL w X h vs ds) : P vs ds :=
 RdL.rec (motive_1 := fun _ _ _ => True) (motive_2 := fun vs ds _ => P vs ds) trivial (fun _ => trivial) (fun _ _ => trivial) (fun _ _ => trivial) (fun _ _ _ _ => trivial) (fun _ _ _ _ => trivial) (fun _ _ _ _ _ _ => trivial) (fun _ => trivial) trivial (fun _ _ _ _ _ _ _ _ _ => trivial) h0 (fun a r _ q => h1 _ _ _ _ a r q) r
theorem Rd.map (f : ∀ a o, a ∉ X -> h.get? a = some o -> a ∉ X' /\ h'.get? a = some o) (r : Rd w X h v d) : Rd w X' h' v d :=
 Rd.rec (motive_1 := fun v d _ => Rd w X' h' v d) (motive_2 := fun vs ds _ => RdL w X' h' vs ds) .none .bool .int .str (fun ha e _ q => .list (f _ _ ha e).1 (f _ _ ha e).2 q) (fun ha e _ q => .tuple (f _ _ ha e).1 (f _ _ ha e).2 q)
  (fun ha e k n _ q => .dict (f _ _ ha e).1 (f _ _ ha e).2 k n q) .opq .tys (fun ha hd e e2 k _ _ q p => .inst (f _ _ ha e).1 (f _ _ hd e2).1 (f _ _ ha e).2 (f _ _ hd e2).2 k q p) .nil (fun _ _ a q => .cons a q) r
theorem RdL.map (f : ∀ a o, a ∉ X -> h.get? a = some o -> a ∉ X' /\ h'.get? a = some o) (r : RdL w X h vs ds) : RdL w X' h' vs ds := r.ind .nil fun _ _ _ _ a _ q => .cons (a.map f) q
inductive RdQ (w : World) (X : List Addr) (h : Heap) (f : List Value -> Nat -> Obj) (xs : List PyData) : Value -> Prop
 | mk (a : Addr) (vs : List Value) (n : Nat) (ha : a ∉ X) (e : h.get? a = some (f vs n)) (q : RdL w X h vs xs) : RdQ w X h f xs (.ref a)
inductive RdD (w : World) (X : List Addr) (h : Heap) (kvs : List (PyData × PyData)) : Value -> Prop
 | dict (a : Addr) (es : List DictEntry) (n : Nat) : a ∉ X -> h.get? a = some (oH es n) -> KeysAre w es (kvs.map (·.1)) -> (kvs.map (·.1)).Nodup -> RdL w X h (es.map (·.val)) (kvs.map (·.2)) -> RdD w X h kvs (.ref a)
 | opq (a : Addr) : kvs = [(.none, .int (a : Int))] -> RdD w X h kvs (.ref a)
 | tys : kvs = [(.none, .bool true)] -> RdD w X h kvs (.type "str")
 | inst (a C dx : Addr) (sl : _) (es : List DictEntry) (n : Nat) (us ws : List Value) (ks ds : List PyData) (ns : List Str) (is : List Nat) : kvs = [(.none, .list [.int (C : Int), .list (ns.map .str), .list (is.map fun i => .int (i : Nat)), .list ks, .list ds])] -> a ∉ X -> dx ∉ X -> h.get? a = some (mO C dx sl) -> h.get? dx = some (dictOf es n) -> ((∀ p ∈ ns.zip us, getL p.1 es = some (some p.2)) /\ ∀ p ∈ is.zip ws, (sl[p.1]?).join = some p.2) -> RdL w X h us ks -> RdL w X h ws ds -> RdD w X h kvs (.ref a)
inductive RdK (w : World) (X : List Addr) (h : Heap) (kvs : List (PyData × PyData)) : Value -> Prop
 | mk (a : Addr) (es : List DictEntry) (n : Nat) (ha : a ∉ X) (e : h.get? a = some (oH es n)) (k : KeysAre w es (kvs.map (·.1))) (nd : (kvs.map (·.1)).Nodup) (r : RdL w X h (es.map (·.val)) (kvs.map (·.2))) : RdK w X h kvs (.ref a)
inductive RdT (f : Tok -> Value) : Value -> Prop
 | mk (t : _) : RdT f (f t)
inductive RdC (w : World) (X : List Addr) (h : Heap) (d : PyData) (P : List Value -> Prop) : List Value -> Prop
 | mk (v : Value) (us : List Value) (a : Rd w X h v d) (q : P us) : RdC w X h d P (v :: us)
inductive Rd1 (w : World) (X : List Addr) (h : Heap) (d : PyData) : List Value -> Prop
 | mk (v : Value) (a : Rd w X h v d) : Rd1 w X h d [v]
inductive Rd2 (w : World) (X : List Addr) (h : Heap) (d d' : PyData) : List Value -> Prop
 | mk (v v' : Value) (a : Rd w X h v d) (a' : Rd w X h v' d') : Rd2 w X h d d' [v, v']
noncomputable def RdI (w : World) (X : List Addr) (h : Heap) (v : Value) : PyData -> Prop
 | .none => v = .none
 | .bool b => v = .bool b
 | .int i => RdT (.int i) v
 | .str x => RdT (.str x) v
 | .list xs => RdQ w X h bH xs v
 | .tuple xs => RdQ w X h jx xs v
 | .dict kvs => RdD w X h kvs v
noncomputable def Km (w : World) (X : List Addr) (h : Heap) : List PyData -> List Value -> Prop
 | [], vs => vs = []
 | d :: ds, vs => RdC w X h d (fun us => RdL w X h us ds) vs
theorem Rd.inv (r : Rd w X h v d) : RdI w X h v d :=
 Rd.casesOn (motive_1 := fun v d _ => RdI w X h v d) r rfl (fun _ => rfl) (fun _ t => .mk t) (fun _ t => .mk t) (fun ha e q => .mk _ _ _ ha e q) (fun ha e q => .mk _ _ _ ha e q) (fun ha e k n q => .dict _ _ _ ha e k n q) (fun a => .opq a rfl) (.tys rfl) fun ha hd e e2 k q p => .inst _ _ _ _ _ _ _ _ _ _ _ _ rfl ha hd e e2 k q p
theorem RdL.inv (r : RdL w X h vs ds) : Km w X h ds vs := r.ind (P := fun vs ds => Km w X h ds vs) rfl fun _ _ _ _ a q _ => .mk _ _ a q
theorem Rd.aQ {xs : List PyData} (r : Rd w X h v (.list xs)) : RdQ w X h bH xs v := r.inv
theorem Rd.cX {xs : List PyData} (r : Rd w X h v (.tuple xs)) : RdQ w X h jx xs v := r.inv
theorem Rd.rP {kvs : List (PyData × PyData)} (r : Rd w X h v (.dict kvs)) (hn : ∀ x, kvs ≠ [(.none, x)]) : RdK w X h kvs v := by
 have hz : RdD w X h kvs v := r.inv
 cases hz with
 | dict a es n ha e k nd q => exact ⟨a, es, n, ha, e, k, nd, q⟩
 | opq _ e => exact absurd e (hn _)
 | tys e => exact absurd e (hn _)
 | inst _ _ _ _ _ _ _ _ _ _ _ _ e => exact absurd e (hn _)
theorem Rd.int_inv {i : Int} (r : Rd w X h v (.int i)) : RdT (.int i) v := r.inv
theorem Rd.str_inv {i : Str} (r : Rd w X h v (.str i)) : RdT (.str i) v := r.inv
theorem Rd.bool_inv {i : Bool} (r : Rd w X h v (.bool i)) : v = .bool i := r.inv
theorem Rd.none_inv (r : Rd w X h v .none) : v = .none := r.inv
theorem RdL.nil_inv (r : RdL w X h vs []) : vs = [] := r.inv
theorem RdL.cons_inv (r : RdL w X h vs (d :: ds)) : RdC w X h d (fun us => RdL w X h us ds) vs := r.inv
theorem RdL.bO (r : RdL w X h vs [d]) : Rd1 w X h d vs := by
 obtain ⟨v, us, a, q⟩ := r.cons_inv
 cases q.nil_inv; exact ⟨v, a⟩
theorem RdL.qH (r : RdL w X h vs [d, d']) : Rd2 w X h d d' vs := by
 obtain ⟨v, us, a, q⟩ := r.cons_inv
 obtain ⟨v', a'⟩ := q.bO
 exact ⟨v, v', a, a'⟩
end
theorem hxf {c : Cfg} (x : HX c Y h h') (hF : ∀ a ∈ c.fr, a ∈ X) (hs : ∀ y ∈ Y, y ∈ X) : ∀ a o, a ∉ X -> h.get? a = some o -> a ∉ X /\ h'.get? a = some o := fun _ _ ha e => ⟨ha, x.exact (fun z => ha (hs _ z)) (fun z => ha (hF _ z)) e⟩
theorem Rd.hx {c : Cfg} (x : HX c Y h h') (hF : ∀ a ∈ c.fr, a ∈ X) (hs : ∀ y ∈ Y, y ∈ X) {v : Value} {d : PyData} (r : Rd c.w X h v d) : Rd c.w X h' v d := r.map (hxf x hF hs)
theorem RdL.hx {c : Cfg} (x : HX c Y h h') (hF : ∀ a ∈ c.fr, a ∈ X) (hs : ∀ y ∈ Y, y ∈ X) {vs : List Value} {ds : List PyData} (r : RdL c.w X h vs ds) : RdL c.w X h' vs ds := r.map (hxf x hF hs)
theorem HJ (hs : ∀ a ∈ X', a ∈ X \/ h.get? a = none) : ∀ a o, a ∉ X -> h.get? a = some o -> a ∉ X' /\ h.get? a = some o := fun _ _ ha e => ⟨fun z => (hs _ z).elim ha fun q => (by rw [q] at e; cases e), e⟩
theorem Rd.wide (hs : ∀ a ∈ X', a ∈ X \/ h.get? a = Option.none) {v : Value} {d : PyData} (r : Rd w X h v d) : Rd w X' h v d := r.map (HJ hs)
theorem RdL.wide (hs : ∀ a ∈ X', a ∈ X \/ h.get? a = Option.none) {vs : List Value} {ds : List PyData} (r : RdL w X h vs ds) : RdL w X' h vs ds := r.map (HJ hs)
theorem Rd.sub (hs : ∀ a ∈ X', a ∈ X) {v : Value} {d : PyData} (r : Rd w X h v d) : Rd w X' h v d := r.wide fun a ha => .inl (hs a ha)
theorem RdL.sub (hs : ∀ a ∈ X', a ∈ X) {v : List Value} {d : List PyData} (r : RdL w X h v d) : RdL w X' h v d := r.wide fun a ha => .inl (hs a ha)
theorem Rd.hx0 {c : Cfg} (x : HX c [] h h') (hF : ∀ a ∈ c.fr, a ∈ X) {v : Value} {d : PyData} (r : Rd c.w X h v d) : Rd c.w X h' v d := r.hx x hF fun _ z => nomatch z
theorem RdL.hx0 {c : Cfg} (x : HX c [] h h') (hF : ∀ a ∈ c.fr, a ∈ X) {v : List Value} {d : List PyData} (r : RdL c.w X h v d) : RdL c.w X h' v d := r.hx x hF fun _ z => nomatch z
section
variable {us : List Value} {es : List PyData}
theorem RdL.length (r : RdL w X h vs ds) : vs.length = ds.length := r.ind (P := fun vs ds => vs.length = ds.length) rfl fun _ _ _ _ _ _ q => congrArg (· + 1) q
theorem RdL.isEmpty (r : RdL w X h vs ds) : vs.isEmpty = ds.isEmpty := r.ind (P := fun vs ds => vs.isEmpty = ds.isEmpty) rfl fun _ _ _ _ _ _ _ => rfl
theorem RdL.append (r : RdL w X h vs ds) (p : RdL w X h us es) : RdL w X h (vs ++ us) (ds ++ es) := r.ind (P := fun vs ds => RdL w X h (vs ++ us) (ds ++ es)) p fun _ _ _ _ a _ q => .cons a q
theorem RdL.get (r : RdL w X h vs ds) : ∀ (i : Nat) {d : PyData}, ds[i]? = some d -> ∃ v, vs[i]? = some v /\ Rd w X h v d :=
 r.ind (P := fun vs ds => ∀ (i : Nat) {d : PyData}, ds[i]? = some d -> ∃ v, vs[i]? = some v /\ Rd w X h v d) (fun _ _ e => nomatch e) fun v vs _ _ a _ q i d e => by
  cases i with
  | zero => cases e; exact ⟨v, rfl, a⟩
  | succ i => exact q i e
end
noncomputable def noneB : PyData -> Bool
 | .none => true
 | _ => false
noncomputable def ibB : PyData -> Bool
 | .int _ => true
 | .bool _ => true
 | _ => false
noncomputable def Ir : List (PyData × PyData) -> Bool
 | [] => false
 | p :: t => t.isEmpty && noneB p.1 && ibB p.2
noncomputable def flat : PyData -> Bool
 | .none => true
 | .bool _ => true
 | .int _ => true
 | .str _ => true
 | .dict kvs => Ir kvs
 | _ => false
theorem mQ {kvs : List (PyData × PyData)} (hk : KeysAre w es (kvs.map (·.1))) (hf : Ir kvs = true) : False := by
 cases kvs with
 | nil => cases hf
 | cons p t =>
  obtain ⟨k, v⟩ := p
  cases hk with
  | cons q _ =>
   cases k with
   | none => exact q.elim
   | _ => simp [Ir, noneB] at hf
theorem Rd.flat (r : Rd w X h v d) (hf : Mine.flat d = true) : Rd w X' h' v d :=
 Rd.casesOn (motive_1 := fun v d _ => Mine.flat d = true -> Rd w X' h' v d) r (fun _ => .none) (fun b _ => .bool b) (fun i t _ => .int i t) (fun x t _ => .str x t) (fun _ _ _ hf => nomatch hf) (fun _ _ _ hf => nomatch hf) (fun _ _ hk _ _ hf => (mQ hk hf).elim) (fun a _ => .opq a) (fun _ => .tys) (fun _ _ _ _ _ _ _ hf => nomatch hf) hf
theorem Rd.reads (r : Rd w X h v d) : d.canLay0 = true -> ∃ as, Reads h v d as :=
 Rd.rec (motive_1 := fun v d _ => d.canLay0 = true -> ∃ as, Reads h v d as) (motive_2 := fun vs ds _ => PyData.canLayAll0 ds = true -> ∃ as, ReadsAll h vs ds as) (fun _ => ⟨_, .none⟩) (fun b _ => ⟨_, .bool b⟩) (fun i t _ => ⟨_, .int i t⟩) (fun x t _ => ⟨_, .str x t⟩)
  (fun _ e _ q hc => let ⟨_, q⟩ := q (by simpa only [PyData.canLay0] using hc); ⟨_, .list e rfl rfl q⟩) (fun _ e _ q hc => let ⟨_, q⟩ := q (by simpa only [PyData.canLay0] using hc); ⟨_, .tuple e rfl rfl q⟩)
  (fun _ _ _ _ _ _ hc => by simp [PyData.canLay0] at hc) (fun _ hc => by simp [PyData.canLay0] at hc) (fun hc => by simp [PyData.canLay0] at hc) (fun _ _ _ _ _ _ _ _ _ hc => by simp [PyData.canLay0] at hc)
  (fun _ => ⟨_, .nil⟩) (fun _ _ q1 q2 hc => by
   rw [PyData.canLayAll0, Bool.and_eq_true] at hc
   obtain ⟨as, q⟩ := q1 hc.1
   obtain ⟨bs, p⟩ := q2 hc.2
   exact ⟨_, .cons q p⟩) r
inductive Has (env : Env) (h : Heap) (x : Str) (v : Value) : Prop
 | loc {m : Str -> Option Value} : env.kindOf x = some .local -> h.Ns env.locals m -> m x = some v -> Has env h x v
 | cell {a : Addr} : env.kindOf x = some .cell -> env.cells.lookup x = some a -> h.IsCell a (some v) -> Has env h x v
 | free {a : Addr} : env.kindOf x = some .free -> env.cells.lookup x = some a -> h.IsCell a (some v) -> (x == ("__classdict__" : Str)) = false -> Has env h x v
theorem Has.load {M : Model} {x : Str} (H : Has env s.heap x v) (hk : env.scope.kind = .function) (h : Q v s) : wpAny M A (loadName env x) Q E s := by
 cases H with
 | loc k n e => exact wpAny_loadName_local hk k n e h
 | cell k l i => exact wpAny_loadName_cell hk k l i h
 | free k l i d => exact wpAny_loadName_free hk k l i h d
theorem Has.hxL {c : Cfg} {x : Str} (H : Has env h x v) (q : HX c Y h h') (hL : env.locals ∉ Y) (hC : ∀ x a, env.cells.lookup x = some a -> a ∉ Y) : Has env h' x v := by
 cases H with
 | loc k n e => exact .loc k (q.ns hL n) e
 | cell k l i => exact .cell k l (q.cell (hC _ _ l) i)
 | free k l i d => exact .free k l (q.cell (hC _ _ l) i) d
theorem Has.hx0 {c : Cfg} (q : HX c [] h h') {env : Env} {x : Str} {v : Value} (H : Has env h x v) : Has env h' x v := H.hxL q (fun z => nomatch z) fun _ _ _ z => nomatch z
noncomputable abbrev Gam := List (Str × PyData)
structure Bas (c : Cfg) (A : Around) (X : List Addr) (h : Heap) : Prop where
 handled : A.handled = none
 below : ∃ outer, Below A c.base outer h /\ ∀ env ∈ outer, ∀ L, env.frame = some L -> L ∈ c.fr
 alloc : ∀ a ∈ X, ∃ o, h.get? a = some o
 frs : ∀ a ∈ c.fr, a ∈ X
theorem Bas.hx0 {c : Cfg} (G : Bas c A X h) (q : HX c [] h h') : Bas c A X h' :=
 ⟨G.handled, let ⟨o, b, f⟩ := G.below; ⟨o, q.below f b, f⟩, fun a ha => q.alive (fun z => nomatch z) (G.alloc a ha), G.frs⟩
theorem Bas.stays {c : Cfg} (G : Bas c A X h) : c.base.StaysIn h := let ⟨_, b, _⟩ := G.below; b.stays
theorem Bas.inBase {c : Cfg} (G : Bas c A X h) {a : Addr} {o : Obj} (e : c.base.get? a = some o) : h.get? a = some o := G.stays a o e
structure Good (c : Cfg) (A : Around) (X : List Addr) (env : Env) (Γ : Gam) (h : Heap) : Prop where
 bas : Bas c A X h
 kind : env.scope.kind = .function
 globals : env.globals = mainGlobals
 builtins : env.builtins = builtinsNs
 cells : ∀ x, env.kindOf x = some .cell \/ env.kindOf x = some .free -> ∃ a, env.cells.lookup x = some a
 inj : ∀ x y a, env.cells.lookup x = some a -> env.cells.lookup y = some a -> x = y
 cal : ∀ x a, env.cells.lookup x = some a -> ∃ v, h.IsCell a v
 vars : ∀ p ∈ Γ, ∃ v, Has env h p.1 v /\ Rd c.w X h v p.2
theorem Good.hx0 {c : Cfg} {Γ : Gam} (G : Good c A X env Γ h) (q : HX c [] h h') : Good c A X env Γ h' where
 bas := G.bas.hx0 q
 kind := G.kind
 globals := G.globals
 builtins := G.builtins
 cells := G.cells
 inj := G.inj
 cal := fun x a e => let ⟨v, i⟩ := G.cal x a e; ⟨v, q.cell (fun z => nomatch z) i⟩
 vars := fun p hp => let ⟨v, H, r⟩ := G.vars p hp; ⟨v, H.hx0 q, r.hx0 q G.bas.frs⟩
noncomputable def Lev (l : Nat) (A : Around) : Prop := A.depth <= 400 + l /\ A.units <= 100 + 8 * l /\ l <= 60
inductive Pst (c : Cfg) (s : Shared) : Shared -> Prop
 | mk (h' : Heap) (tk : Nat) (q : HX c [] s.heap h') : Pst c s { s with heap := h', toks := tk }
theorem Pst.refl {c : Cfg} : Pst c s s := ⟨s.heap, s.toks, .refl _⟩
theorem Pst.tk {c : Cfg} {k : Nat} : Pst c s { s with toks := k } := ⟨s.heap, k, .refl _⟩
theorem Pst.trans {c : Cfg} {s'' : Shared} (x : Pst c s s') (y : Pst c s' s'') : Pst c s s'' := by
 obtain ⟨h1, k1, e1⟩ := x
 obtain ⟨h2, k2, e2⟩ := y
 exact ⟨h2, k2, e1.trans e2⟩
theorem Pst.hx {c : Cfg} (x : Pst c s s') : HX c [] s.heap s'.heap := by
 obtain ⟨h1, k1, e1⟩ := x
 exact e1
noncomputable def NoE (_ : Value) (_ : Shared) : Prop := False
noncomputable abbrev Yield (c : Cfg) (X : List Addr) (s : Shared) (d : PyData) (v : Value) (s' : Shared) : Prop := Pst c s s' /\ Rd c.w X s'.heap v d
noncomputable def Ev (c : Cfg) (l : Nat) (X : List Addr) (env : Env) (Γ : Gam) (e : Expr) (d : PyData) : Prop :=
 ∀ A s, Lev l A -> Good c A X env Γ s.heap -> wpAny c.M A (eval e env) (Yield c X s d) NoE s
noncomputable def Et (c : Cfg) (l : Nat) (X : List Addr) (env : Env) (Γ : Gam) (e : Expr) (b : Bool) : Prop :=
 ∀ A s, Lev l A -> Good c A X env Γ s.heap -> wpAny c.M A (isTrue e env (eval e env)) (fun r s' => r = b /\ Pst c s s') NoE s
section
variable {c : Cfg} {Γ : Gam}
theorem bk {M : Model} {t : Sem α} {Q : α -> Shared -> Prop} (h : wpAny M A t Q NoE s) : wpAny M A t Q E s := wM h (fun _ _ q => q) fun _ _ f => f.elim
theorem Ev.use (h : Ev c l X env Γ e d) (L : Lev l A) (G : Good c A X env Γ s.heap) {Q : Value -> Shared -> Prop} {E : Value -> Shared -> Prop}
  (k : ∀ v s', Pst c s s' -> Rd c.w X s'.heap v d -> Good c A X env Γ s'.heap -> Q v s') : wpAny c.M A (eval e env) Q E s :=
 wM (h A s L G) (fun v s' q => k v s' q.1 q.2 (G.hx0 q.1.hx)) fun _ _ f => f.elim
theorem Ev.name {x : Str} (hm : (x, d) ∈ Γ) (hd : (x == ("__debug__" : Str)) = false) : Ev c l X env Γ (.Name x pos) d := fun A s _ G => by
 obtain ⟨v, H, r⟩ := G.vars _ hm
 exact wpAny_Name (H.load G.kind ⟨.refl, r⟩) hd
theorem Ev.int {i : Int} {k : Nat} : Ev c l X env Γ (.Constant (.int i) k pos) (.int i) := fun A s _ _ => wpAny_Constant_int ⟨.tk, .int _ _⟩
end
variable {M : Model} {c : Cfg} {tk : Nat} {Γ Γ' Γ0 Γ1 Γc : Gam} {Γd : PyData -> Gam} {Γd2 : PyData -> PyData -> Gam}
noncomputable def P1 (c : Cfg) (t : Value -> Sem α) (d : PyData) (R : α -> Prop) : Prop :=
 ∀ l A X s v, Lev l A -> Bas c A X s.heap -> Rd c.w X s.heap v d -> wpAny c.M A (t v) (fun r s' => R r /\ Pst c s s') NoE s
noncomputable def P2 (c : Cfg) (t : Value -> Value -> Sem Value) (d1 d2 d : PyData) : Prop :=
 ∀ l A X s v1 v2, Lev l A -> Bas c A X s.heap -> Rd c.w X s.heap v1 d1 -> Rd c.w X s.heap v2 d2 -> wpAny c.M A (t v1 v2) (Yield c X s d) NoE s
noncomputable abbrev Tru (c : Cfg) (d : PyData) (b : Bool) : Prop := P1 c truthy d (· = b)
noncomputable def aO (c : Cfg) (l : Nat) (f : Value) (ds : List PyData) (d : PyData) : Prop :=
 ∀ A X s vs, Lev l A -> Bas c A X s.heap -> RdL c.w X s.heap vs ds -> wpAny c.M A (call f vs) (Yield c X s d) NoE s
noncomputable def gO (c : Cfg) (v : Value) : Prop := ∀ h, c.base.StaysIn h -> ∃ k, (k = Keeper.frame \/ k = Keeper.machine \/ k = Keeper.boundFrame) /\ Looks c.M h (keeperOf v) k
noncomputable def Glb (c : Cfg) (x : Str) (v : Value) : Prop :=
 ∀ A E s env (Q : Value -> Shared -> Prop), c.base.StaysIn s.heap -> env.globals = mainGlobals -> env.builtins = builtinsNs -> env.scope.kind = .function -> env.kindOf x = some .globalImplicit -> Q v s -> wpAny c.M A (loadName env x) Q E s
theorem jy : gO c (.builtin id) := fun _ _ => ⟨.machine, .inr (.inl rfl), .of_pure rfl⟩
theorem dJ : gO c (.type id) := fun _ _ => ⟨.machine, .inr (.inl rfl), .of_pure rfl⟩
theorem qI {o : Obj} (e : c.base.get? a = some o) (hd : o.data = .func fd) : gO c (.ref a) := fun h st => by
 refine ⟨.frame, .inl rfl, ?_⟩
 refine (Looks.ld (part := none) (st a o e)).andThen ?_
 rw [hd]
 exact .now
noncomputable def EvA (c : Cfg) (l : Nat) (X : List Addr) (env : Env) (Γ : Gam) (pos : Pos) (es : List Expr) (ds : List PyData) : Prop :=
 ∀ A s, Lev l A -> Good c A X env Γ s.heap -> wpAny c.M A (spliced (backTo pos (starEach es env))) (fun vs s' => Pst c s s' /\ RdL c.w X s'.heap vs ds) NoE s
theorem Pst.push {o : Obj} {k : Nat} : Pst c s { s with heap := s.heap.push o, toks := k } := ⟨_, k, .push _ _⟩
theorem Pst.fH {o : Obj} : Pst c s { s with heap := s.heap.push o } := ⟨_, s.toks, .push _ _⟩
theorem gP (hX : ∀ a ∈ X, ∃ o, s.heap.get? a = some o) : s.heap.objs.size ∉ X := fun z => by
 obtain ⟨o, e⟩ := hX _ z
 exact absurd (Heap.lt_size e) (Nat.lt_irrefl _)
theorem Rd.newList (hF : ∀ a ∈ c.fr, a ∈ X) (hX : ∀ a ∈ X, ∃ o, s.heap.get? a = some o) (r : RdL c.w X s.heap vs ds) : Rd c.w X (s.heap.push { cls := .type "list", data := .seq vs.toArray }) (.ref s.heap.objs.size) (.list ds) :=
 .list (gP hX) (hP _ rfl) (r.hx0 (c := c) (.push _ _) hF)
theorem Rd.newTuple (hF : ∀ a ∈ c.fr, a ∈ X) (hX : ∀ a ∈ X, ∃ o, s.heap.get? a = some o) (r : RdL c.w X s.heap vs ds) : Rd c.w X (s.heap.push { cls := .type "tuple", data := .seq vs.toArray }) (.ref s.heap.objs.size) (.tuple ds) :=
 .tuple (gP hX) (hP _ rfl) (r.hx0 (c := c) (.push _ _) hF)
theorem Rd.yc {Q : Bool -> Shared -> Prop} (r : Rd w X h v (.bool b)) (k : Q b s) : wpAny M A (truthy v) Q E s := r.bool_inv ▸ wpAny_truthy_bool k
theorem Ev.str {x : Str} {k : Nat} : Ev c l X env Γ (.Constant (.str x) k pos) (.str x) := fun A s _ _ => wpAny_Constant_str ⟨.tk, .str _ _⟩
theorem Ev.none {k : Nat} : Ev c l X env Γ (.Constant .none k pos) .none := fun A s _ _ => wpAny_Constant_none ⟨.refl, .none⟩
theorem Ev.bool {k : Nat} : Ev c l X env Γ (.Constant (.bool b) k pos) (.bool b) := fun A s _ _ => wpAny_Constant_bool ⟨.refl, .bool b⟩
theorem Ev.two (h1 : Ev c l X env Γ e1 d1) (h2 : Ev c l X env Γ e2 d2) (h : P2 c t d1 d2 d) (L : Lev l A) (G : Good c A X env Γ s.heap) (k : ∀ v s', Pst c s s' -> Rd c.w X s'.heap v d -> Q v s') :
  wpAny c.M A (eval e1 env) (fun v1 s1 => wpAny c.M A (eval e2 env) (fun v2 s2 => wpAny c.M A (t v1 v2) Q E s2) E s1) E s :=
 h1.use L G fun v1 s1 p1 r1 G1 => h2.use L G1 fun v2 s2 p2 r2 G2 => wM (h l A X s2 v1 v2 L G2.bas (r1.hx0 p2.hx G.bas.frs) r2) (fun v s3 q => k v s3 ((p1.trans p2).trans q.1) q.2) fun _ _ f => f.elim
theorem Ev.binop (h1 : Ev c l X env Γ e1 d1) (h2 : Ev c l X env Γ e2 d2) (h : P2 c (binaryOp op) d1 d2 d) : Ev c l X env Γ (.BinOp e1 op e2 pos) d := fun A s L G =>
 wpAny_BinOp (h1.two h2 h L G fun v s3 p r => ⟨p, r⟩)
theorem Ev.cmp {op : CmpOp} (h1 : Ev c l X env Γ e1 d1) (h2 : Ev c l X env Γ e2 d2) (h : P2 c (compareOp op) d1 d2 d) (hm : autoParam (behindInMarks op e2 = false) aU) :
  Ev c l X env Γ (.Compare e1 [op] [e2] pos) d := fun A s L G =>
 wpAny_Compare1 (h1.two h2 h L G fun v s3 p r => ⟨p, r⟩) hm
theorem Et.cmp {op : CmpOp} (h1 : Ev c l X env Γ e1 d1) (h2 : Ev c l X env Γ e2 d2) (h : P2 c (compareOp op) d1 d2 (.bool b)) (hm : autoParam (behindInMarks op e2 = false) aU) :
  Et c l X env Γ (.Compare e1 [op] [e2] pos) b := fun A s L G =>
 wpAny_isTrue_Compare1 (h1.two h2 h L G fun v s3 p r => r.yc ⟨rfl, p⟩) hm
theorem Et.not (h : Et c l X env Γ e b) : Et c l X env Γ (.UnaryOp .Not e pos) (!b) := fun A s L G =>
 wpAny_isTrue_Not (wK (h A s L G) (fun r s' q => ⟨by rw [q.1], q.2⟩))
theorem Et.val (h : Ev c l X env Γ e d) (t : Tru c d b) (he : autoParam (∀ whole, isTrue e env whole = (do let v <- whole; standAt e.pos; holding [v] (truthy v))) aI) : Et c l X env Γ e b := fun A s L G =>
 wpAny_isTrue_value (h.use L G fun v s1 p1 r1 G1 => wK (t l A X s1 v L G1.bas r1) (fun r s' q => ⟨q.1, p1.trans q.2⟩)) (he _)
theorem Et.and2 {x y : Expr} {a : Bool} (h1 : Et c l X env Γ x a) (h2 : a = true -> Et c l X env Γ y b) : Et c l X env Γ (.BoolOp .And [x, y] pos) (a && b) := fun A s L G => by
 refine wpAny_isTrue_BoolOp (wpAny_allTrue_And_cons (wK (h1 A s L G) (fun r s' q => ?_)))
 obtain ⟨rfl, p⟩ := q
 cases r with
 | false => exact ⟨rfl, p⟩
 | true =>
  simp only [if_true, Bool.true_and]
  refine wpAny_allTrue_And_cons (wK (h2 rfl A s' L (G.hx0 p.hx)) (fun r s' q => ?_))
  obtain ⟨rfl, p'⟩ := q
  cases r with
  | false => exact ⟨rfl, p.trans p'⟩
  | true => exact wpAny_allTrue_And_nil ⟨rfl, p.trans p'⟩
theorem Et.or2 {x y : Expr} {a : Bool} (h1 : Et c l X env Γ x a) (h2 : a = false -> Et c l X env Γ y b) : Et c l X env Γ (.BoolOp .Or [x, y] pos) (a || b) := fun A s L G => by
 refine wpAny_isTrue_BoolOp (wpAny_allTrue_Or_cons (wK (h1 A s L G) (fun r s' q => ?_)))
 obtain ⟨rfl, p⟩ := q
 cases r with
 | true => exact ⟨rfl, p⟩
 | false =>
  simp only [Bool.false_eq_true, if_false, Bool.false_or]
  refine wpAny_allTrue_Or_cons (wK (h2 rfl A s' L (G.hx0 p.hx)) (fun r s' q => ?_))
  obtain ⟨rfl, p'⟩ := q
  cases r with
  | true => exact ⟨rfl, p.trans p'⟩
  | false => exact wpAny_allTrue_Or_nil ⟨rfl, p.trans p'⟩
theorem Ev.not (h : Ev c l X env Γ e d) (t : Tru c d b) : Ev c l X env Γ (.UnaryOp .Not e pos) (.bool (!b)) := fun A s L G =>
 wpAny_UnaryOp (h.use L G fun v s1 p1 r1 G1 => not_value (wK (t l A X s1 v L G1.bas r1) (fun r s' q => ⟨p1.trans q.2, by rw [q.1]; exact .bool _⟩)))
theorem Ev.zX {body orelse : Expr} (ht : Et c l X env Γ test b) (h1 : b = true -> Ev c l X env Γ body d) (h2 : b = false -> Ev c l X env Γ orelse d) : Ev c l X env Γ (.IfExp test body orelse pos) d := fun A s L G => by
 refine wpAny_IfExp (wK (ht A s L G) (fun r s' q => ?_))
 obtain ⟨rfl, p⟩ := q
 cases r with
 | true => exact (h1 rfl).use L (G.hx0 p.hx) fun v s2 p2 r2 _ => ⟨p.trans p2, r2⟩
 | false => exact (h2 rfl).use L (G.hx0 p.hx) fun v s2 p2 r2 _ => ⟨p.trans p2, r2⟩
theorem EvA.nil : EvA c l X env Γ pos [] [] := fun A s _ _ => wpAny_items_nil ⟨.refl, .nil⟩
theorem EvA.cons {es : List Expr} (h : Ev c l X env Γ e d) (hs : EvA c l X env Γ pos es ds) (he : autoParam (starEach (e :: es) env = (false, eval e env) :: starEach es env) aR) :
  EvA c l X env Γ pos (e :: es) (d :: ds) := fun A s L G =>
 wpAny_items_cons (h.use L G fun v s1 p1 r1 G1 => wK (hs A s1 L G1) (fun vs s2 q => ⟨p1.trans q.1, .cons (r1.hx0 q.1.hx G.bas.frs) q.2⟩)) he
theorem Ev.list {es : List Expr} (h : EvA c l X env Γ pos es ds) (hz : autoParam (ds.length <= 1000) aD) : Ev c l X env Γ (.List es pos) (.list ds) := fun A s L G =>
 wpAny_List (wK (h A s L G) (fun vs s1 q => ⟨by rw [q.2.length, sizeLine_eq]; omega, q.1.trans .fH, Rd.newList (c := c) G.bas.frs (fun a ha => q.1.hx.alive (fun z => nomatch z) (G.bas.alloc a ha)) q.2⟩))
theorem Ev.call {f : Str} {es : List Expr} (hg : Glb c f v) (hf : env.kindOf f = some .globalImplicit) (hk : gO c v) (ha : EvA c l X env Γ pos (e :: es) ds) (h : aO c l v ds d)
  (hd : autoParam ((f == ("__debug__" : Str)) = false) aD) (he : autoParam (starEach (e :: es) env = (false, eval e env) :: starEach es env) aR) (hp : autoParam ((backTo pos (starEach es env)).any (·.1) = false) aR) :
  Ev c l X env Γ (.Call (.Name f np) (e :: es) [] pos) d := fun A s L G => by
 refine wpAny_Call_ofName (wpAny_Name (hg A _ s env _ G.bas.stays G.globals G.builtins G.kind hf ?_) hd)
 show wpAny c.M A (callWith pos v [] (backTo pos (starEach (e :: es) env)) []) _ _ s
 have a := ha A s L G
 rw [he] at a ⊢
 refine callWith_of (P := fun h => c.base.StaysIn h) (by show ((false || (backTo pos (starEach es env)).any (·.1)) || false) = false; rw [hp]; rfl) hk (evalArgs_plain (wK a (fun vs s1 q => ?_)))
 have G1 := G.hx0 q.1.hx
 exact ⟨G1.bas.stays, wK (h A X s1 vs L G1.bas q.2) (fun v s2 r => ⟨q.1.trans r.1, r.2⟩)⟩
theorem Ev.sub {slice : Expr} (h1 : Ev c l X env Γ value d1) (h2 : Ev c l X env Γ slice d2) (h : P2 c (subscriptTail value slice) d1 d2 d) : Ev c l X env Γ (.Subscript value slice pos) d := fun A s L G =>
 Subscript_ (h1.two h2 h L G fun v s3 p r => ⟨p, r⟩)
theorem P2.eY {a b : Int} (h : ∀ l A X s ta tb, Lev l A -> Bas c A X s.heap -> wpAny c.M A (t (.int a ta) (.int b tb)) (Yield c X s d) NoE s) : P2 c t (.int a) (.int b) d := fun l A X s v1 v2 L B r1 r2 => by
 have h1 := r1.int_inv; have h2 := r2.int_inv; clear r1 r2
 obtain ⟨ta⟩ := h1; obtain ⟨tb⟩ := h2
 exact h l A X s _ _ L B
theorem P2.add {a b : Int} : P2 c (binaryOp .Add) (.int a) (.int b) (.int (a + b)) := .eY fun l A X s ta tb _ _ => add_int ⟨.tk, .int _ _⟩
theorem P2.sub {a b : Int} : P2 c (binaryOp .Sub) (.int a) (.int b) (.int (a - b)) := .eY fun l A X s ta tb _ _ => sub_int ⟨.tk, .int _ _⟩
theorem P2.mul {a b : Int} (hm : autoParam (IntMulOk a b) aM) : P2 c (binaryOp .Mult) (.int a) (.int b) (.int (a * b)) := .eY fun l A X s ta tb _ _ => mul_int ⟨.tk, .int _ _⟩ hm
theorem P2.mod {a b : Int} (hb : b ≠ 0) : P2 c (binaryOp .Mod) (.int a) (.int b) (.int (a.fmod b)) := .eY fun l A X s ta tb _ _ => mod_int' hb ⟨.tk, .int _ _⟩
theorem P2.div {a b : Int} (hb : b ≠ 0) (hp : Builtin.divisionGoesByPylong a b = false) : P2 c (binaryOp .FloorDiv) (.int a) (.int b) (.int (a.fdiv b)) := .eY fun l A X s ta tb _ _ => floordiv_int hb ⟨.tk, .int _ _⟩ (.inl hp)
theorem P2.pow {a b : Int} (h0 : 0 <= b) (h1 : b <= 1000000) (ha : a.natAbs < 2 ^ 64) : P2 c (binaryOp .Pow) (.int a) (.int b) (.int (a ^ b.toNat)) := .eY fun l A X s ta tb _ _ => pow_int_small h0 h1 ha ⟨.tk, .int _ _⟩
theorem P2.eqI {a b : Int} : P2 c (compareOp .Eq) (.int a) (.int b) (.bool (a == b)) := .eY fun l A X s ta tb _ _ => eq_int ⟨.refl, .bool _⟩
theorem P2.neI {a b : Int} : P2 c (compareOp .NotEq) (.int a) (.int b) (.bool (a != b)) := .eY fun l A X s ta tb _ _ => ne_int ⟨.refl, .bool _⟩
theorem P2.ltI {a b : Int} : P2 c (compareOp .Lt) (.int a) (.int b) (.bool (decide (a < b))) := .eY fun l A X s ta tb _ _ => lt_int ⟨.refl, .bool _⟩
theorem Lev.units (L : Lev l A) : A.units <= 580 := by obtain ⟨_, h2, h3⟩ := L; omega
theorem Lev.depth (L : Lev l A) : A.depth <= 460 := by obtain ⟨h1, _, h3⟩ := L; omega
theorem mR : cLine = 9900 := rfl
theorem P2.eq (h1 : d1.canLay0 = true) (h2 : d2.canLay0 = true) (hd : d1.depth <= 1000) : P2 c (compareOp .Eq) d1 d2 (.bool (PyData.eqv d1 d2)) := fun l A X s v1 v2 L B r1 r2 => by
 obtain ⟨_, q1⟩ := r1.reads h1
 obtain ⟨_, q2⟩ := r2.reads h2
 refine SeqAt.compareEq_reads q1 q2 h1 h2 ?_ ⟨.refl, .bool _⟩
 have := L.units
 rw [mR]; omega
theorem P2.ne (h1 : d1.canLay0 = true) (h2 : d2.canLay0 = true) (hd : d1.depth <= 1000) : P2 c (compareOp .NotEq) d1 d2 (.bool (!PyData.eqv d1 d2)) := fun l A X s v1 v2 L B r1 r2 => by
 obtain ⟨_, q1⟩ := r1.reads h1
 obtain ⟨_, q2⟩ := r2.reads h2
 refine SeqAt.compareNe_reads q1 q2 h1 h2 ?_ ⟨.refl, .bool _⟩
 have := L.units
 rw [mR]; omega
theorem P2.inL (h1 : d.canLay0 = true) (h2 : PyData.canLayAll0 ds = true) (hd : d.depth <= 1000) : P2 c (compareOp .In) d (.list ds) (.bool (ds.any fun y => PyData.eqv y d)) := fun l A X s v1 v2 L B r1 r2 => by
 obtain ⟨_, q1⟩ := r1.reads h1
 obtain ⟨_, q2⟩ := r2.reads (d := .list ds) (by simpa [PyData.canLay0] using h2)
 refine SeqAt.in_list_reads q2 q1 h2 h1 ?_ ⟨.refl, .bool _⟩
 have := L.units
 rw [mR]; omega
theorem P2.uJ (h1 : d.canLay0 = true) (h2 : PyData.canLayAll0 ds = true) (hd : d.depth <= 1000) : P2 c (compareOp .NotIn) d (.list ds) (.bool (!ds.any fun y => PyData.eqv y d)) := fun l A X s v1 v2 L B r1 r2 => by
 obtain ⟨_, q1⟩ := r1.reads h1
 obtain ⟨_, q2⟩ := r2.reads (d := .list ds) (by simpa [PyData.canLay0] using h2)
 refine SeqAt.notIn_list_reads q2 q1 h2 h1 ?_ ⟨.refl, .bool _⟩
 have := L.units
 rw [mR]; omega
theorem Tru.bool : Tru c (.bool b) b := fun l A X s v L B r => r.yc ⟨rfl, .refl⟩
theorem Tru.none : Tru c .none false := fun l A X s v L B r => r.none_inv ▸ PyProof.Rows.truthy_none ⟨rfl, .refl⟩
theorem Tru.list (hz : ds.length <= 2 ^ 30) : Tru c (.list ds) (!ds.isEmpty) := fun l A X s v L B r => by
 have hz := r.aQ; clear r; obtain ⟨_, _, _, ha, e, q⟩ := hz
 refine wpAny_truthy_list ⟨_, e, rfl, _, rfl⟩ (by rw [List.size_toArray, q.length]; omega) ⟨?_, .tk⟩
 rw [List.isEmpty_toArray]
 rw [q.isEmpty]
theorem Tru.str {x : Str} (hz : x.length <= 2 ^ 30) : Tru c (.str x) ((x.length : Int) != 0) := fun l A X s v L B r => by
 have hz := r.str_inv; clear r; obtain ⟨t⟩ := hz
 exact PySem.P.truthy_str (by omega) ⟨rfl, .tk⟩
theorem P2.Ko {a : Int} (h : ∀ l A X s x vs n ta, Lev l A -> Bas c A X s.heap -> x ∉ X -> s.heap.get? x = some (bH vs n) -> RdL c.w X s.heap vs ds -> wpAny c.M A (t (.ref x) (.int a ta)) (Yield c X s d) NoE s) : P2 c t (.list ds) (.int a) d := fun l A X s v1 v2 L B r1 r2 => by
 have h1 := r1.aQ; have h2 := r2.int_inv; clear r1 r2
 obtain ⟨a, vs, n, ha, e, q⟩ := h1; obtain ⟨t⟩ := h2; exact h l A X s _ _ _ _ L B ha e q
theorem P2.item {slice : Expr} {i : Int} (h0 : 0 <= i) (h1 : i < 2 ^ 63) (hx : ds[i.toNat]? = some d) (hs : autoParam (∀ o i, subscripted slice false o i = operate [o, i] (getItem o i)) aU) :
  P2 c (subscriptTail value slice) (.list ds) (.int i) d := .Ko fun l A X s x vs n ta L B ha e q => by
 obtain ⟨v, hv, r⟩ := q.get _ hx
 have hL : s.heap.IsList x vs.toArray := ⟨_, e, rfl, _, rfl⟩
 exact tail_any hL.typeIs slot_list_getitem.lookup (wpAny_getItem_list hL h0 h1 (by simpa using hv) ⟨.refl, r⟩) (hs _ _)
variable {depth : Int}
inductive Iu (c : Cfg) (X : List Addr) (h : Heap) : Value -> PyData -> Prop
 | mk (T vs ds : _) (t : h.IsTuple T vs.toArray) (r : RdL c.w X h vs ds) : Iu c X h (.ref T) (.tuple ds)
noncomputable def ItV (c : Cfg) (pair : Bool) (X : List Addr) (h : Heap) (v : Value) (d : PyData) : Prop :=
 if pair then Iu c X h v d else Rd c.w X h v d
inductive NxI (c : Cfg) (pair : Bool) (fp : List Addr) (St : List Addr -> Nat -> Heap -> Prop) (s : Shared) (X : List Addr) (i : Nat) (d : PyData) (v : Value) : Shared -> Prop
 | mk (h' : Heap) (tk : Nat) (q : HX c fp s.heap h') (st : St X (i + 1) h') (iv : ItV c pair X h' v d) : NxI c pair fp St s X i d v { s with heap := h', toks := tk }
inductive NxE (c : Cfg) (fp : List Addr) (s : Shared) : Option Value -> Shared -> Prop
 | mk (h' : Heap) (tk : Nat) (q : HX c fp s.heap h') : NxE c fp s none { s with heap := h', toks := tk }
inductive TgI : Bool -> Expr -> Prop
 | name {x p : _} : TgI false (.Name x p)
 | tuple {es k p : _} : TgI true (.Tuple es k p)
structure ItS (c : Cfg) (pair : Bool) (I : Addr) (fp : List Addr) (ds : List PyData) (St : List Addr -> Nat -> Heap -> Prop) : Prop where
 alive : ∀ X i h, St X i h -> ∀ a ∈ fp, ∃ o, h.get? a = some o
 keep : ∀ X i h h' Y, St X i h -> HX c Y h h' -> (∀ a ∈ c.fr, a ∈ X /\ a ∉ fp) -> (∀ y ∈ Y, y ∈ X /\ y ∉ fp) -> St X i h'
 wide : ∀ X X' i h, St X i h -> (∀ a ∈ X', a ∈ X \/ h.get? a = none) -> St X' i h
 item : ∀ (A : Around) (s : Shared) (X : List Addr) (i : Nat) (d : PyData) (tg : Expr), A.handled = none -> TgI pair tg -> St X i s.heap -> (∀ a ∈ fp, a ∈ X /\ c.base.get? a = none /\ a ∉ c.fr) -> (∀ a ∈ c.fr, a ∈ X) -> ds[i]? = some d ->
  wpAny c.M A (pyNext (.ref I)) (fun r s1 => ∃ v, r = some v /\ wpAny c.M A (letOwnedTupleGo tg (.ref I) v) (fun _ s2 => NxI c pair fp St s X i d v s2) NoE s1) NoE s
 done : ∀ (A : Around) (s : Shared) (X : List Addr), A.handled = none -> St X ds.length s.heap -> (∀ a ∈ fp, a ∈ X /\ c.base.get? a = none /\ a ∉ c.fr) ->
  wpAny c.M A (pyNext (.ref I)) (NxE c fp s) NoE s
 self : ∀ (A : Around) (s : Shared) (X : List Addr) (i : Nat), St X i s.heap -> wpAny c.M A (pyIter (.ref I)) (fun v s' => v = .ref I /\ s' = s) NoE s
theorem iC {x : Str} {it : Value} {Q : Unit -> Shared -> Prop} (h : Q () s) : wpAny M A (letOwnedTupleGo (.Name x p) it v) Q E s := wP h
inductive TgN : Expr -> Prop
 | mk (x p : _) : TgN (.Name x p)
inductive TgT : Expr -> Prop
 | mk (es k p : _) : TgT (.Tuple es k p)
theorem zY {pair : Bool} (h : TgI pair tg) : if pair then TgT tg else TgN tg := by
 cases h with
 | name => exact .mk ..
 | tuple => exact .mk ..
theorem jz (h : TgI false tg) : TgN tg := zY h
theorem mU (h : TgI true tg) : TgT tg := zY h
inductive StL (c : Cfg) (I ax : Addr) (ds : List PyData) (X : List Addr) (i : Nat) (h : Heap) : Prop
 | mk (it : h.IsListIter I ax i) (off : ax ∉ X) (vs : List Value) (n : Nat) (e : h.get? ax = some (bH vs n)) (r : RdL c.w X h vs ds)
theorem HX.jA (x : HX c Y h h') {I l : Addr} {i : Nat} (ha : I ∉ Y) (n : h.IsListIter I l i) : h'.IsListIter I l i := by
 obtain ⟨o, e, cl, d⟩ := n
 obtain ⟨o', e', cl', _, d'⟩ := x.get ha e
 exact ⟨o', e', cl'.trans cl, d'.trans d⟩
theorem StL.keep {ax : Addr} (st : StL c I ax ds X i h) (q : HX c Y h h') (hF : ∀ a ∈ c.fr, a ∈ X /\ a ∉ [I]) (hy : ∀ y ∈ Y, y ∈ X /\ y ∉ [I]) : StL c I ax ds X i h' := by
 obtain ⟨h1, h2, vs, n, h3, h4⟩ := st
 exact ⟨q.jA (fun z => (hy _ z).2 (.head _)) h1, h2, vs, n, q.exact (fun z => h2 (hy _ z).1) (fun z => h2 (hF _ z).1) h3, h4.hx q (fun a z => (hF a z).1) fun y z => (hy y z).1⟩
theorem StL.wide {ax : Addr} (st : StL c I ax ds X i h) (hy : ∀ a ∈ X', a ∈ X \/ h.get? a = none) : StL c I ax ds X' i h := by
 obtain ⟨h1, h2, vs, n, h3, h4⟩ := st
 exact ⟨h1, fun z => (hy _ z).elim h2 fun e => (by rw [e] at h3; cases h3), vs, n, h3, h4.wide hy⟩
theorem ItS.off (hf : ∀ a ∈ [I], a ∈ X /\ c.base.get? a = none /\ a ∉ c.fr) (he : ∀ b o, b ≠ I -> h.get? b = some o -> h'.get? b = some o) : HX c [I] h h' :=
 .of_keep (fun b o hb e => he b o (fun z => hb (z ▸ .head _)) e) (fun y hy => (hf y hy).2.1) fun y hy => (hf y hy).2.2
theorem zZ {pair : Bool} {ax : Addr} (hp : pair = true -> ∀ d ∈ ds, ∃ es, d = .tuple es) : ItS c pair I [I] ds (StL c I ax ds) where
 alive := fun X i h st a ha => by
  obtain ⟨⟨o, e, _⟩, _⟩ := st
  rw [lS ha]
  exact ⟨o, e⟩
 keep := fun X i h h' Y st q hF hy => st.keep q hF hy
 wide := fun X X' i h st hy => st.wide hy
 item := fun A s X i d tg hh ht st hf hF hd => by
  obtain ⟨h1, h2, vs, n, h3, h4⟩ := st
  obtain ⟨v, hv, r⟩ := h4.get _ hd
  obtain ⟨hI, hIb, hIf⟩ := hf I (.head _)
  have hL : s.heap.IsList ax vs.toArray := ⟨_, h3, rfl, _, rfl⟩
  refine wpAny_pyNext_list_item h1 hL (x := v) (by simpa using hv) fun h' hit' hs' => ⟨v, rfl, ?_⟩
  have q : HX c [I] s.heap h' := .sameBut hs' hIb hIf
  have st' : StL c I ax ds X (i + 1) h' := by
   refine ⟨hit', h2, vs, n, q.exact (fun z => h2 (lS z ▸ hI)) (fun z => h2 (hF _ z)) h3, h4.hx q hF fun y z => lS z ▸ hI⟩
  have r' : Rd c.w X h' v d := r.hx q hF fun y z => lS z ▸ hI
  cases pair with
  | false =>
   obtain ⟨x, p⟩ := jz ht
   exact iC ⟨h', s.toks, q, st', r'⟩
  | true =>
   obtain ⟨es, k, p⟩ := mU ht
   obtain ⟨es', rfl⟩ := hp rfl d (lG hd)
   have hz := r'.cX; clear r r' hv
   obtain ⟨T, us, _, ha, e, rr⟩ := hz
   exact wpAny_letOwnedTupleGo_listiter (T := _) hit' ⟨h', s.toks, q, st', _, _, _, ⟨_, e, rfl, _, rfl⟩, rr⟩
 done := fun A s X hh st hf => by
  obtain ⟨h1, h2, vs, n, h3, h4⟩ := st
  have hL : s.heap.IsList ax vs.toArray := ⟨_, h3, rfl, _, rfl⟩
  refine wpAny_pyNext_list_end hh h1 hL (by simp [h4.length]) fun h' he' => ⟨h', s.toks, ItS.off hf he'⟩
 self := fun A s X i st => wpAny_pyIter_listiter st.1 ⟨rfl, rfl⟩
inductive MMI (g : α -> β) (l : List α) : β -> Prop
 | mk (k : α) (h : k ∈ l) : MMI g l (g k)
theorem bx {g : α -> β} {l : List α} {d : β} (h : d ∈ l.map g) : MMI g l d := by
 obtain ⟨k, e, rfl⟩ := List.mem_map.mp h
 exact ⟨k, e⟩
inductive Iv (g : α -> β) (l : List α) (i : Nat) : β -> Prop
 | mk (k : α) (h : l[i]? = some k) : Iv g l i (g k)
theorem dO {ks : List α} {g : α -> β} {d : β} (h : (ks.map g)[i]? = some d) : Iv g ks i d := by
 rw [List.getElem?_map] at h
 obtain ⟨k, e, rfl⟩ := Option.map_eq_some_iff.mp h
 exact ⟨k, e⟩
noncomputable def rng (a : Int) (n : Nat) : List PyData := (List.range n).map fun i => .int (a + (i : Nat))
noncomputable def StR (I : Addr) (a : Int) (n : Nat) (_X : List Addr) (i : Nat) (h : Heap) : Prop := IsRangeIter h I (a + (i : Nat)) ((n : Int) - (i : Nat)) 1
theorem En {a : Int} {n : Nat} (h : (rng a n)[i]? = some d) : i < n /\ d = .int (a + (i : Nat)) := by
 obtain ⟨k, e⟩ := dO h
 obtain ⟨hi, rfl⟩ := List.getElem?_eq_some_iff.mp e
 rw [List.getElem_range]
 exact ⟨List.length_range (n := n) ▸ hi, rfl⟩
theorem yd {a : Int} {n : Nat} : ItS c false I [I] (rng a n) (StR I a n) where
 alive := fun X i h st a ha => by
  rw [lS ha]
  exact ⟨_, st⟩
 keep := fun X i h h' Y st q hF hy => q.exact (fun z => (hy _ z).2 (.head _)) (fun z => (hF _ z).2 (.head _)) st
 wide := fun X X' i h st hy => st
 item := fun A s X i d tg hh ht st hf hF hd => by
  obtain ⟨hi, rfl⟩ := En hd
  obtain ⟨x, p⟩ := jz ht
  obtain ⟨hI, hIb, hIf⟩ := hf I (.head _)
  refine wpAny_pyNext_range_item st (by omega) fun h' hit' hs' => ⟨_, rfl, iC ⟨h', _, .sameBut hs' hIb hIf, ?_, .int _ _⟩⟩
  unfold StR
  have e1 : a + ((i + 1 : Nat) : Int) = a + (i : Int) + 1 := by omega
  have e2 : (n : Int) - ((i + 1 : Nat) : Int) = (n : Int) - (i : Int) - 1 := by omega
  rw [e1, e2]; exact hit'
 done := fun A s X hh st hf => by
  have hl : (rng a n).length = n := by simp [rng]
  unfold StR at st
  refine wpAny_pyNext_range_end hh st (by rw [hl]; omega) fun h' he' => ⟨h', s.toks, ItS.off hf he'⟩
 self := fun A s X i st => wpAny_pyIter_rangeiter st ⟨rfl, rfl⟩
inductive ItP (c : Cfg) (X : List Addr) (pair : Bool) (ds : List PyData) (s : Shared) : Value -> Shared -> Prop
 | mk {s2 : Shared} (p : Pst c s s2) (I : Addr) (fp : List Addr) (St : List Addr -> Nat -> Heap -> Prop) (IT : ItS c pair I fp ds St) (st : St (fp ++ X) 0 s2.heap) (new : ∀ a ∈ fp, s.heap.get? a = none) : ItP c X pair ds s (.ref I) s2
noncomputable def EvI (c : Cfg) (l : Nat) (X : List Addr) (env : Env) (Γ : Gam) (pair : Bool) (e : Expr) (ds : List PyData) : Prop :=
 ∀ A s, Lev l A -> Good c A X env Γ s.heap -> wpAny c.M A (eval e env) (fun x s1 => wpAny c.M A (pyIter x) (ItP c X pair ds s) NoE s1) NoE s
theorem EvI.ofList {pair : Bool} (h : Ev c l X env Γ e (.list ds)) (hp : autoParam (pair = true -> ∀ d ∈ ds, ∃ es, d = .tuple es) aH) : EvI c l X env Γ pair e ds := fun A s L G =>
 h.use L G fun v s1 p1 r1 G1 => by
  have hz := r1.aQ; clear r1; obtain ⟨ax, vs, n, ha, ea, q⟩ := hz
  have hL : s1.heap.IsList ax vs.toArray := ⟨_, ea, rfl, _, rfl⟩
  refine wpAny_pyIter_list hL ⟨p1.trans .fH, s1.heap.objs.size, [s1.heap.objs.size], StL c s1.heap.objs.size ax ds, zZ hp, ?_, ?_⟩
  ·have w := RdL.wide (X' := [s1.heap.objs.size] ++ X) (fun a hm => by
    rcases lA hm with z | z
    ·rw [lS z]; exact .inr (ak (Nat.le_refl _))
    ·exact .inl z) q
   refine ⟨⟨_, hP _ rfl, rfl, rfl⟩, ?_, vs, n, Heap.get?_push_of_some _ ea, w.hx0 (c := c) (.push _ _) (fun a z => lR _ (G1.bas.frs a z))⟩
   intro hm
   rcases lA hm with z | z
   ·rw [lS z] at ea
    exact absurd (Heap.lt_size ea) (Nat.lt_irrefl _)
   ·exact ha z
  ·intro a hm
   rw [lS hm]
   exact p1.hx.none_of (fun z => nomatch z) (ak (Nat.le_refl _))
theorem EvI.ofRange {f : Str} {n : Nat} (hg : Glb c f (.type "range")) (hf : env.kindOf f = some .globalImplicit) (h : Ev c l X env Γ e (.int (n : Nat))) (hn : n <= 10 ^ 9)
  (hd : autoParam ((f == ("__debug__" : Str)) = false) aD) (he : autoParam (starEach [e] env = (false, eval e env) :: starEach [] env) aR) : EvI c l X env Γ false (.Call (.Name f np) [e] [] pos) (rng 0 n) := fun A s L G => by
 refine wpAny_Call_ofName (wpAny_Name (hg A _ s env _ G.bas.stays G.globals G.builtins G.kind hf ?_) hd)
 have a := EvA.cons (pos := pos) h .nil he A s L G
 show wpAny c.M A (callWith pos (.type "range") [] (backTo pos (starEach [e] env)) []) _ _ s
 rw [he] at a ⊢
 refine callWith_of (P := fun h => c.base.StaysIn h) rfl dJ (evalArgs_plain (wK a (fun vs s1 q => ?_)))
 obtain ⟨p1, q⟩ := q
 refine ⟨(G.hx0 p1.hx).bas.stays, ?_⟩
 have hz := q.bO; clear q; obtain ⟨_, r⟩ := hz
 have hz := r.int_inv; clear r; obtain ⟨t⟩ := hz
 refine call_range_1 ?_
 have hz : Builtin.Range.rangeSize 0 (n : Int) 1 = ((n : Nat) : Int) := by rw [rangeSize_nat]; omega
 refine wpAny_pyIter_range (IsRange.new ..) ?_ ?_
 ·unfold Builtin.Range.small
  rw [hz]
  simp [Builtin.Range.rangeFitsLong]
  omega
 ·refine ⟨p1.trans (Pst.push.trans .fH), _, [_], StR _ 0 n, yd, ?_, ?_⟩
  ·unfold StR
   rw [hz, show (0 : Int) + ((0 : Nat) : Int) = 0 from rfl, show ((n : Nat) : Int) - ((0 : Nat) : Int) = (n : Int) from Int.sub_zero _]
   exact hP _ rfl
  ·intro a hm
   rw [lS hm]
   exact p1.hx.none_of (fun z => nomatch z) (ak (by show s1.heap.objs.size <= (s1.heap.push _).objs.size; rw [Heap.size_push]; exact Nat.le_succ _))
theorem Eo {m m' : Str -> Option Value} (x : h.Ns a m) (y : h.Ns a m') (n : Str) : m n = m' n := by
 obtain ⟨o, es, ep, e, d, _, r⟩ := x
 obtain ⟨o', es', ep', e', d', _, r'⟩ := y
 rw [e] at e'; cases e'
 rw [d] at d'; cases d'
 rw [<- r n, <- r' n]
theorem dU {m : Str -> Option Value} {v : Option Value} (x : h.Ns a m) (y : h.IsCell a v) : False := by
 obtain ⟨o, es, ep, e, d, _⟩ := x
 obtain ⟨o', e', d'⟩ := y
 rw [e] at e'; cases e'
 rw [d] at d'; cases d'
theorem gQ {m : Str -> Option Value} (x : h.Ns a m) : ∃ o, h.get? a = some o /\ lH o := by
 obtain ⟨o, es, ep, e, d, _⟩ := x
 exact ⟨o, e, fun vs q => by rw [d] at q; cases q⟩
theorem cU {v : Option Value} (x : h.IsCell a v) : ∃ o, h.get? a = some o /\ lH o := by
 obtain ⟨o, e, d⟩ := x
 exact ⟨o, e, fun vs q => by rw [d] at q; cases q⟩
inductive Tgt (env : Env) (h : Heap) (x : Str) (t : Addr) : Prop
 | loc {m : Str -> Option Value} : env.kindOf x = some .local -> t = env.locals -> h.Ns env.locals m -> Tgt env h x t
 | cell {v : Option Value} : env.kindOf x = some .cell -> env.cells.lookup x = some t -> h.IsCell t v -> Tgt env h x t
theorem Tgt.alive {x : Str} {t : Addr} (T : Tgt env h x t) : ∃ o, h.get? t = some o /\ lH o := by
 cases T with
 | loc _ e n => rw [e]; exact gQ n
 | cell _ _ n => exact cU n
theorem Tgt.hx {x : Str} {t : Addr} (T : Tgt env h x t) (q : HX c Y h h') (hy : t ∉ Y) : Tgt env h' x t := by
 cases T with
 | loc a e n => exact .loc a e (q.ns (e ▸ hy) n)
 | cell a e n => exact .cell a e (q.cell hy n)
theorem Tgt.same {x y : Str} {t u : Addr} (T : Tgt env h x t) (U : Tgt env h y u) (hs : Heap.SameBut t h h') (U' : Tgt env h' x t) : Tgt env h' y u := by
 by_cases e : u = t
 ·cases U with
  | loc k l n =>
   cases U' with
   | loc k' l' n' => exact .loc k l n'
   | cell k' l' n' =>
    cases T with
    | loc k2 l2 n2 => exact absurd (k'.symm.trans k2) (by decide)
    | cell k2 l2 n2 => rw [<- e, l] at n2; exact (dU n n2).elim
  | cell k l n =>
   cases U' with
   | loc k' l' n' =>
    cases T with
    | loc k2 l2 n2 => rw [e, l2] at n; exact (dU n2 n).elim
    | cell k2 l2 n2 => exact absurd (k'.symm.trans k2) (by decide)
   | cell k' l' n' => exact .cell k l (e ▸ n')
 ·cases U with
  | loc k l n => exact .loc k l (n.sameBut hs (l ▸ e))
  | cell k l n => exact .cell k l (n.sameBut hs e)
structure Kp (env : Env) (h h' : Heap) : Prop where
 tgt : ∀ y u, Tgt env h y u -> Tgt env h' y u
 ns : ∀ m, h.Ns env.locals m -> ∃ m', h'.Ns env.locals m'
theorem Kp.trans (x : Kp env h h') (y : Kp env h' h'') : Kp env h h'' := ⟨fun a u t => y.tgt _ _ (x.tgt _ _ t), fun m n => let ⟨m', n'⟩ := x.ns m n; y.ns m' n'⟩
theorem Kp.hx0 (q : HX c [] h h') : Kp env h h' := ⟨fun _ _ t => t.hx q (fun z => nomatch z), fun m n => ⟨m, q.ns (fun z => nomatch z) n⟩⟩
theorem pD {x : Str} {t : Addr} {Q : Unit -> Shared -> Prop} 
  (G : Good c A X env Γ s.heap) (T : Tgt env s.heap x t) (htX : t ∈ X) (hb : c.base.get? t = none)
  (k : ∀ h' tk, HX c [t] s.heap h' -> Heap.SameBut t s.heap h' -> Tgt env h' x t -> Kp env s.heap h' -> (∀ y u, y ≠ x -> Has env s.heap y u -> Has env h' y u) -> Has env h' x v -> Good c A X env (Γ.filter fun p => p.1 != x) h' -> Q () { s with heap := h', toks := tk }) :
  wpAny c.M A (storeName env x v) Q E s := by
 have key : ∀ h' tk, Heap.SameBut t s.heap h' -> Tgt env h' x t -> Has env h' x v -> (∀ m, s.heap.Ns env.locals m -> ∃ m', h'.Ns env.locals m' /\ ∀ z, z ≠ x -> m' z = m z) ->
   (∀ y a w, y ≠ x -> env.cells.lookup y = some a -> s.heap.IsCell a w -> h'.IsCell a w) -> (∀ a w, env.cells.lookup x = some a -> s.heap.IsCell a w -> ∃ w', h'.IsCell a w') -> Q () { s with heap := h', toks := tk } := by
  intro h' tk hs T' H hl hc hcx
  obtain ⟨o', e', n'⟩ := T'.alive
  have q : HX c [t] s.heap h' := .zV hs hb e' n'
  have hkeep : ∀ y u, y ≠ x -> Has env s.heap y u -> Has env h' y u := fun y u hne Hu => by
   cases Hu with
   | loc kk n e =>
    obtain ⟨m', n', e'⟩ := hl _ n
    exact .loc kk n' ((e' _ hne).trans e)
   | cell kk l i => exact .cell kk l (hc _ _ _ hne l i)
   | free kk l i dd => exact .free kk l (hc _ _ _ hne l i) dd
  have hY : ∀ y ∈ [t], y ∈ X := fun y hy => lS hy ▸ htX
  refine k h' tk q hs T' ⟨fun y u U => Tgt.same T U hs T', fun m n => let ⟨m', n', _⟩ := hl m n; ⟨m', n'⟩⟩ hkeep H ⟨⟨G.bas.handled, ?_, fun a ha => ?_, G.bas.frs⟩, G.kind, G.globals, G.builtins, G.cells, G.inj, fun y a e => ?_, fun p hp => ?_⟩
  ·obtain ⟨o, b, f⟩ := G.bas.below
   exact ⟨o, q.below f b, f⟩
  ·by_cases ea : a = t
   ·exact ⟨o', ea ▸ e'⟩
   ·exact q.alive (by simpa using ea) (G.bas.alloc a ha)
  ·obtain ⟨w, i⟩ := G.cal y a e
   by_cases ey : y = x
   ·subst ey
    exact hcx a w e i
   ·exact ⟨w, hc y a w ey e i⟩
  ·obtain ⟨hp1, hp2⟩ := List.mem_filter.mp hp
   have hne : p.1 ≠ x := by simpa using hp2
   obtain ⟨u, Hu, ru⟩ := G.vars p hp1
   exact ⟨u, hkeep _ _ hne Hu, ru.hx q G.bas.frs hY⟩
 cases T with
 | @loc m kx et n =>
  subst et
  refine wpAny_storeName_local kx n (fun h' hn hs => key h' _ hs (.loc kx rfl hn) (.loc kx hn (by simp)) (fun m2 n2 => ⟨_, hn, fun z hz => ?_⟩) (fun y a w hy l i => i.sameBut hs fun z => ?_) fun a w l i => ⟨w, i.sameBut hs fun z => ?_⟩) (by rw [G.kind]; rfl)
  ·rw [if_neg hz]; exact Eo n n2 z
  ·rw [z] at i; exact dU n i
  ·rw [z] at i; exact dU n i
 | @cell w kx et n =>
  refine wpAny_storeName_cell G.kind kx et n fun h' hi hs => key h' s.toks hs (.cell kx et hi) (.cell kx et hi) (fun m2 n2 => ⟨m2, n2.sameBut hs fun z => ?_, fun _ _ => rfl⟩) (fun y a w hy l i => i.sameBut hs fun z => hy (G.inj _ _ _ (z ▸ l) et)) fun a w l i => ⟨_, (by rw [l] at et; cases et; exact hi)⟩
  rw [<- z] at n; exact dU n2 n
theorem Good.put (G : Good c A X env Γ h) {x : Str} {v : Value} {d : PyData} (H : Has env h x v) (r : Rd c.w X h v d) : Good c A X env ((x, d) :: Γ) h :=
 { G with vars := fun p hp => (lC hp).elim (fun e => ⟨v, by rw [e]; exact H, by rw [e]; exact r⟩) (G.vars p) }
theorem rQ {x : Str} {t : Addr} {Q : Unit -> Shared -> Prop} 
  (G : Good c A X env Γ s.heap) (T : Tgt env s.heap x t) (htX : t ∈ X) (hb : c.base.get? t = none) (r : Rd c.w X s.heap v d)
  (k : ∀ h' tk, HX c [t] s.heap h' -> Heap.SameBut t s.heap h' -> Tgt env h' x t -> Kp env s.heap h' -> (∀ y u, y ≠ x -> Has env s.heap y u -> Has env h' y u) -> Good c A X env ((x, d) :: Γ.filter fun p => p.1 != x) h' -> Q () { s with heap := h', toks := tk }) :
  wpAny c.M A (storeName env x v) Q E s :=
 pD G T htX hb fun h' tk q hs T' kp kh H G' => k h' tk q hs T' kp kh (G'.put H (r.hx q G.bas.frs fun y hy => lS hy ▸ htX))
theorem Good.sub (G : Good c A X env Γ h) (hs : ∀ p ∈ Γ', p ∈ Γ) : Good c A X env Γ' h :=
 ⟨G.bas, G.kind, G.globals, G.builtins, G.cells, G.inj, G.cal, fun p hp => G.vars p (hs p hp)⟩
theorem Good.mut (G : Good c A X env Γ h) (q : HX c Y h h') (hY : ∀ y ∈ Y, y ∈ X) (hL : env.locals ∉ Y) (hC : ∀ x a, env.cells.lookup x = some a -> a ∉ Y)
  (hX : ∀ a ∈ X', a ∈ X) (hA : ∀ a ∈ X', a ∈ Y -> ∃ o, h'.get? a = some o) (hF : ∀ a ∈ c.fr, a ∈ X') : Good c A X' env Γ h' := by
 refine ⟨⟨G.bas.handled, ?_, fun a ha => ?_, hF⟩, G.kind, G.globals, G.builtins, G.cells, G.inj, fun x a e => let ⟨v, i⟩ := G.cal x a e; ⟨v, q.cell (hC _ _ e) i⟩, fun p hp => ?_⟩
 ·obtain ⟨o, b, f⟩ := G.bas.below
  exact ⟨o, q.below f b, f⟩
 ·by_cases ea : a ∈ Y
  ·exact hA a ha ea
  ·exact q.alive ea (G.bas.alloc a (hX a ha))
 ·obtain ⟨u, Hu, ru⟩ := G.vars p hp
  refine ⟨u, ?_, (ru.hx q G.bas.frs hY).sub hX⟩
  exact Hu.hxL q hL hC
noncomputable def clo (env : Env) : List (Str × NameKind) -> List (Str × Addr) -> List (Str × Addr)
 | [], acc => acc
 | (n, k) :: r, acc => clo env r (if k == .free then (match env.cells.lookup n with | some a => (n, a) :: acc | none => acc) else acc)
theorem jl (env : Env) (f : Str × NameKind -> List (Str × Addr) -> Sem (ForInStep (List (Str × Addr))))
  (hf : ∀ n k acc, f (n, k) acc = if k == .free then (do let a <- cellOf env n; pure (.yield ((n, a) :: acc))) else pure (.yield acc)) :
  ∀ (names : List (Str × NameKind)) (acc : List (Str × Addr)), (∀ p ∈ names, p.2 = .free -> ∃ a, env.cells.lookup p.1 = some a) -> forIn names acc f = pure (clo env names acc)
 | [], acc, _ => by rw [List.forIn_nil]; rfl
 | (n, k) :: r, acc, h => by
  rw [List.forIn_cons, hf]
  unfold clo
  by_cases hk : k = .free
  ·subst hk
   obtain ⟨a, e⟩ := h (n, .free) (.head _) rfl
   have e1 : cellOf env n = pure a := by unfold cellOf; rw [e]
   simp only [beq_self_eq_true, if_true, e1, e, pure_bind]
   exact jl env f hf r _ fun p hp => h p (.tail _ hp)
  ·have : (k == NameKind.free) = false := by simpa using hk
   simp only [this, Bool.false_eq_true, if_false, pure_bind]
   exact jl env f hf r _ fun p hp => h p (.tail _ hp)
theorem oJ (h : ∀ p ∈ scope.names, p.2 = .free -> ∃ a, env.cells.lookup p.1 = some a) : closureFor scope env = pure (clo env scope.names []) := by
 delta closureFor
 dsimp only
 rw [jl env _ (fun n k acc => by cases k <;> rfl) scope.names [] h]
 rfl
theorem mC {x : Str} {a : α} {acc : List (Str × α)} : ((x, a) :: acc).lookup x = some a := by rw [List.lookup_cons, beq_self_eq_true]
theorem vZ {x n : Str} {a : α} {acc : List (Str × α)} (h : x ≠ n) : ((n, a) :: acc).lookup x = acc.lookup x := by rw [List.lookup_cons, beq_eq_false_iff_ne.mpr h]
theorem mD {x n : Str} {k a : α} {acc : List (Str × α)} (e : ((n, k) :: acc).lookup x = some a) : (x = n /\ k = a) \/ (x ≠ n /\ acc.lookup x = some a) :=
 (Decidable.em (x = n)).elim (fun h => .inl ⟨h, Option.some.inj (mC.symm.trans (h ▸ e))⟩) fun h => .inr ⟨h, (vZ h).symm.trans e⟩
theorem Ep {x : Str} {names : List (Str × NameKind)} : ∀ {acc : List (Str × Addr)}, x ∉ names.map (·.1) -> (clo env names acc).lookup x = acc.lookup x := by
 induction names with
 | nil => exact fun _ => rfl
 | cons p r ih =>
  intro acc h
  refine (ih fun e => h (.tail _ e)).trans ?_
  split
  ·split
   ·exact vZ fun e => h (e ▸ .head _)
   ·rfl
  ·rfl
theorem z6 {x : Str} {names : List (Str × NameKind)} : ∀ {acc : List (Str × Addr)}, (∀ y b, acc.lookup y = some b -> env.cells.lookup y = some b) -> (clo env names acc).lookup x = some a -> env.cells.lookup x = some a := by
 induction names with
 | nil => exact fun h e => h _ _ e
 | cons p r ih =>
  intro acc h e
  refine ih ?_ e
  split
  ·split
   ·rename_i b hb
    exact fun y b' e' => (mD e').elim (fun q => by rw [q.1, <- q.2]; exact hb) fun q => h _ _ q.2
   ·exact h
  ·exact h
theorem z7 {x : Str} {names : List (Str × NameKind)} : ∀ {acc : List (Str × Addr)}, (names.map (·.1)).Nodup -> (x, NameKind.free) ∈ names -> (∃ a, env.cells.lookup x = some a) -> (clo env names acc).lookup x = env.cells.lookup x := by
 induction names with
 | nil => exact fun _ hm => nomatch hm
 | cons p r ih =>
  intro acc hn hm hx
  have hn := List.nodup_cons.mp hn
  rcases lC hm with e | hm
  ·subst e
   refine (Ep hn.1).trans ?_
   obtain ⟨a, e⟩ := hx
   rw [e]; exact mC
  ·exact ih hn.2 hm hx
theorem eU {x : Str} {names : List (Str × NameKind)} : ∀ {n : Nat} {acc : List (Str × Addr)}, (x, NameKind.cell) ∉ names -> (cellsFrom n names acc).lookup x = acc.lookup x := by
 induction names with
 | nil => exact fun _ => rfl
 | cons p r ih =>
  intro n acc h
  obtain ⟨y, k⟩ := p
  unfold cellsFrom
  split
  ·rename_i hk
   exact (ih fun e => h (.tail _ e)).trans (vZ fun e => h (by rw [e, <- beq_iff_eq.mp hk]; exact .head _))
  ·exact ih fun e => h (.tail _ e)
theorem gR {x : Str} {names : List (Str × NameKind)} : ∀ {h : Heap} {acc : List (Str × Addr)}, (names.map (·.1)).Nodup -> (x, NameKind.cell) ∈ names ->
  ∃ a, (cellsFrom h.objs.size names acc).lookup x = some a /\ h.objs.size <= a /\ (pushCells h names).IsCell a none := by
 induction names with
 | nil => intro h acc _ hm; cases hm
 | cons p r ih =>
  intro h acc hn hm
  have hn := List.nodup_cons.mp hn
  rcases lC hm with e | hm
  ·subst e
   exact ⟨h.objs.size, (eU (n := h.objs.size + 1) (acc := (x, h.objs.size) :: acc) fun e => hn.1 (lM (f := (·.1)) e)).trans mC, Nat.le_refl _,
    (show Heap.IsCell (h.push { cls := .type "cell", data := .cell none }) h.objs.size none from ⟨_, hP _ rfl, rfl⟩).keeps (pushCells_keeps r _)⟩
  ·unfold cellsFrom pushCells
   split
   ·obtain ⟨a, e1, e2, e3⟩ := ih (h := h.push { cls := .type "cell", data := .cell none }) (acc := (p.1, h.objs.size) :: acc) hn.2 hm
    rw [Heap.size_push] at e1 e2
    exact ⟨a, e1, Nat.le_of_succ_le e2, e3⟩
   ·exact ih hn.2 hm
theorem yg {names : List (Str × NameKind)} : ∀ {n : Nat} {acc : List (Str × Addr)}, (∀ x y a, acc.lookup x = some a -> acc.lookup y = some a -> x = y) -> (∀ x a, acc.lookup x = some a -> a < n) ->
  ∀ x y a, (cellsFrom n names acc).lookup x = some a -> (cellsFrom n names acc).lookup y = some a -> x = y := by
 induction names with
 | nil => exact fun hi _ => hi
 | cons p r ih =>
  intro n acc hi hb
  unfold cellsFrom
  split
  ·refine ih (fun x y a e1 e2 => ?_) fun x a e => (mD e).elim (fun q => q.2 ▸ Nat.lt_succ_self _) fun q => Nat.lt_succ_of_lt (hb _ _ q.2)
   rcases mD e1 with q1 | q1 <;> rcases mD e2 with q2 | q2
   ·exact q1.1.trans q2.1.symm
   ·exact absurd (q1.2 ▸ hb _ _ q2.2) (Nat.lt_irrefl _)
   ·exact absurd (q2.2 ▸ hb _ _ q1.2) (Nat.lt_irrefl _)
   ·exact hi _ _ _ q1.2 q2.2
  ·exact ih hi hb
noncomputable def fY (env : Env) (scope : Scope) : Prop :=
 scope.kind = .function /\ (scope.names.map (·.1)).Nodup /\ (∀ p ∈ scope.names, p.2 = .free -> env.kindOf p.1 = some .cell \/ env.kindOf p.1 = some .free)
noncomputable def aq (scope : Scope) (cs : List (Str × Addr)) (C : Addr) (env : Env) : Env := compEnvC scope cs C env
theorem mem_lookup {x : Str} {k : α} {names : List (Str × α)} : (names.map (·.1)).Nodup -> (x, k) ∈ names -> names.lookup x = some k := by
 induction names with
 | nil => exact fun _ hm => nomatch hm
 | cons p r ih =>
  intro hn hm
  have hn := List.nodup_cons.mp hn
  obtain ⟨y, j⟩ := p
  rcases lC hm with e | hm
  ·rw [<- e]; exact mC
  ·exact (vZ fun (e : x = y) => hn.1 (e ▸ lM (f := (·.1)) hm)).trans (ih hn.2 hm)
theorem Iw {g : Str × α -> β} {f : Str × α -> Str × β} (hf : ∀ p, f p = (p.1, g p)) {x : Str} {names : List (Str × α)} : (names.map f).lookup x = (names.lookup x).map fun k => g (x, k) := by
 induction names with
 | nil => rfl
 | cons p r ih =>
  rw [List.map_cons, hf, List.lookup_cons, List.lookup_cons, ih]
  cases q : x == p.1 with
  | true => rw [beq_iff_eq.mp q]; rfl
  | false => rfl
noncomputable def reK (env : Env) (p : Str × NameKind) : NameKind := if p.2 == .free && env.scope.kind == .function && env.kindOf p.1 == some .cell then .cell else p.2
theorem rR {cs : List (Str × Addr)} {x : Str} : (aq scope cs C env).kindOf x = (scope.names.lookup x).map fun k => reK env (x, k) :=
 Iw (g := reK env) fun p => by
  show (if _ then _ else _) = _
  unfold reK
  split <;> rfl
theorem eN {cs : List (Str × Addr)} {x : Str} {k : NameKind} (h : scope.names.lookup x = some k) :
  (aq scope cs C env).kindOf x = some (if k == .free && env.scope.kind == .function && env.kindOf x == some .cell then .cell else k) := by rw [rR, h]; rfl
theorem jY {cs : List (Str × Addr)} {x : Str} {k : NameKind} (h : (aq scope cs C env).kindOf x = some k) : ∃ k', scope.names.lookup x = some k' := by
 rw [rR] at h
 obtain ⟨k', e, _⟩ := Option.map_eq_some_iff.mp h
 exact ⟨k', e⟩
noncomputable def Cap (env : Env) (scope : Scope) (Γ Γc : Gam) : Prop := ∀ p ∈ Γc, p ∈ Γ /\ scope.names.lookup p.1 = some .free /\ (p.1 == ("__classdict__" : Str)) = false /\ (env.kindOf p.1 = some .cell \/ env.kindOf p.1 = some .free)
structure Er (c : Cfg) (A : Around) (X : List Addr) (env : Env) (scope : Scope) (Γc : Gam) (s : Heap) (cenv : Env) (N : List Addr) (h' : Heap) : Prop where
 keep : ∀ b o, s.get? b = some o -> h'.get? b = some o
 good : Good c A (N ++ X) cenv Γc h'
 tgt : ∀ x, scope.names.lookup x = some .local \/ scope.names.lookup x = some .cell -> ∃ t, t ∈ N /\ Tgt cenv h' x t
 new : ∀ a ∈ N, s.get? a = none
 loc : cenv.locals ∈ N /\ ∃ m, h'.Ns cenv.locals m
 cel : ∀ x a, cenv.cells.lookup x = some a -> a ∈ N \/ env.cells.lookup x = some a
theorem z8 {Q : Env -> Shared -> Prop} (G : Good c A X env Γ s.heap) (hs : fY env scope) (hc : Cap env scope Γ Γc)
  (k : ∀ cs C N h', Er c A X env scope Γc s.heap (aq scope cs C env) N h' -> (aq scope cs C env).locals = C -> Q { scope := scope, locals := C, globals := env.globals, cells := cs, qual := env.qual, func := none, code := env.code, frame := env.frame, builtins := env.builtins } { s with heap := h' }) :
  wpAny c.M A (newFunctionEnv scope env.globals (clo env scope.names []) [] env.qual none .none (some env)) Q E s := by
 obtain ⟨hk, hnd, hfr⟩ := hs
 simp only [newFunctionEnv, Option.isSome_some, if_true]
 refine wB (wpAny_alloc ?_)
 refine wB (wpAny_layCells _ (fun name kind cells => by cases hkc : kind == NameKind.cell <;> simp [hkc]) _ _ _ _ ?_)
 rw [List.forIn_nil]
 refine wB (wP (wP ?_))
 generalize hH : s.heap.push { cls := Value.type "dict", data := Data.dict #[] } = H
 have hz : H.objs.size = s.heap.objs.size + 1 := by rw [<- hH, Heap.size_push]
 have old : ∀ b o, s.heap.get? b = some o -> (pushCells H scope.names).get? b = some o := fun b o e => pushCells_keeps _ _ b o (hH ▸ Heap.get?_push_of_some _ e)
 have q0 : HX c [] s.heap (pushCells H scope.names) := .cP old
 have hacc : ∀ x a, (clo env scope.names []).lookup x = some a -> env.cells.lookup x = some a := fun x a e => z6 (by intro y b e; cases e) e
 have hNs : (pushCells H scope.names).Ns s.heap.objs.size (fun _ => none) := by
  have := (Heap.Ns.new s.heap (.type "dict")).keeps (pushCells_keeps scope.names _)
  rw [hH] at this; exact this
 have hcell : ∀ x, scope.names.lookup x = some .cell -> ∃ a, (cellsFrom H.objs.size scope.names (clo env scope.names [])).lookup x = some a /\ H.objs.size <= a /\ (pushCells H scope.names).IsCell a none := fun x hx => gR hnd (mem_of_lookup hx)
 have hfree : ∀ x, scope.names.lookup x = some .free -> (cellsFrom H.objs.size scope.names (clo env scope.names [])).lookup x = env.cells.lookup x /\ ∃ a, env.cells.lookup x = some a := fun x hx => by
  have hm := mem_of_lookup hx
  have ha := G.cells x (hfr _ hm rfl)
  refine ⟨?_, ha⟩
  rw [eU fun z => by rw [mem_lookup hnd z] at hx; cases hx]
  exact z7 hnd hm ha
 have hfrom : ∀ x a, (cellsFrom H.objs.size scope.names (clo env scope.names [])).lookup x = some a -> env.cells.lookup x = some a \/ (pushCells H scope.names).IsCell a none := fun x a e => by
  by_cases hm : (x, NameKind.cell) ∈ scope.names
  ·obtain ⟨b, e1, _, e3⟩ := hcell x (mem_lookup hnd hm)
   rw [e] at e1; cases e1
   exact .inr e3
  ·rw [eU hm] at e
   exact .inl (hacc x a e)
 have hinj := yg (names := scope.names) (n := H.objs.size) (acc := clo env scope.names []) (fun x y a e1 e2 => G.inj x y a (hacc _ _ e1) (hacc _ _ e2)) fun x a e => by
   obtain ⟨v, i⟩ := G.cal x a (hacc _ _ e)
   obtain ⟨o, e, _⟩ := cU i
   exact Nat.lt_of_lt_of_le (Heap.lt_size e) (by rw [hz]; exact Nat.le_succ _)
 have hoff : ∀ x a, (x, NameKind.cell) ∉ scope.names -> (cellsFrom H.objs.size scope.names (clo env scope.names [])).lookup x = some a -> env.cells.lookup x = some a := fun x a hm e => by
  rw [eU hm] at e
  exact hacc x a e
 generalize cellsFrom H.objs.size scope.names (clo env scope.names []) = cs at *
 generalize pushCells H scope.names = H2 at *
 refine k cs s.heap.objs.size (s.heap.objs.size :: scope.names.filterMap fun p => if p.2 = .cell then cs.lookup p.1 else none) _ ?_ rfl
 have hN : ∀ a, a ∈ (s.heap.objs.size :: scope.names.filterMap fun p => if p.2 = .cell then cs.lookup p.1 else none) -> a = s.heap.objs.size \/ (H.objs.size <= a /\ H2.IsCell a none) := by
  intro a ha
  rcases lC ha with q | ha
  ·exact .inl q
  ·right
   obtain ⟨p, hp, e⟩ := List.mem_filterMap.mp ha
   split at e
   ·rename_i hpc
    have : (p.1, NameKind.cell) ∈ scope.names := by rw [<- hpc]; exact hp
    obtain ⟨b, e1, e2, e3⟩ := hcell p.1 (mem_lookup hnd this)
    rw [e] at e1; cases e1
    exact ⟨e2, e3⟩
   ·cases e
 have hNew : ∀ a, a ∈ (s.heap.objs.size :: scope.names.filterMap fun p => if p.2 = .cell then cs.lookup p.1 else none) -> s.heap.get? a = none := by
  intro a ha
  rcases hN a ha with q | ⟨q, _⟩
  ·exact ak (Nat.le_of_eq q.symm)
  ·exact ak (by rw [hz] at q; omega)
 refine ⟨old, ⟨⟨G.bas.handled, ?_, fun a ha => ?_, fun a ha => lR _ (G.bas.frs a ha)⟩, hk, G.globals, G.builtins, fun x hx => ?_, ?_, fun x a e => ?_, fun p hp => ?_⟩, fun x hx => ?_, hNew, ⟨.head _, _, hNs⟩, fun x a e => ?_⟩
 ·obtain ⟨o, b, f⟩ := G.bas.below
  exact ⟨o, q0.below f b, f⟩
 ·rcases lA ha with ha | ha
  ·rcases hN a ha with q | ⟨_, q⟩
   ·obtain ⟨o, e, _⟩ := gQ hNs
    exact ⟨o, q ▸ e⟩
   ·obtain ⟨o, e, _⟩ := cU q
    exact ⟨o, e⟩
  ·exact q0.alive (fun z => nomatch z) (G.bas.alloc a ha)
 ·obtain ⟨k', hk'⟩ : ∃ k', scope.names.lookup x = some k' := by rcases hx with hx | hx <;> exact jY hx
  rw [eN hk'] at hx
  show ∃ a, cs.lookup x = some a
  cases k' with
  | cell => obtain ⟨a, e, _⟩ := hcell x hk'; exact ⟨a, e⟩
  | free => rw [(hfree x hk').1]; exact (hfree x hk').2
  | _ => simp at hx
 ·exact hinj
 ·rcases hfrom x a e with e | e
  ·obtain ⟨v, i⟩ := G.cal x a e
   exact ⟨v, i.keeps old⟩
  ·exact ⟨_, e⟩
 ·obtain ⟨hp1, hp2, hp3, hp4⟩ := hc p hp
  obtain ⟨v, Hv, r⟩ := G.vars p hp1
  refine ⟨v, ?_, (r.wide fun a ha => ?_).hx0 q0 fun a ha => lR _ (G.bas.frs a ha)⟩
  ·have hl := (hfree p.1 hp2).1
   have go : ∀ a, env.cells.lookup p.1 = some a -> s.heap.IsCell a (some v) -> Has (aq scope cs s.heap.objs.size env) H2 p.1 v := fun a e i => by
    have hkk := eN (cs := cs) (C := s.heap.objs.size) (env := env) hp2
    by_cases hcc : (NameKind.free == NameKind.free && env.scope.kind == .function && env.kindOf p.1 == some .cell) = true
    ·rw [if_pos hcc] at hkk
     exact .cell hkk (hl.trans e) (i.keeps old)
    ·rw [if_neg hcc] at hkk
     exact .free hkk (hl.trans e) (i.keeps old) hp3
   cases Hv with
   | loc k1 _ _ => rcases hp4 with q | q <;> (rw [q] at k1; cases k1)
   | cell _ e i => exact go _ e i
   | free _ e i _ => exact go _ e i
  ·rcases lA ha with z | z
   ·exact .inr (hNew a z)
   ·exact .inl z
 ·rcases hx with hx | hx
  ·have hkk := eN (cs := cs) (C := s.heap.objs.size) (env := env) hx
   refine ⟨s.heap.objs.size, .head _, .loc (by rw [hkk]; rfl) rfl hNs⟩
  ·have hkk := eN (cs := cs) (C := s.heap.objs.size) (env := env) hx
   obtain ⟨a, e, _, i⟩ := hcell x hx
   refine ⟨a, .tail _ (List.mem_filterMap.mpr ⟨(x, .cell), mem_of_lookup hx, by simpa using e⟩), .cell (by rw [hkk]; rfl) e i⟩
 ·by_cases hm : (x, NameKind.cell) ∈ scope.names
  ·have e' : cs.lookup x = some a := e
   exact .inl (.tail _ (List.mem_filterMap.mpr ⟨(x, .cell), hm, by simpa using e'⟩))
  ·exact .inr (hoff x a hm e)
inductive fJ : Bool -> Expr -> PyData -> List Str -> Gam -> Prop
 | name {x p d : _} : (x == ("__debug__" : Str)) = false -> fJ false (.Name x p) d [x] [(x, d)]
 | pair {a b pa pb k p d1 d2 : _} : (b != a) = true -> fJ true (.Tuple [.Name a pa, .Name b pb] k p) (.tuple [d1, d2]) [a, b] [(b, d2), (a, d1)]
noncomputable def fZ (xs : List Str) (Γ : Gam) : Prop := ∀ p ∈ Γ, p.1 ∉ xs
noncomputable def TG (env : Env) (N : List Addr) (xs : List Str) (h : Heap) : Prop := (∃ m, h.Ns env.locals m) /\ ∀ x ∈ xs, ∃ t ∈ N, Tgt env h x t
theorem TG.mono {xs : List Str} (T : TG env N xs h) (k : Kp env h h') : TG env N xs h' := ⟨let ⟨m, n⟩ := T.1; k.ns m n, fun x hx => let ⟨t, ht, q⟩ := T.2 x hx; ⟨t, ht, k.tgt _ _ q⟩⟩
theorem TG.hx {xs : List Str} (T : TG env N xs h) (q : HX c Y h h') (hl : env.locals ∉ Y) (hy : ∀ t ∈ N, t ∉ Y) : TG env N xs h' := ⟨let ⟨m, n⟩ := T.1; ⟨m, q.ns hl n⟩, fun x hx => let ⟨t, ht, r⟩ := T.2 x hx; ⟨t, ht, r.hx q (hy t ht)⟩⟩
theorem TG.sub {xs ys : List Str} (T : TG env N xs h) (hs : ∀ x ∈ ys, x ∈ xs) : TG env N ys h := ⟨T.1, fun x hx => T.2 x (hs x hx)⟩
theorem bM {x : Str} (h : ∀ p ∈ Γ, p.1 ≠ x) : Γ.filter (fun p => p.1 != x) = Γ := List.filter_eq_self.mpr fun p hp => by simpa using h p hp
theorem pF {Γd : Gam} {pair : Bool} {xs : List Str} (B : fJ pair tg d xs Γd) (G : Good c A X env Γ s.heap) (hv : ItV c pair X s.heap v d) (hN : ∀ a ∈ N, a ∈ X /\ c.base.get? a = none)
  (hT : TG env N xs s.heap) (ho : fZ xs Γ) {Q : Unit -> Shared -> Prop} (k : ∀ h' tk, HX c N s.heap h' -> Kp env s.heap h' -> (∀ y u, y ∉ xs -> Has env s.heap y u -> Has env h' y u) -> Good c A X env (Γd ++ Γ) h' -> Q () { s with heap := h', toks := tk }) : wpAny c.M A (assign tg env v) Q NoE s := by
 have one : ∀ (s : Shared) (Γ : Gam) (x : Str) (p : Pos) (v : Value) (d : PyData) (Q : Unit -> Shared -> Prop), Good c A X env Γ s.heap -> (∃ t ∈ N, Tgt env s.heap x t) -> (∀ q ∈ Γ, q.1 ≠ x) -> Rd c.w X s.heap v d ->
   (∀ h' tk, HX c N s.heap h' -> Kp env s.heap h' -> (∀ y u, y ≠ x -> Has env s.heap y u -> Has env h' y u) -> Good c A X env ((x, d) :: Γ) h' -> Q () { s with heap := h', toks := tk }) -> wpAny c.M A (assign (.Name x p) env v) Q NoE s := by
  intro s Γ x p v d Q G ⟨t, ht, T⟩ hne r k
  refine wpAny_assign_Name (rQ G T (hN t ht).1 (hN t ht).2 r fun h' tk q _ _ hk hh G' => ?_)
  rw [bM hne] at G'
  exact k h' tk (q.mono fun y hy => lS hy ▸ ht) hk hh G'
 cases B with
 | @name x p d hd =>
  exact one s Γ x p v d _ G (hT.2 x (.head _)) (fun q hq e => ho q hq (e ▸ .head _)) hv fun h' tk q hk hh G' => k h' tk q hk (fun y u hy => hh y u fun e => hy (e ▸ .head _)) G'
 | @pair a b pa pb _ p d1 d2 hab =>
  obtain ⟨T, vs, _, ht, r⟩ := (show Iu c X s.heap v (.tuple [d1, d2]) from hv)
  obtain ⟨v1, v2, r1, r2⟩ := r.qH
  refine wpAny_assign_Tuple G.bas.handled ht rfl rfl fun h1 hx => ?_
  have q1 : HX c [] s.heap h1 := .cP fun b o e => hx b o (Nat.ne_of_lt (Heap.lt_size e)) e
  have G1 := G.hx0 q1
  have T1 := hT.hx q1 (fun z => nomatch z) fun _ _ z => nomatch z
  show wpAny _ _ (do holding [v2] (assign (.Name a pa) env v1); do holding [] (assign (.Name b pb) env v2); pure ()) _ _ _
  refine wB (wpAny_holding (one { s with heap := h1 } Γ a pa v1 d1 _ G1 (T1.2 a (.head _)) (fun q hq e => ho q hq (e ▸ .head _)) (r1.hx0 q1 G.bas.frs) fun h2 tk q2 k2 hh2 G2 => ?_))
  have T2 := T1.mono k2
  refine wB (wpAny_holding (one { s with heap := h2, toks := tk } _ b pb v2 d2 _ G2 (T2.2 b (.tail _ (.head _))) (fun q hq e => ?_) ((r2.hx0 q1 G.bas.frs).hx q2 G.bas.frs fun y hy => (hN y hy).1) fun h3 tk3 q3 k3 hh3 G3 => wP ?_))
  ·rcases lC hq with rfl | hq
   ·have hab' : b ≠ a := by simpa using hab
    exact hab' e.symm
   ·exact ho q hq (e ▸ .tail _ (.head _))
  ·exact k h3 tk3 (((q1.mono fun _ z => nomatch z).trans q2).trans q3) (((Kp.hx0 q1).trans k2).trans k3) (fun y u hy H => hh3 y u (fun e => hy (e ▸ .tail _ (.head _))) (hh2 y u (fun e => hy (e ▸ .head _)) (H.hx0 q1))) G3
noncomputable def turnT (p : Pos) (it : Value) (tg : Expr) (ifs : List Expr) (env : Env) (body : Sem Unit) (c0 : Code) : Sem Fin := do
 standAt p
 match <- pyNext it with
 | none => pure (.done .next)
 | some v =>
  letOwnedTupleGo tg it v
  assign tg env v
  let mut ok := true
  for c in ifs do
   if ok then ok <- isTrue c env (eval c env)
  if ok then body
  again c0
noncomputable def rT (elt : Expr) (acc : Value) (env : Env) : Sem Unit := do let _ <- call (.builtin "list.append") [acc, <- eval elt env]
theorem yh (elt tg iter : Expr) (ifs : List Expr) (scope : Scope) (pos : Pos) (it acc : Value) (env : Env) :
  compTurn (.ListComp elt [⟨tg, iter, ifs, 0⟩] scope pos) 0 it acc env = turnT iter.pos it tg ifs env (rT elt acc env) (.compLoop (.ListComp elt [⟨tg, iter, ifs, 0⟩] scope pos) 0 it acc env) := by rfl
theorem uK (elt tg iter : Expr) (g1 : Comprehension) (ifs : List Expr) (scope : Scope) (pos : Pos) (it acc : Value) (env : Env) :
  compTurn (.ListComp elt [g1, ⟨tg, iter, ifs, 0⟩] scope pos) 1 it acc env = turnT iter.pos it tg ifs env (rT elt acc env) (.compLoop (.ListComp elt [g1, ⟨tg, iter, ifs, 0⟩] scope pos) 1 it acc env) := by rfl
noncomputable def uL (e iter : Expr) (acc : Value) (env : Env) (k : Sem Fin) : Sem Fin := do
 let x <- eval iter env
 standAt iter.pos
 let x <- foldedSetIterable iter env x
 let _ <- runOwn (.compStart e 1 (<- holding [x] (pyIter x)) acc env) env
 k
noncomputable def jZ (e iter : Expr) (acc : Value) (env : Env) : Sem Unit := do
 let x <- eval iter env
 standAt iter.pos
 let x <- foldedSetIterable iter env x
 let it <- holding [x] (pyIter x)
 let _ <- runOwn (.compStart e 1 it acc env) env
 pure ()
theorem yj (e iter : Expr) (acc : Value) (env : Env) (k : Sem Fin) : uL e iter acc env k = (jZ e iter acc env >>= fun _ => k) := by
 simp only [uL, jZ, bind_assoc, pure_bind]
noncomputable def z9 (p : Pos) (it : Value) (tg : Expr) (ifs : List Expr) (env : Env) (body : Sem Fin -> Sem Fin) (c0 : Code) : Sem Fin := do
 standAt p
 match <- pyNext it with
 | none => pure (.done .next)
 | some v =>
  letOwnedTupleGo tg it v
  assign tg env v
  let mut ok := true
  for c in ifs do
   if ok then ok <- isTrue c env (eval c env)
  if ok then body (again c0) else again c0
theorem rU (elt tg iter tg2 iter2 : Expr) (ifs ifs2 : List Expr) (scope : Scope) (pos : Pos) (it acc : Value) (env : Env) :
  compTurn (.ListComp elt [⟨tg, iter, ifs, 0⟩, ⟨tg2, iter2, ifs2, 0⟩] scope pos) 0 it acc env =
   z9 iter.pos it tg ifs env (uL (.ListComp elt [⟨tg, iter, ifs, 0⟩, ⟨tg2, iter2, ifs2, 0⟩] scope pos) iter2 acc env) (.compLoop (.ListComp elt [⟨tg, iter, ifs, 0⟩, ⟨tg2, iter2, ifs2, 0⟩] scope pos) 0 it acc env) := by rfl
theorem Es (p : Pos) (it : Value) (tg : Expr) (ifs : List Expr) (env : Env) (b : Sem Unit) (body : Sem Fin -> Sem Fin) (hb : ∀ k, body k = (b >>= fun _ => k)) (c0 : Code) : z9 p it tg ifs env body c0 = turnT p it tg ifs env b c0 := by
 unfold z9 turnT
 simp only [hb]
theorem uM (elt tg iter tg2 iter2 : Expr) (ifs ifs2 : List Expr) (scope : Scope) (pos : Pos) (it acc : Value) (env : Env) :
  compTurn (.ListComp elt [⟨tg, iter, ifs, 0⟩, ⟨tg2, iter2, ifs2, 0⟩] scope pos) 0 it acc env =
   turnT iter.pos it tg ifs env (jZ (.ListComp elt [⟨tg, iter, ifs, 0⟩, ⟨tg2, iter2, ifs2, 0⟩] scope pos) iter2 acc env) (.compLoop (.ListComp elt [⟨tg, iter, ifs, 0⟩, ⟨tg2, iter2, ifs2, 0⟩] scope pos) 0 it acc env) :=
 (rU ..).trans (Es _ _ _ _ _ _ _ (yj _ _ _ _) _)
noncomputable def rW (kx vx : Expr) (d : Addr) (env : Env) : Sem Unit := do
 let kv <- eval kx env
 let vv <- holding [kv] (eval vx env)
 standAt { kx.pos with endLine := vx.pos.endLine, endCol := vx.pos.endCol }
 holding [kv, vv] (dictSet d kv vv)
theorem pG (kx vx tg iter : Expr) (ifs : List Expr) (scope : Scope) (pos : Pos) (it : Value) (d : Addr) (env : Env) :
  compTurn (.DictComp kx vx [⟨tg, iter, ifs, 0⟩] scope pos) 0 it (.ref d) env = turnT iter.pos it tg ifs env (rW kx vx d env) (.compLoop (.DictComp kx vx [⟨tg, iter, ifs, 0⟩] scope pos) 0 it (.ref d) env) := by rfl
noncomputable def v7 (elt : Expr) (acc : Value) (env : Env) : Sem Unit := do let v <- eval elt env; standAt elt.pos; let _ <- call (.builtin "set.add") [acc, v]
theorem Aa (elt tg iter : Expr) (ifs : List Expr) (scope : Scope) (pos : Pos) (it acc : Value) (env : Env) :
  compTurn (.SetComp elt [⟨tg, iter, ifs, 0⟩] scope pos) 0 it acc env = turnT iter.pos it tg ifs env (v7 elt acc env) (.compLoop (.SetComp elt [⟨tg, iter, ifs, 0⟩] scope pos) 0 it acc env) := by rfl
noncomputable def Iz (ifs : List Expr) (env : Env) : Sem Bool := forIn ifs true fun c r => if r = true then do let ok <- isTrue c env (eval c env); pure (ForInStep.yield ok) else pure (ForInStep.yield r)
noncomputable def jm (c : Cfg) (l : Nat) (X : List Addr) (env : Env) (Γ : Gam) (ifs : List Expr) (b : Bool) : Prop :=
 ∀ A s, Lev l A -> Good c A X env Γ s.heap -> wpAny c.M A (Iz ifs env) (fun ok s' => ok = b /\ Pst c s s') NoE s
theorem jm.nil : jm c l X env Γ [] true := fun A s _ _ => wP ⟨rfl, .refl⟩
theorem jm.one (h : Et c l X env Γ e b) : jm c l X env Γ [e] b := fun A s L G => wpAny_tests_one (h A s L G)
inductive fB (c : Cfg) (A : Around) (X Z N : List Addr) (env : Env) (Γ : Gam) (xs : List Str) (AI : Heap -> Prop) (s : Shared) : Shared -> Prop
 | mk (h' : Heap) (tk : Nat) (q : HX c Z s.heap h') (ai : AI h') (G : Good c A X env Γ h') (T : TG env N xs h') : fB c A X Z N env Γ xs AI s { s with heap := h', toks := tk }
theorem fB.to {Z' : List Addr} {xs : List Str} {AI AI' : Heap -> Prop} (b : fB c A X Z N env Γ xs AI s s') (hz : ∀ y ∈ Z, y ∈ Z') (ha : ∀ h, AI h -> AI' h) : fB c A X Z' N env Γ xs AI' s s' := by
 obtain ⟨h', tk, q, ai, G, T⟩ := b
 exact ⟨h', tk, q.mono hz, ha _ ai, G, T⟩
theorem Ab {c : Code} {R : Result -> Shared -> Prop} (hq : c.quiet = true) (I : Nat -> Shared -> Prop)
  (turn : ∀ n s (Q : Fin -> Shared -> Prop), I n s -> (∀ m s', m < n -> I m s' -> Q (.again c) s') -> (∀ f s', R (.ok f) s' -> Q (.done f) s') -> (∀ c' s', c'.quiet = true -> codeAny M A c' R s' -> Q (.again c') s') -> wpAny M (A.under c) (M.den c) Q (fun e s' => R (.error e) s') s)
  (n : Nat) (h : I n s) : codeAny M A c R s :=
 codeAny_loop' hq I (fun n s h => turn n s _ h (fun m s' hm hI => .inl ⟨rfl, m, hm, hI⟩) (fun _ _ h => h) (fun _ _ hq h => .inr ⟨hq, h⟩)) n h
inductive HN (c : Cfg) (A : Around) (X N Y : List Addr) (env : Env) (Γ : Gam) (xs : List Str) (St : List Addr -> Nat -> Heap -> Prop) (AI : Nat -> Heap -> Prop) (s : Shared) (L n : Nat) : Shared -> Prop
 | mk (i : Nat) (h' : Heap) (tk : Nat) (hn : n + i = L) (q : HX c Y s.heap h') (ai : AI i h') (G : Good c A X env Γ h') (st : St X i h') (T : TG env N xs h') : HN c A X N Y env Γ xs St AI s L n { s with heap := h', toks := tk }
theorem v8 {fp : List Addr} {pair : Bool} {St : List Addr -> Nat -> Heap -> Prop} {xs xs1 : List Str} {body : Sem Unit} {c0 : Code}
  {AI : Nat -> Heap -> Prop} 
  (hq : c0.quiet = true) (hun : A.under c0 = A) (hden : c.M.den c0 = (turnT p (.ref I) tg ifs env body c0).onRaise (fun x => do noteFrame x env; theTreesLotGoes x))
  (L : Lev l A) (IT : ItS c pair I fp ds St) (hB : ∀ d ∈ ds, fJ pair tg d xs1 (Γd d)) (hsub : ∀ x ∈ xs1, x ∈ xs) (htg : TgI pair tg)
  (hfp : ∀ a ∈ fp, a ∈ X /\ c.base.get? a = none /\ a ∉ c.fr) (hfr : ∀ a ∈ c.fr, a ∈ X /\ a ∉ fp) (hlf : env.locals ∉ fp) (hcf : ∀ x a, env.cells.lookup x = some a -> a ∉ fp)
  (hN : ∀ a ∈ N, (a ∈ X /\ c.base.get? a = none) /\ a ∉ fp) (hZ : ∀ a ∈ Z, a ∈ X /\ a ∉ fp) (ho : fZ xs1 Γ)
  (hAI : ∀ i h h' Y, AI i h -> HX c Y h h' -> (∀ y ∈ Y, y ∈ fp \/ y ∈ N) -> AI i h')
  (ht : ∀ d ∈ ds, jm c l X env (Γd d ++ Γ) ifs (bs d))
  (hb : ∀ i d s, ds[i]? = some d -> bs d = true -> Good c A X env (Γd d ++ Γ) s.heap -> AI i s.heap -> TG env N xs s.heap -> wpAny c.M A body (fun _ s' => fB c A X Z N env Γ xs (AI (i + 1)) s s') NoE s)
  (hsk : ∀ i d h, ds[i]? = some d -> bs d = false -> AI i h -> AI (i + 1) h)
  (hX' : ∀ a ∈ X', a ∈ X /\ a ∉ fp) (hF' : ∀ a ∈ c.fr, a ∈ X')
  (G : Good c A X env Γ s.heap) (st : St X 0 s.heap) (ai : AI 0 s.heap) (T : TG env N xs s.heap) :
  codeAny c.M A c0 (fun r s' => r = .ok .next /\ fB c A X' (fp ++ (N ++ Z)) N env Γ xs (AI ds.length) s s') s := by
 have m1 : ∀ y ∈ fp, y ∈ fp ++ (N ++ Z) := fun y h => lL _ h
 have m2 : ∀ y ∈ N, y ∈ fp ++ (N ++ Z) := fun y h => lR _ (lL _ h)
 have m3 : ∀ y ∈ Z, y ∈ fp ++ (N ++ Z) := fun y h => lR _ (lR _ h)
 refine Ab hq (fun n s' => HN c A X N (fp ++ (N ++ Z)) env Γ xs St AI s ds.length n s') (fun n s' Q hI hn hd' _ => ?_) ds.length ⟨0, s.heap, s.toks, rfl, .refl _, ai, G, st, T⟩
 obtain ⟨i, h, tk, hni, q0, ai, G, st, T⟩ := hI
 rw [hun, hden]
 refine wpAny_noted (bk ?_)
 unfold turnT
 refine wB (wpAny_standAt (wB ?_))
 cases hd : ds[i]? with
 | none =>
  have hi : i = ds.length := by
   have := List.getElem?_eq_none_iff.mp hd
   omega
  subst hi
  refine wK (IT.done A _ X G.bas.handled st hfp) (fun r s1 hr => ?_)
  obtain ⟨h', tk', q⟩ := hr
  refine wP (hd' _ _ ⟨rfl, h', tk', q0.trans (q.mono m1), hAI _ _ _ _ ai q fun y hy => .inl hy, ?_, T.hx q hlf fun t ht z => (hN t ht).2 z⟩)
  exact G.mut q (fun y hy => (hfp y hy).1) hlf (fun x a e z => hcf x a e z) (fun a ha => (hX' a ha).1) (fun a ha z => ((hX' a ha).2 z).elim) hF'
 | some d =>
  have hi : i < ds.length := by
   cases Nat.lt_or_ge i ds.length with
   | inl h => exact h
   | inr h => rw [List.getElem?_eq_none h] at hd; cases hd
  have hdm : d ∈ ds := lG hd
  refine wK (IT.item A _ X i d tg G.bas.handled htg st hfp (fun a ha => (hfr a ha).1) hd) (fun r s1 hr => ?_)
  obtain ⟨v, rfl, hr⟩ := hr
  dsimp only
  refine wB (wK hr (fun _ s2 hr => ?_))
  obtain ⟨h2, tk2, q2, st2, iv⟩ := hr
  have G2 : Good c A X env Γ h2 := G.mut q2 (fun y hy => (hfp y hy).1) hlf (fun x a e z => hcf x a e z) (fun a ha => ha) (fun a ha z => IT.alive _ _ _ st2 a z) G.bas.frs
  have T2 := T.hx q2 hlf fun t ht z => (hN t ht).2 z
  have ai2 := hAI _ _ _ _ ai q2 fun y hy => .inl hy
  refine wB (pF (hB d hdm) G2 iv (fun a ha => (hN a ha).1) (T2.sub hsub) ho fun h3 tk3 q3 k3 _ G3 => ?_)
  have st3 := IT.keep _ _ _ _ _ st2 q3 hfr fun y hy => ⟨(hN y hy).1.1, (hN y hy).2⟩
  have ai3 := hAI _ _ _ _ ai2 q3 fun y hy => .inr hy
  refine wB (wK (ht d hdm A _ L G3) (fun ok s4 hr => ?_))
  obtain ⟨rfl, p4⟩ := hr
  obtain ⟨h4, tk4, q4⟩ := p4
  have G4 := G3.hx0 q4
  have st4 := IT.keep _ _ _ _ _ st3 q4 hfr fun y hy => nomatch hy
  have ai4 := hAI _ _ _ _ ai3 q4 fun y hy => nomatch hy
  have q04 : HX c (fp ++ (N ++ Z)) s.heap h4 := ((q0.trans (q2.mono m1)).trans (q3.mono m2)).trans (q4.mono fun _ z => nomatch z)
  have T4 : TG env N xs h4 := (T2.mono k3).hx q4 (fun z => nomatch z) fun t ht z => nomatch z
  cases hbs : bs d with
  | false =>
   simp only [Bool.false_eq_true, if_false]
   exact wP (hn (n - 1) _ (by omega) ⟨i + 1, h4, tk4, by omega, q04, hsk i d h4 hd hbs ai4, G4.sub fun p hp => lR _ hp, st4, T4⟩)
  | true =>
   simp only [if_true]
   refine wB (wK (hb i d _ hd hbs G4 ai4 T4) (fun _ s5 hr => ?_))
   obtain ⟨h5, tk5, q5, ai5, G5, T5⟩ := hr
   exact wP (hn (n - 1) _ (by omega) ⟨i + 1, h5, tk5, by omega, q04.trans (q5.mono m3), ai5, G5, IT.keep _ _ _ _ _ st4 q5 hfr hZ, T5⟩)
theorem Good.grow (G : Good c A X env Γ h) (q : HX c [] h h') (hs : ∀ a ∈ X', a ∈ X \/ h.get? a = none) (hX : ∀ a ∈ X, a ∈ X') (hA : ∀ a ∈ X', ∃ o, h'.get? a = some o) : Good c A X' env Γ h' where
 bas := ⟨G.bas.handled, let ⟨o, b, f⟩ := G.bas.below; ⟨o, q.below f b, f⟩, hA, fun a ha => hX a (G.bas.frs a ha)⟩
 kind := G.kind
 globals := G.globals
 builtins := G.builtins
 cells := G.cells
 inj := G.inj
 cal := fun x a e => let ⟨v, i⟩ := G.cal x a e; ⟨v, q.cell (fun z => nomatch z) i⟩
 vars := fun p hp => let ⟨v, H, r⟩ := G.vars p hp; ⟨v, H.hx0 q, (r.wide hs).hx0 q fun a ha => hX a (G.bas.frs a ha)⟩
theorem je {R : Result -> Shared -> Prop} {depth : Nat} {it acc : Value} (hf : (Code.compStart e depth it acc env).isFrame = false) (hg : (clausesOf e)[depth]? = some ⟨tg, iter, ifs, 0⟩)
  (h0 : codeAny c.M A (.compLoop e depth it acc env) R s)
  (h : wpAny c.M A (pyIter it) (fun it' s' => codeAny c.M A (.compLoop e depth it' acc env) R s') NoE s) (hq : ∀ it', (Code.compLoop e depth it' acc env).quiet = true) (hu : A.under (.compStart e depth it acc env) = A) : codeAny c.M A (.compStart e depth it acc env) R s := by
 refine codeAny_of_tree ?_
 have hd : c.M.den (.compStart e depth it acc env) = (compStart e depth it acc env).onRaise (fun x => do noteFrame x env; standAt theWindowsPlace) := by
  show (if (Code.compStart e depth it acc env).isFrame then _ else _) = _
  rw [hf]; rfl
 rw [hd, hu]
 refine wpAny_notedAt (bk ?_)
 unfold compStart
 rw [hg]
 show wpAny _ _ (ask >>= _) _ _ s
 refine wB (wpAny_askSetting (wpAny_ite ?_))
 split
 ·first
   | exact wB (wP (wP (And.intro (hq _) h0)))
   | exact wP (And.intro (hq _) h0)
 ·first
   | exact wB (wpAny_rule (wB (wpAny_standAt (wB (wM h (fun it' s' h' => wP (And.intro (hq _) h')) fun _ _ x => x)))))
   | (refine wB (wpAny_rule ?_); show wpAny _ _ (standAt iter.pos >>= _) _ _ s; exact wB (wpAny_standAt (wB (wM h (fun it' s' h' => wP (And.intro (hq _) h')) fun _ _ x => x))))
structure Plc (c : Cfg) (X XL N : List Addr) (D : Addr) (cenv : Env) : Prop where
 sub : ∀ a ∈ X, a ∈ XL
 acc : D ∈ XL /\ D ∉ c.fr /\ c.base.get? D = none /\ D ∉ N
 own : ∀ a ∈ N, a ∈ XL /\ c.base.get? a = none /\ a ∉ c.fr
 loc : cenv.locals ∈ N
 cel : ∀ x a, cenv.cells.lookup x = some a -> a ≠ D
theorem fK {use : Option (Value -> Sem Unit)} {newAcc : Sem Value} {rest : List Comprehension} {pair : Bool} {xs xs1 : List Str} 
  {body : Value -> Env -> Sem Unit} {acc0 : Obj} 
  (hcl : clausesOf e = ⟨tg, iter, ifs, 0⟩ :: rest) (hfold : ∀ x, foldedSetIterable iter env x = pure x)
  (hnew : ∀ A s E (Q : Value -> Shared -> Prop), Q (.ref s.heap.objs.size) { s with heap := s.heap.push acc0 } -> wpAny c.M A newAcc Q E s) (hfree : acc0.isFreed = false)
  (hden : ∀ D it cenv, c.M.den (.compLoop e 0 it (.ref D) cenv) = (turnT iter.pos it tg ifs cenv (body (.ref D) cenv) (.compLoop e 0 it (.ref D) cenv)).onRaise (fun x => do noteFrame x cenv; theTreesLotGoes x))
  (hfr : ∀ it acc cenv, (Code.compStart e 0 it acc cenv).isFrame = false) (hqu : ∀ it acc cenv, (Code.compLoop e 0 it acc cenv).quiet = true)
  (hu1 : ∀ (A : Around) it acc cenv, A.under (.compStart e 0 it acc cenv) = A) (hu2 : ∀ (A : Around) it acc cenv, A.under (.compLoop e 0 it acc cenv) = A)
  (hI : EvI c l X env Γ pair iter ds) (hB : ∀ d ∈ ds, fJ pair tg d xs1 (Γd d)) (hsub : ∀ x ∈ xs1, x ∈ xs) (htg : TgI pair tg)
  (hs : fY env scope) (hc : Cap env scope Γ Γc) (hxs : ∀ x ∈ xs, scope.names.lookup x = some .local \/ scope.names.lookup x = some .cell) (ho : fZ xs1 Γc)
  (ht : ∀ cs C XL, (∀ a ∈ X, a ∈ XL) -> ∀ d ∈ ds, jm c l XL (aq scope cs C env) (Γd d ++ Γc) ifs (bs d))
  (hAI0 : ∀ D XL h, HX c [] s.heap h -> h.get? D = some acc0 -> AI D XL 0 h)
  (hAI : ∀ D XL i h h' Y, AI D XL i h -> HX c Y h h' -> (∀ a ∈ c.fr, a ∈ XL /\ a ≠ D) -> (∀ y ∈ Y, y ∈ XL /\ y ≠ D) -> AI D XL i h')
  (hal : ∀ D XL i h, AI D XL i h -> ∃ o, h.get? D = some o)
  (hb : ∀ cs C XL N D, Plc c X XL N D (aq scope cs C env) -> ∀ A s i d, Lev l A -> ds[i]? = some d -> bs d = true -> Good c A XL (aq scope cs C env) (Γd d ++ Γc) s.heap -> AI D XL i s.heap -> TG (aq scope cs C env) N xs s.heap ->
   wpAny c.M A (body (.ref D) (aq scope cs C env)) (fun _ s' => fB c A XL (D :: N) N (aq scope cs C env) Γc xs (AI D XL (i + 1)) s s') NoE s)
  (hsk : ∀ D XL i d h, ds[i]? = some d -> bs d = false -> AI D XL i h -> AI D XL (i + 1) h)
  (L : Lev l A) (G : Good c A X env Γ s.heap)
  (hpost : ∀ s5 D XL C, Pst c s s5 -> (∀ a ∈ X, a ∈ XL) -> s.heap.get? D = none -> s.heap.get? C = none -> D ∈ XL -> C ∈ XL -> C ≠ D -> (∀ a ∈ c.fr, a ∈ XL /\ a ≠ D /\ a ≠ C) -> AI D XL ds.length s5.heap -> (∃ m, s5.heap.Ns C m) -> compPost c.M A NoE use Q (.ref D) C (.ok .next) s5) :
  wpAny c.M A (comprehension e scope env pos newAcc false (eval iter env) use) Q NoE s := by
 have hclos := oJ (scope := scope) (env := env) fun p hp hf => G.cells _ (hs.2.2 p hp hf)
 refine wpAny_comprehension_free hcl hfold hclos hs.1 (fun x hx hl => mem_lookup hs.2.1 (by rw [<- hl]; exact hx)) ?_
 refine wK (hI A s L G) (fun x s1 hx => wK hx (fun it s2 hx => ?_))
 obtain ⟨p2, I, fp, St, IT, st, hfp⟩ := hx
 obtain ⟨h2, tk2, q2⟩ := p2
 refine hnew _ _ _ _ ?_
 dsimp only
 have hDn2 : h2.get? h2.objs.size = none := ak (Nat.le_refl _)
 have hDn : s.heap.get? h2.objs.size = none := q2.none_of (fun z => nomatch z) hDn2
 have q3 : HX c [] s.heap (h2.push acc0) := q2.trans (.push _ _)
 have hD3 : (h2.push acc0).get? h2.objs.size = some acc0 := hP _ hfree
 have fpa : ∀ a ∈ fp, ∃ o, h2.get? a = some o := IT.alive _ _ _ st
 have G3 : Good c A (h2.objs.size :: (fp ++ X)) env Γ (h2.push acc0) := by
  refine G.grow q3 (fun a ha => ?_) (fun a ha => .tail _ (lR _ ha)) fun a ha => ?_
  ·rcases lC ha with rfl | ha
   ·exact .inr hDn
   ·rcases lA ha with ha | ha
    ·exact .inr (hfp a ha)
    ·exact .inl ha
  ·rcases lC ha with rfl | ha
   ·exact ⟨_, hD3⟩
   ·rcases lA ha with ha | ha
    ·obtain ⟨o, e⟩ := fpa a ha
     exact ⟨o, Heap.get?_push_of_some _ e⟩
    ·exact q3.alive (fun z => nomatch z) (G.bas.alloc a ha)
 refine z8 (s := { s with heap := h2.push acc0, toks := tk2 }) G3 hs hc fun cs C N h4 CE hC => ?_
 dsimp only
 show codeAny c.M A (.compStart e 0 (.ref I) (.ref h2.objs.size) (aq scope cs C env)) _ _
 have q34 : HX c [] (h2.push acc0) h4 := .cP CE.keep
 have q24 : HX c [] h2 h4 := (HX.push _ _).trans q34
 have q04 : HX c [] s.heap h4 := q3.trans q34
 have hNs : ∀ a ∈ N, s.heap.get? a = none := fun a ha => q3.none_of (fun z => nomatch z) (CE.new a ha)
 have hNf : ∀ a ∈ N, a ∉ fp := fun a ha hf => by
  obtain ⟨o, e⟩ := fpa a hf
  have := CE.new a ha
  rw [Heap.get?_push_of_some acc0 e] at this
  cases this
 have hND : ∀ a ∈ N, a ≠ h2.objs.size := fun a ha e => by
  have := CE.new a ha
  rw [e, hD3] at this
  cases this
 have hfpD : ∀ a ∈ fp, a ≠ h2.objs.size := fun a ha e => by
  obtain ⟨o, e'⟩ := fpa a ha
  rw [e, hDn2] at e'
  cases e'
 have alive_of : ∀ a, (∃ o, s.heap.get? a = some o) -> a ∉ fp /\ a ≠ h2.objs.size /\ a ∉ N := fun a ⟨o, e⟩ =>
  ⟨fun z => (by rw [hfp a z] at e; cases e), fun z => (by rw [z, hDn] at e; cases e), fun z => (by rw [hNs a z] at e; cases e)⟩
 have hfra : ∀ a ∈ c.fr, a ∉ fp /\ a ≠ h2.objs.size /\ a ∉ N := fun a ha => alive_of a (G.bas.alloc a (G.bas.frs a ha))
 have hbase : ∀ a, s.heap.get? a = none -> c.base.get? a = none := fun a ha => by
  cases e : c.base.get? a with
  | none => rfl
  | some o => rw [G.bas.inBase e] at ha; cases ha
 have hcel : ∀ x a, (aq scope cs C env).cells.lookup x = some a -> a ∉ fp /\ a ≠ h2.objs.size := fun x a e => by
  rcases CE.cel x a e with q | q
  ·exact ⟨hNf a q, hND a q⟩
  ·obtain ⟨v, i⟩ := G.cal x a q
   obtain ⟨o, e, _⟩ := cU i
   exact ⟨(alive_of a ⟨o, e⟩).1, (alive_of a ⟨o, e⟩).2.1⟩
 have hXL : ∀ a ∈ X, a ∈ N ++ (h2.objs.size :: (fp ++ X)) := fun a ha => lR _ (.tail _ (lR _ ha))
 have hDXL : h2.objs.size ∈ N ++ (h2.objs.size :: (fp ++ X)) := lR _ (.head _)
 have hfXL : ∀ a ∈ fp, a ∈ N ++ (h2.objs.size :: (fp ++ X)) := fun a ha => lR _ (.tail _ (lL _ ha))
 have hNXL : ∀ a ∈ N, a ∈ N ++ (h2.objs.size :: (fp ++ X)) := fun a ha => lL _ ha
 have hFXL : ∀ a ∈ c.fr, a ∈ N ++ (h2.objs.size :: (fp ++ X)) := fun a ha => hXL a (G.bas.frs a ha)
 have st4 : St (N ++ (h2.objs.size :: (fp ++ X))) 0 h4 := by
  refine IT.keep _ _ _ _ [] (IT.wide _ (N ++ (h2.objs.size :: (fp ++ X))) _ _ st fun a ha => ?_) q24 (fun a ha => ⟨hFXL a ha, (hfra a ha).1⟩) fun y hy => nomatch hy
  rcases lA ha with ha | ha
  ·exact .inr ((HX.push (c := c) h2 acc0).none_of (fun z => nomatch z) (CE.new a ha))
  ·rcases lC ha with rfl | ha
   ·exact .inr hDn2
   ·exact .inl ha
 have hD4 : h4.get? h2.objs.size = some acc0 := CE.keep _ _ hD3
 have hNb : ∀ a ∈ N, c.base.get? a = none := fun a ha => hbase a (hNs a ha)
 have T4 : TG (aq scope cs C env) N xs h4 := ⟨CE.loc.2, fun x hx => CE.tgt x (hxs x hx)⟩
 have PL : Plc c X (N ++ (h2.objs.size :: (fp ++ X))) N h2.objs.size (aq scope cs C env) := ⟨hXL, ⟨hDXL, fun z => (hfra _ z).2.1 rfl, hbase _ hDn, fun z => hND _ z rfl⟩, fun a ha => ⟨hNXL a ha, hNb a ha, fun z => (hfra a z).2.2 ha⟩, CE.loc.1, fun x a e => (hcel x a e).2⟩
 have key := fun (s' : Shared) (hs' : s'.heap = h4) => v8 (s := s') (Z := h2.objs.size :: N) (X' := N ++ (h2.objs.size :: X)) (AI := AI h2.objs.size (N ++ (h2.objs.size :: (fp ++ X)))) (I := I) (body := body (.ref h2.objs.size) (aq scope cs C env)) (p := iter.pos)
  (hqu (.ref I) (.ref h2.objs.size) (aq scope cs C env)) (hu2 A _ _ _) (hden _ _ _) L IT hB hsub htg (fun a ha => ⟨hfXL a ha, hbase a (hfp a ha), fun z => (hfra a z).1 ha⟩) (fun a ha => ⟨hFXL a ha, (hfra a ha).1⟩) (hNf _ CE.loc.1) (fun x a e => (hcel x a e).1)
  (fun a ha => ⟨⟨hNXL a ha, hNb a ha⟩, hNf a ha⟩) (fun a ha => (by
   rcases lC ha with rfl | ha
   ·exact ⟨hDXL, fun z => hfpD _ z rfl⟩
   ·exact ⟨hNXL a ha, hNf a ha⟩)) ho
  (fun i h h' Y ai q hy => hAI _ _ _ _ _ Y ai q (fun a ha => ⟨hFXL a ha, (hfra a ha).2.1⟩) fun y h => (hy y h).elim (fun z => ⟨hfXL y z, hfpD y z⟩) fun z => ⟨hNXL y z, hND y z⟩)
  (fun d hd => ht cs C _ hXL d hd)
  (fun i d s1 hd hbs G1 ai T1 => hb cs C _ N _ PL A s1 i d L hd hbs G1 ai T1)
  (fun i d h hd hbs ai => hsk _ _ i d h hd hbs ai)
  (fun a ha => (by
   rcases lA ha with z | z
   ·exact ⟨hNXL a z, hNf a z⟩
   ·rcases lC z with rfl | z
    ·exact ⟨hDXL, fun z => hfpD _ z rfl⟩
    ·exact ⟨hXL a z, (alive_of a (G.bas.alloc a z)).1⟩)) (fun a ha => lR _ (.tail _ (G.bas.frs a ha)))
  (hs' ▸ CE.good) (hs' ▸ st4) (hs' ▸ hAI0 _ _ _ q04 hD4) (hs' ▸ T4)
 have key4 := key { s with heap := h4, toks := tk2 } rfl
 have hCN : C ∈ N := hC ▸ CE.loc.1
 have fin : codeAny c.M A (.compLoop e 0 (.ref I) (.ref h2.objs.size) (aq scope cs C env)) (compPost c.M A NoE use Q (.ref h2.objs.size) C) { s with heap := h4, toks := tk2 } := by
  refine codeAny_mono key4 fun r s' hr => ?_
  obtain ⟨rfl, h5, tk5, q5, ai5, G5, T5⟩ := hr
  obtain ⟨m, hm⟩ := T5.1
  rw [hC] at hm
  have q05 : HX c [] s.heap h5 := q04.young q5 fun a ha => (by
   rcases lA ha with z | z
   ·exact hfp a z
   ·rcases lA z with z | z
    ·exact hNs a z
    ·rcases lC z with rfl | z
     ·exact hDn
     ·exact hNs a z)
  exact hpost _ _ _ C ⟨h5, tk5, q05⟩ hXL hDn (hNs C hCN) hDXL (hNXL C hCN) (hND C hCN) (fun a ha => ⟨hFXL a ha, (hfra a ha).2.1, fun z => (hfra a ha).2.2 (z ▸ hCN)⟩) ai5 ⟨m, hm⟩
 exact je (hfr _ _ _) (by rw [hcl]; rfl) fin (wK (IT.self A _ _ _ st4) (fun it' s' hr => by
  obtain ⟨rfl, rfl⟩ := hr
  exact fin)) (fun _ => hqu _ _ _) (hu1 _ _ _ _)
theorem j4 (B : Bas c A X h) {a : Addr} (ha : h.get? a = none) : c.base.get? a = none := by
 cases e : c.base.get? a with
 | none => rfl
 | some o => rw [B.inBase e] at ha; cases ha
inductive oK (w : World) (X : List Addr) (h : Heap) (D : Addr) (es : List PyData) : Prop
 | mk (vs : List Value) (n : Nat) (e : h.get? D = some (bH vs n)) (r : RdL w X h vs es)
inductive Kq (w : World) (X : List Addr) (h : Heap) (D : Addr) (kvs : List (PyData × PyData)) : Prop
 | mk (es : List DictEntry) (n : Nat) (e : h.get? D = some (oH es n)) (k : KeysAre w es (kvs.map (·.1))) (nd : (kvs.map (·.1)).Nodup) (r : RdL w X h (es.map (·.val)) (kvs.map (·.2)))
noncomputable def bT (c : Cfg) (X : List Addr) (h : Heap) (D : Addr) : PyData -> Prop
 | .list es => oK c.w X h D es
 | .dict kvs => Kq c.w X h D kvs
 | _ => False
theorem bT.rd (o : bT c X h D d) (hD : D ∉ X') (hs : ∀ a ∈ X', a ∈ X) : Rd c.w X' h (.ref D) d := by
 cases d with
 | list es => obtain ⟨vs, n, e, r⟩ := o; exact .list hD e (r.sub hs)
 | dict kvs => obtain ⟨es, n, e, k, nd, r⟩ := o; exact .dict hD e k nd (r.sub hs)
 | _ => exact o.elim
theorem bT.map {D' : Addr} (o : bT c X h D d) (f : ∀ o, h.get? D = some o -> h'.get? D' = some o) (g : ∀ vs ds, RdL c.w X h vs ds -> RdL c.w X' h' vs ds) : (∃ o, h.get? D = some o) /\ bT c X' h' D' d := by
 cases d with
 | list es => obtain ⟨vs, n, e, r⟩ := o; exact ⟨⟨_, e⟩, vs, n, f _ e, g _ _ r⟩
 | dict kvs => obtain ⟨es, n, e, k, nd, r⟩ := o; exact ⟨⟨_, e⟩, es, n, f _ e, k, nd, g _ _ r⟩
 | _ => exact o.elim
theorem bT.alive (o : bT c X h D d) : ∃ o, h.get? D = some o := (o.map (D' := D) (fun _ e => e) fun _ _ r => r).1
theorem bT.keep (o : bT c X h D d) (q : HX c Y h h') (hF : ∀ a ∈ c.fr, a ∈ X /\ a ≠ D) (hy : ∀ y ∈ Y, y ∈ X /\ y ≠ D) : bT c X h' D d :=
 (o.map (fun _ e => q.exact (fun z => (hy _ z).2 rfl) (fun z => (hF _ z).2 rfl) e) fun _ _ r => r.hx q (fun a ha => (hF a ha).1) fun y h => (hy y h).1).2
theorem bT.wide (o : bT c X h D d) (hs : ∀ a ∈ X', a ∈ X \/ h.get? a = none) : bT c X' h D d := (o.map (fun _ e => e) fun _ _ r => r.wide hs).2
noncomputable def Ac (e : Expr) (env : Env) (use : Option (Value -> Sem Unit)) : Sem Value := match e with
 | .ListComp _ gens scope pos => comprehension e scope env (firstIterPos gens pos) (newList []) (firstAsync gens) (firstIter gens env) use
 | .DictComp _ _ gens scope pos => comprehension e scope env (firstIterPos gens pos) newDict (firstAsync gens) (firstIter gens env) use
 | _ => unsupported "compU"
noncomputable def IsC (e : Expr) : Prop := ∀ env, eval e env = Ac e env none /\ ∀ u, evalThenUse e env u = (do let _ <- Ac e env (some u))
noncomputable def EvC (c : Cfg) (l : Nat) (X : List Addr) (env : Env) (Γ : Gam) (e : Expr) (d : PyData) : Prop :=
 IsC e /\ ∀ A s use (Q : Value -> Shared -> Prop), Lev l A -> Good c A X env Γ s.heap ->
  (∀ s5 D XL C, Pst c s s5 -> (∀ a ∈ X, a ∈ XL) -> s.heap.get? D = none -> s.heap.get? C = none -> D ∈ XL -> C ∈ XL -> C ≠ D -> (∀ a ∈ c.fr, a ∈ XL /\ a ≠ D /\ a ≠ C) -> bT c XL s5.heap D d -> (∃ m, s5.heap.Ns C m) -> compPost c.M A NoE use Q (.ref D) C (.ok .next) s5) ->
  wpAny c.M A (Ac e env use) Q NoE s
inductive FrP (c : Cfg) (X : List Addr) (d : PyData) (s : Shared) : Value -> Shared -> Prop
 | mk {s' : _} (p : Pst c s s') (D : Addr) (hn : s.heap.get? D = none) (o : bT c (D :: X) s'.heap D d) : FrP c X d s (.ref D) s'
noncomputable def EvF (c : Cfg) (l : Nat) (X : List Addr) (env : Env) (Γ : Gam) (e : Expr) (d : PyData) : Prop :=
 ∀ A s, Lev l A -> Good c A X env Γ s.heap -> wpAny c.M A (eval e env) (FrP c X d s) NoE s
theorem EvC.fresh (h : EvC c l X env Γ e d) : EvF c l X env Γ e d := fun A s L G => by
 rw [(h.1 env).1]
 refine h.2 A s none _ L G fun s5 D XL C p hX hD hC hDX hCX hCD hF ai ⟨m, hm⟩ => ⟨m, hm, fun h6 hs6 => ?_⟩
 have q6 : HX c [C] s5.heap h6 := .sameBut hs6 (j4 G.bas hC) fun z => (hF C z).2.2 rfl
 obtain ⟨h5, tk5, q5⟩ := p
 have q06 : HX c [] s.heap h6 := q5.young q6 fun a ha => (by rw [lS ha]; exact hC)
 refine ⟨⟨h6, tk5, q06⟩, D, hD, (ai.keep q6 (fun a ha => ⟨(hF a ha).1, (hF a ha).2.1⟩) fun y hy => ?_).wide fun a ha => .inl ((lC ha).elim (fun z => z ▸ hDX) (hX a))⟩
 rw [lS hy]
 exact ⟨hCX, hCD⟩
theorem EvF.ev (h : EvF c l X env Γ e d) : Ev c l X env Γ e d := fun A s L G =>
 wK (h A s L G) (fun v s' hr => by
  obtain ⟨p, D, hD, o⟩ := hr
  refine ⟨p, o.rd (fun z => ?_) fun a ha => .tail _ ha⟩
  obtain ⟨o', e⟩ := G.bas.alloc D z
  rw [hD] at e; cases e)
theorem EvC.ev (h : EvC c l X env Γ e d) : Ev c l X env Γ e d := h.fresh.ev
noncomputable def AIL (c : Cfg) (D : Addr) (XL : List Addr) (es : List PyData) (h : Heap) : Prop := oK c.w XL h D es
theorem AIL.keep {es : List PyData} (a : AIL c D XL es h) (q : HX c Y h h') (hF : ∀ a ∈ c.fr, a ∈ XL /\ a ≠ D) (hy : ∀ y ∈ Y, y ∈ XL /\ y ≠ D) : AIL c D XL es h' := by
 obtain ⟨vs, n, e, r⟩ := a
 exact ⟨vs, n, q.exact (fun z => (hy _ z).2 rfl) (fun z => (hF _ z).2 rfl) e, r.hx q (fun a ha => (hF a ha).1) fun y h => (hy y h).1⟩
theorem Plc.after (P : Plc c X XL N D env) {h h' : Heap} (q : HX c [D] h h') (G : Good c A XL env Γ h) (ha : ∃ o, h'.get? D = some o) {xs : List Str} (T : TG env N xs h) : Good c A XL env Γ h' /\ TG env N xs h' := by
 refine ⟨G.mut q (fun y hy => by rw [lS hy]; exact P.acc.1) (fun z => P.acc.2.2.2 (lS z ▸ P.loc)) (fun x a e z => P.cel x a e (lS z)) (fun a ha => ha) (fun a _ hy => by rw [lS hy]; exact ha) G.bas.frs, ?_⟩
 exact T.hx q (fun z => P.acc.2.2.2 (lS z ▸ P.loc)) fun t ht z => P.acc.2.2.2 (lS z ▸ ht)
theorem rY {es : List PyData} {xs : List Str} (P : Plc c X XL N D env) (h : Ev c l XL env Γ' elt d) (hs : ∀ p ∈ Γ, p ∈ Γ') (L : Lev l A) (G : Good c A XL env Γ' s.heap) (a : AIL c D XL es s.heap) (T : TG env N xs s.heap) (hz : es.length <= 10 ^ 6) :
  wpAny c.M A (rT elt (.ref D) env) (fun _ s' => fB c A XL [D] N env Γ xs (AIL c D XL (es ++ [d])) s s') NoE s := by
 refine wB (h.use L G fun v s1 p1 r1 G1 => ?_)
 obtain ⟨h1, tk1, q1⟩ := p1
 obtain ⟨vs, n, e, r⟩ := a.keep q1 (fun a ha => ⟨G.bas.frs a ha, fun z => P.acc.2.1 (z ▸ ha)⟩) fun y hy => nomatch hy
 have hl : vs.length <= 10 ^ 6 := by rw [r.length]; exact hz
 refine wB (append_at e (fun h' hs' e' => wP ?_) (by simp [sizeLine_eq]; omega))
 have q2 : HX c [D] h1 h' := .sameBut hs' P.acc.2.2.1 P.acc.2.1
 have q02 : HX c [D] s.heap h' := (q1.mono fun _ z => nomatch z).trans q2
 have T1 := T.hx q1 (fun z => nomatch z) fun _ _ z => nomatch z
 obtain ⟨G2, T2⟩ := P.after q2 G1 ⟨_, e'⟩ T1
 have hDX : ∀ y ∈ [D], y ∈ XL := fun y hy => lS hy ▸ P.acc.1
 refine ⟨h', _, q02, ⟨vs ++ [v], n + 1, ?_, (r.hx q2 G.bas.frs hDX).append (.cons (r1.hx q2 G.bas.frs hDX) .nil)⟩, G2.sub hs, T2⟩
 rw [e']
 simp [bH]
theorem bW {p : α -> Bool} {l : List α} {d : α} (h : l[i]? = some d) : (l.take (i + 1)).filter p = (l.take i).filter p ++ (if p d then [d] else []) := by
 rw [List.take_add_one, h, Option.toList_some, List.filter_append]
 congr 1
 by_cases q : p d = true
 ·simp [q]
 ·simp [Bool.eq_false_iff.mpr q]
theorem EvC.Ad {pair : Bool} {xs : List Str} (bs : PyData -> Bool) (f : PyData -> PyData)
  (hI : EvI c l X env Γ pair iter ds) (hB : ∀ d ∈ ds, fJ pair tg d xs (Γd d)) (hs : fY env scope) (hc : Cap env scope Γ Γc) (hxs : ∀ x ∈ xs, scope.names.lookup x = some .local \/ scope.names.lookup x = some .cell) (ho : fZ xs Γc)
  (ht : ∀ cs C XL, ∀ d ∈ ds, jm c l XL (aq scope cs C env) (Γd d ++ Γc) ifs (bs d))
  (he : ∀ cs C XL, ∀ d ∈ ds, bs d = true -> Ev c l XL (aq scope cs C env) (Γd d ++ Γc) elt (f d)) (hz : ds.length <= 10 ^ 6)
  (htg : autoParam (TgI pair tg) aC) (hfold : autoParam (∀ x, foldedSetIterable iter env x = pure x) aI) :
  EvC c l X env Γ (.ListComp elt [⟨tg, iter, ifs, 0⟩] scope pos) (.list ((ds.filter bs).map f)) := ⟨fun _ => ⟨rfl, fun _ => rfl⟩, fun A s use Q L G kk => by
 have hlen : ∀ i, (((ds.take i).filter bs).map f).length <= 10 ^ 6 := fun i => by
  rw [List.length_map]
  exact Nat.le_trans (List.length_filter_le ..) (Nat.le_trans (by rw [List.length_take]; exact Nat.min_le_right ..) hz)
 refine fK (e := .ListComp elt [⟨tg, iter, ifs, 0⟩] scope pos) (use := use) (Q := Q) (l := l) (newAcc := newList []) (acc0 := bH [] 0) (body := fun acc cenv => rT elt acc cenv) (AI := fun D XL i h => AIL c D XL (((ds.take i).filter bs).map f) h) (xs := xs) (bs := bs) (rest := []) rfl hfold
  (fun A s E Q h => wpAny_newObj_type h) rfl (fun D it cenv => ?_) (fun _ _ _ => rfl) (fun _ _ _ => rfl) (fun _ _ _ _ => rfl) (fun _ _ _ _ => rfl) hI hB (fun x h => h) htg hs hc hxs ho (fun cs C XL _ d hd => ht cs C XL d hd)
  (fun D XL h _ e => ⟨[], 0, e, by simp; exact .nil⟩) (fun D XL i h h' Y a q hF hy => a.keep q hF hy) (fun D XL i h a => let ⟨_, _, e, _⟩ := a; ⟨_, e⟩)
  (fun cs C XL N D P A s i d L hd hbs G a T => wK (rY P (he cs C XL d (lG hd) hbs) (fun p hp => lR _ hp) L G a T (hlen i)) (fun _ s' hr => ?_))
  (fun D XL i d h hd hbs a => ?_) L G (fun s5 D XL C p hX hD hC hDX hCX hCD hF ai hm => kk s5 D XL C p hX hD hC hDX hCX hCD hF (by rw [List.take_length] at ai; exact ai) hm)
 ·show (compTurn _ 0 it (.ref D) cenv).onRaise _ = _
  rw [yh]
 ·refine hr.to (fun y hy => lS hy ▸ .head _) fun h a' => ?_
  rw [bW hd, if_pos hbs, List.map_append]
  exact a'
 ·rw [bW hd, hbs]
  simpa using a⟩
theorem yq {g0 : Comprehension} {pair : Bool} {es0 : List PyData} {xs ys : List Str} {f : PyData -> PyData} 
  (hI : EvI c l XL env Γ' pair iter ds) (hB : ∀ d ∈ ds, fJ pair tg d ys (Γd d)) (hsub : ∀ x ∈ ys, x ∈ xs) (ho : fZ ys Γ') (htg : TgI pair tg) (hfold : ∀ x, foldedSetIterable iter env x = pure x)
  (ht : ∀ X', (∀ a ∈ XL, a ∈ X') -> ∀ d ∈ ds, jm c l X' env (Γd d ++ Γ') ifs (bs d)) (he : ∀ X', (∀ a ∈ XL, a ∈ X') -> ∀ d ∈ ds, bs d = true -> Ev c l X' env (Γd d ++ Γ') elt (f d))
  (P : Plc c X XL N D env) (hs : ∀ p ∈ Γ, p ∈ Γ') (L : Lev l A) (G : Good c A XL env Γ' s.heap) (a : AIL c D XL es0 s.heap) (T : TG env N xs s.heap) (hz : es0.length + ds.length <= 10 ^ 6) :
  wpAny c.M A (jZ (.ListComp elt [g0, ⟨tg, iter, ifs, 0⟩] scope pos) iter (.ref D) env) (fun _ s' => fB c A XL (D :: N) N env Γ xs (AIL c D XL (es0 ++ (ds.filter bs).map f)) s s') NoE s := by
 unfold jZ
 refine wB (wK (hI A s L G) (fun x s1 hx => wB (wpAny_standAt (wB (wpAny_of_eq (hfold x) (wB (wpAny_holding (wK hx (fun it s2 hx => ?_)))))))))
 obtain ⟨p2, I, fp, St, IT, st, hfp⟩ := hx
 obtain ⟨h2, tk2, q2⟩ := p2
 have fpa : ∀ a ∈ fp, ∃ o, h2.get? a = some o := IT.alive _ _ _ st
 have alive_of : ∀ a, (∃ o, s.heap.get? a = some o) -> a ∉ fp := fun a ⟨o, e⟩ z => by rw [hfp a z] at e; cases e
 have hXLf : ∀ a ∈ XL, a ∉ fp := fun a ha => alive_of a (G.bas.alloc a ha)
 have hbase : ∀ a, s.heap.get? a = none -> c.base.get? a = none := fun a ha => by
  cases e : c.base.get? a with
  | none => rfl
  | some o => rw [G.bas.inBase e] at ha; cases ha
 have G2 : Good c A (fp ++ XL) env Γ' h2 := G.grow q2 (fun a ha => (lA ha).elim (fun z => .inr (hfp a z)) .inl) (fun a ha => lR _ ha) fun a ha => (lA ha).elim (fpa a) fun z => q2.alive (fun z => nomatch z) (G.bas.alloc a z)
 have hF : ∀ a ∈ c.fr, a ∈ XL := G.bas.frs
 have a2 : AIL c D (fp ++ XL) es0 h2 := by
  obtain ⟨vs', n', e', r'⟩ := a
  exact ⟨vs', n', q2.exact (fun z => nomatch z) P.acc.2.1 e', (r'.wide fun a ha => (lA ha).elim (fun z => .inr (hfp a z)) .inl).hx0 q2 fun a ha => lR _ (hF a ha)⟩
 have T2 := T.hx q2 (fun z => nomatch z) fun _ _ z => nomatch z
 have P2 : Plc c XL (fp ++ XL) N D env := ⟨fun a ha => lR _ ha, ⟨lR _ P.acc.1, P.acc.2⟩, fun a ha => ⟨lR _ (P.own a ha).1, (P.own a ha).2⟩, P.loc, P.cel⟩
 have hlen : ∀ i, (es0 ++ ((ds.take i).filter bs).map f).length <= 10 ^ 6 := fun i => by
  rw [List.length_append, List.length_map]
  have h1 := List.length_filter_le bs (ds.take i)
  have h2 : (ds.take i).length <= ds.length := by rw [List.length_take]; exact Nat.min_le_right ..
  omega
 have key : codeAny c.M A (.compLoop (.ListComp elt [g0, ⟨tg, iter, ifs, 0⟩] scope pos) 1 (.ref I) (.ref D) env) _ { s with heap := h2, toks := tk2 } :=
  v8 (s := { s with heap := h2, toks := tk2 }) (Z := [D]) (X' := XL) (N := N) (xs := xs) (AI := fun i h => AIL c D (fp ++ XL) (es0 ++ ((ds.take i).filter bs).map f) h) (I := I) (body := rT elt (.ref D) env) (p := iter.pos) (bs := bs)
   rfl rfl (by show (compTurn _ 1 (.ref I) (.ref D) env).onRaise _ = _; rw [uK]) L IT hB hsub htg (fun a ha => ⟨lL _ ha, hbase a (hfp a ha), fun z => hXLf a (hF a z) ha⟩) (fun a ha => ⟨lR _ (hF a ha), hXLf a (hF a ha)⟩)
   (hXLf _ (P.own _ P.loc).1) (fun x a e => alive_of a (let ⟨v, i⟩ := G.cal x a e; let ⟨o, e, _⟩ := cU i; ⟨o, e⟩)) (fun a ha => ⟨⟨lR _ (P.own a ha).1, (P.own a ha).2.1⟩, hXLf a (P.own a ha).1⟩)
   (fun a ha => by rw [lS ha]; exact ⟨lR _ P.acc.1, hXLf _ P.acc.1⟩) ho
   (fun i h h' Y ai q hy => ai.keep q (fun a ha => ⟨lR _ (hF a ha), fun z => P.acc.2.1 (z ▸ ha)⟩) fun y h => (hy y h).elim (fun z => ⟨lL _ z, fun e => hXLf _ P.acc.1 (e ▸ z)⟩) fun z => ⟨lR _ (P.own y z).1, fun e => P.acc.2.2.2 (e ▸ z)⟩)
   (fun d hd => ht _ (fun a ha => lR _ ha) d hd)
   (fun i d s1 hd hbs G1 ai T1 => wK (rY P2 (he _ (fun a ha => lR _ ha) d (lG hd) hbs) (fun p hp => lR _ hp) L G1 ai T1 (hlen i)) (fun _ s' hr => hr.to (fun _ z => z) fun h a' => by
    rw [bW hd, if_pos hbs, List.map_append, <- List.append_assoc]
    exact a'))
   (fun i d h hd hbs ai => by rw [bW hd, hbs]; simpa using ai)
   (fun a ha => ⟨lR _ ha, hXLf a ha⟩) hF G2 st (by simpa using a2) T2
 have fin : wpAny c.M A (runOwn (.compStart (.ListComp elt [g0, ⟨tg, iter, ifs, 0⟩] scope pos) 1 (.ref I) (.ref D) env) env) (fun _ s' => fB c A XL (D :: N) N env Γ xs (AIL c D XL (es0 ++ (ds.filter bs).map f)) s s') NoE { s with heap := h2, toks := tk2 } := by
  refine wpAny_runOwn ?_
  have step : codeAny c.M A (.compLoop (.ListComp elt [g0, ⟨tg, iter, ifs, 0⟩] scope pos) 1 (.ref I) (.ref D) env) (fun r s' => match r with | .ok _ => fB c A XL (D :: N) N env Γ xs (AIL c D XL (es0 ++ (ds.filter bs).map f)) s s' | .error e => cameBackBy c.M A env NoE e s') { s with heap := h2, toks := tk2 } := by
   refine codeAny_mono key fun r s' hr => ?_
   obtain ⟨rfl, h5, tk5, q5, ai5, G5, T5⟩ := hr
   refine ⟨h5, tk5, ?_, ?_, G5.sub hs, T5⟩
   ·refine (q2.mono fun _ z => nomatch z).zW q5 fun a ha => ?_
    rcases lA ha with z | z
    ·exact .inr (hfp a z)
    ·rcases lA z with z | z
     ·exact .inl (.tail _ z)
     ·exact .inl (lS z ▸ .head _)
   ·obtain ⟨vs, n, e, r⟩ := ai5
    rw [List.take_length] at r
    exact ⟨vs, n, e, r.sub fun a ha => lR _ ha⟩
  exact je rfl rfl step (wK (IT.self A _ _ _ st) (fun it' s' hr => by obtain ⟨rfl, rfl⟩ := hr; exact step)) (fun _ => rfl) rfl
 exact wB (wK fin (fun _ _ h => wP h))
section
theorem j5 {F : α -> List β} {p : α -> Bool} {ds : List α} {d : α} (h : ds[i]? = some d) : ((ds.take (i + 1)).filter p).flatMap F = ((ds.take i).filter p).flatMap F ++ (if p d then F d else []) := by
 rw [bW h, List.flatMap_append]
 congr 1
 cases p d <;> simp
theorem Eu {F : α -> List β} {p : α -> Bool} : ∀ {ds : List α} {i : Nat} {d : α}, ds[i]? = some d -> p d = true -> (((ds.take i).filter p).flatMap F).length + (F d).length <= ((ds.filter p).flatMap F).length := fun {ds i d} h hp => by
 have e : ds = ds.take (i + 1) ++ ds.drop (i + 1) := (List.take_append_drop ..).symm
 conv => rhs; rw [e, List.filter_append, List.flatMap_append, List.length_append, j5 h, if_pos hp, List.length_append]
 omega
theorem EvC.yr {tg2 : Expr} {pair pair2 : Bool} {xs xs2 : List Str} (bs : PyData -> Bool) (es : PyData -> List PyData) (bs2 : PyData -> PyData -> Bool) (f : PyData -> PyData -> PyData)
  (hI : EvI c l X env Γ pair iter ds) (hB : ∀ d ∈ ds, fJ pair tg d xs (Γd d)) (hs : fY env scope) (hc : Cap env scope Γ Γc) (hxs : ∀ x ∈ xs ++ xs2, scope.names.lookup x = some .local \/ scope.names.lookup x = some .cell) (ho : fZ xs Γc)
  (ht : ∀ cs C XL, ∀ d ∈ ds, jm c l XL (aq scope cs C env) (Γd d ++ Γc) ifs (bs d))
  (hI2 : ∀ cs C XL, ∀ d ∈ ds, bs d = true -> EvI c l XL (aq scope cs C env) (Γd d ++ Γc) pair2 iter2 (es d)) (hB2 : ∀ d ∈ ds, bs d = true -> ∀ e ∈ es d, fJ pair2 tg2 e xs2 (Γd2 d e)) (ho2 : ∀ d ∈ ds, fZ xs2 (Γd d ++ Γc))
  (ht2 : ∀ cs C XL, ∀ d ∈ ds, bs d = true -> ∀ e ∈ es d, jm c l XL (aq scope cs C env) (Γd2 d e ++ (Γd d ++ Γc)) ifs2 (bs2 d e))
  (he : ∀ cs C XL, ∀ d ∈ ds, bs d = true -> ∀ e ∈ es d, bs2 d e = true -> Ev c l XL (aq scope cs C env) (Γd2 d e ++ (Γd d ++ Γc)) elt (f d e))
  (hz : ((ds.filter bs).flatMap es).length <= 10 ^ 6)
  (htg : autoParam (TgI pair tg) aC) (htg2 : autoParam (TgI pair2 tg2) aC) (hfold : autoParam (∀ x, foldedSetIterable iter env x = pure x) aI) (hfold2 : autoParam (∀ cs C x, foldedSetIterable iter2 (aq scope cs C env) x = pure x) aI) :
  EvC c l X env Γ (.ListComp elt [⟨tg, iter, ifs, 0⟩, ⟨tg2, iter2, ifs2, 0⟩] scope pos) (.list ((ds.filter bs).flatMap fun d => ((es d).filter (bs2 d)).map (f d))) := ⟨fun _ => ⟨rfl, fun _ => rfl⟩, fun A s use Q L G kk => by
 have hlen : ∀ (i : Nat) (d : PyData), ds[i]? = some d -> bs d = true -> (((ds.take i).filter bs).flatMap fun d => ((es d).filter (bs2 d)).map (f d)).length + (es d).length <= 10 ^ 6 := fun i d hd hbs => by
  refine Nat.le_trans ?_ hz
  refine Nat.le_trans (Nat.add_le_add_right ?_ _) (Eu (F := es) (p := bs) hd hbs)
  generalize (ds.take i).filter bs = L
  induction L with
  | nil => simp
  | cons a r ih =>
   rw [List.flatMap_cons, List.flatMap_cons, List.length_append, List.length_append, List.length_map]
   have := List.length_filter_le (bs2 a) (es a)
   omega
 refine fK (e := .ListComp elt [⟨tg, iter, ifs, 0⟩, ⟨tg2, iter2, ifs2, 0⟩] scope pos) (use := use) (Q := Q) (l := l) (newAcc := newList []) (acc0 := bH [] 0) (body := fun acc cenv => jZ (.ListComp elt [⟨tg, iter, ifs, 0⟩, ⟨tg2, iter2, ifs2, 0⟩] scope pos) iter2 acc cenv) (AI := fun D XL i h => AIL c D XL (((ds.take i).filter bs).flatMap fun d => ((es d).filter (bs2 d)).map (f d)) h) (xs := xs ++ xs2) (bs := bs) (rest := [⟨tg2, iter2, ifs2, 0⟩]) rfl hfold
  (fun A s E Q h => wpAny_newObj_type h) rfl (fun D it cenv => ?_) (fun _ _ _ => rfl) (fun _ _ _ => rfl) (fun _ _ _ _ => rfl) (fun _ _ _ _ => rfl) hI hB (fun x h => lL _ h) htg hs hc hxs ho (fun cs C XL _ d hd => ht cs C XL d hd)
  (fun D XL h _ e => ⟨[], 0, e, by simp; exact .nil⟩) (fun D XL i h h' Y a q hF hy => a.keep q hF hy) (fun D XL i h a => let ⟨_, _, e, _⟩ := a; ⟨_, e⟩)
  (fun cs C XL N D P A s i d L hd hbs G a T => wK (yq (hI2 cs C XL d (lG hd) hbs) (hB2 d (lG hd) hbs) (fun x h => lR _ h) (ho2 d (lG hd)) htg2 (hfold2 cs C) (fun X' _ e he' => ht2 cs C X' d (lG hd) hbs e he')
   (fun X' _ e he' hb => he cs C X' d (lG hd) hbs e he' hb) P (fun p hp => lR _ hp) L G a T (hlen i d hd hbs)) (fun _ s' hr => ?_))
  (fun D XL i d h hd hbs a => ?_) L G (fun s5 D XL C p hX hD hC hDX hCX hCD hF ai hm => kk s5 D XL C p hX hD hC hDX hCX hCD hF (by rw [List.take_length] at ai; exact ai) hm)
 ·show (compTurn _ 0 it (.ref D) cenv).onRaise _ = _
  rw [uM]
 ·refine hr.to (fun _ z => z) fun h a' => ?_
  rw [j5 hd, if_pos hbs]
  exact a'
 ·rw [j5 hd, hbs]
  simpa using a⟩
structure bh (w : World) (K : Type) [DecidableEq K] where
 knd : ∀ prog, PySem.KeyKind prog w K
 enc : K -> PyData
 inj : ∀ a b, enc a = enc b -> a = b
 to : ∀ prog (e : DictEntry) k, (knd prog).is k e.key = true -> e.hash = (knd prog).hash k -> pC w e (enc k)
 of : ∀ prog (e : DictEntry) k, pC w e (enc k) -> (knd prog).is k e.key = true /\ e.hash = (knd prog).hash k
 rd : ∀ prog k v, (knd prog).is k v = true -> ∀ X h, Rd w X h v (enc k)
 dr : ∀ prog k X h v, Rd w X h v (enc k) -> (knd prog).is k v = true
 flat : ∀ k, Mine.flat (enc k) = true
 nn : ∀ k, enc k ≠ .none
noncomputable def gU (w : World) : bh w Str where
 knd := fun prog => PySem.strKind prog w
 enc := .str
 inj := fun a b h => by cases h; rfl
 to := fun prog e k h1 h2 => ⟨Value.isStrOf_shape h1, h2⟩
 of := fun prog e k h => by
  obtain ⟨⟨t, e1⟩, e2⟩ := h
  exact ⟨by rw [e1]; simp [PySem.strKind, Value.isStrOf], e2⟩
 rd := fun prog k v h X hp => by obtain ⟨t, rfl⟩ := Value.isStrOf_shape h; exact .str _ _
 dr := fun prog k X h v r => by obtain ⟨t⟩ := r.str_inv; simp [PySem.strKind, Value.isStrOf]
 flat := fun _ => rfl
 nn := fun _ h => nomatch h
variable {K : Type} [DecidableEq K]
theorem Ew (dk : bh c.w K) {es : List DictEntry} {kvs : List (K × Value)} (hk : ∀ e ∈ es, ∃ k, (dk.knd c.prog).is k e.key = true /\ e.hash = (dk.knd c.prog).hash k) (hp : PySem.Pairs (dk.knd c.prog) es kvs) : KeysAre c.w es ((kvs.map (·.1)).map dk.enc) /\ es.map (·.val) = kvs.map (·.2) := by
 induction hp with
 | nil => exact ⟨.nil, rfl⟩
 | @cons e kv es kvs h1 h2 r ih =>
  obtain ⟨a, b⟩ := ih fun e he => hk e (.tail _ he)
  obtain ⟨k, h3, h4⟩ := hk e (.head _)
  have : k = kv.1 := (dk.knd c.prog).inj _ _ _ h3 h1
  subst this
  exact ⟨.cons (dk.to _ _ _ h1 h4) a, by rw [List.map_cons, List.map_cons, h2, b]⟩
theorem yt {f : α -> β} (hf : ∀ a b, f a = f b -> a = b) {l : List α} (h : l.Nodup) : (l.map f).Nodup := List.pairwise_map.mpr (h.imp fun n e => n (hf _ _ e))
theorem jB {f : α -> β} {l : List α} (h : (l.map f).Nodup) : l.Nodup := (List.pairwise_map.mp h).imp fun n e => n (congrArg f e)
theorem v9 (dk : bh c.w K) {es : List DictEntry} : ∀ {ks : List K}, KeysAre c.w es (ks.map dk.enc) -> (∀ e ∈ es, ∃ k, (dk.knd c.prog).is k e.key = true /\ e.hash = (dk.knd c.prog).hash k) /\ PySem.Pairs (dk.knd c.prog) es (ks.zip (es.map (·.val))) := by
 induction es with
 | nil =>
  intro ks h
  cases ks with
  | nil => exact ⟨(fun _ h => nomatch h), .nil⟩
  | cons k ks => cases h
 | cons e es ih =>
  intro ks h
  cases ks with
  | nil => cases h
  | cons k ks =>
   obtain ⟨h, r⟩ := h.cons_inv
   obtain ⟨a, b⟩ := ih r
   have := dk.of c.prog _ _ h
   exact ⟨fun e' he => (lC he).elim (fun z => ⟨k, z ▸ this⟩) (a e'), .cons this.1 rfl b⟩
theorem IK {o : Obj} {es : Array DictEntry} {n : Nat} (hx : o.cls = .type "dict" /\ o.dict = none /\ o.slots = #[]) (hd : o.data = .dict es n) : o = oH es.toList n := by
 obtain ⟨oc, od, oda, os⟩ := o
 rw [show oc = _ from hx.1, show od = _ from hx.2.1, show os = _ from hx.2.2, show oda = _ from hd, oH, Array.toArray_toList]
theorem Ey (dk : bh c.w K) {ks : List K} (h : ks.map dk.enc = [.none]) : False := by
 cases ks with
 | nil => cases h
 | cons k _ => exact dk.nn _ (List.cons.inj h).1
inductive Kr (c : Cfg) (dk : bh c.w K) (X : List Addr) (h : Heap) (ks : List K) (ds : List PyData) : Value -> Prop
 | mk (a : Addr) (vs : List Value) (ha : a ∉ X) (hd : h.DictOf (dk.knd c.prog) a (ks.zip vs)) (r : RdL c.w X h vs ds) (e : vs.length = ks.length) : Kr c dk X h ks ds (.ref a)
theorem bT.Ae (dk : bh c.w K) {h : Heap} {a : Addr} {kvs : List (K × Value)} {ds : List PyData} (hd : h.DictOf (dk.knd c.prog) a kvs) (r : RdL c.w X h (kvs.map (·.2)) ds) : bT c X h a (.dict (((kvs.map (·.1)).map dk.enc).zip ds)) := by
 obtain ⟨o, es, ep, e, hx, hdat, hk, hp, hn⟩ := hd
 obtain ⟨h1, h2⟩ := Ew dk (c := c) (fun e he => hk e (by simpa using he)) hp
 have hlen : ((kvs.map (·.1)).map dk.enc).length = ds.length := by
  have := r.length
  simp at this ⊢
  exact this
 have hk1 : (((kvs.map (·.1)).map dk.enc).zip ds).map (·.1) = (kvs.map (·.1)).map dk.enc := List.map_fst_zip (Nat.le_of_eq hlen)
 have hk2 : (((kvs.map (·.1)).map dk.enc).zip ds).map (·.2) = ds := List.map_snd_zip (Nat.le_of_eq hlen.symm)
 have ho : o = oH es.toList ep := IK hx hdat
 refine ⟨_, _, (ho ▸ e), (by rw [hk1]; exact h1), ?_, (by rw [hk2, h2]; exact r)⟩
 rw [hk1]
 exact yt dk.inj hn
theorem Rd.j6 (dk : bh c.w K) {h : Heap} {v : Value} {ks : List K} {ds : List PyData} (hl : ks.length = ds.length) (r : Rd c.w X h v (.dict ((ks.map dk.enc).zip ds))) : Kr c dk X h ks ds v := by
 have hl' : (ks.map dk.enc).length = ds.length := by rw [List.length_map]; exact hl
 have hk1 : ((ks.map dk.enc).zip ds).map (·.1) = ks.map dk.enc := List.map_fst_zip (Nat.le_of_eq hl')
 have hk2 : ((ks.map dk.enc).zip ds).map (·.2) = ds := List.map_snd_zip (Nat.le_of_eq hl'.symm)
 have hz := r.rP fun x z => Ey dk (hk1.symm.trans (congrArg (List.map (·.1)) z)); clear r
 obtain ⟨a, es, n, ha, e, k, nd, r⟩ := hz
 rw [hk1] at k nd
 rw [hk2] at r
 obtain ⟨h1, h2⟩ := v9 dk k
 have hlen : (es.map (·.val)).length = ks.length := by rw [r.length, hl]
 refine ⟨a, es.map (·.val), ha, ⟨_, es.toArray, n, e, ⟨rfl, rfl, rfl⟩, rfl, fun e he => h1 e (by simpa using he), h2, ?_⟩, r, hlen⟩
 rw [List.map_fst_zip (Nat.le_of_eq hlen.symm)]
 exact jB nd
end
section
variable {K : Type} [DecidableEq K]
theorem HX.dictOf {knd : PySem.KeyKind c.prog c.w K} (q : HX c Y h h') {a : Addr} {kvs : List (K × Value)} (hy : a ∉ Y) (hf : a ∉ c.fr) (d : h.DictOf knd a kvs) : h'.DictOf knd a kvs := by
 obtain ⟨o, es, ep, e, r⟩ := d
 exact ⟨o, es, ep, q.exact hy hf e, r⟩
noncomputable def AID (c : Cfg) (dk : bh c.w K) (D : Addr) (XL : List Addr) (ks : List K) (es : List PyData) (h : Heap) : Prop := ∃ vs, h.DictOf (dk.knd c.prog) D (ks.zip vs) /\ RdL c.w XL h vs es /\ ks.length = vs.length
theorem AID.keep {dk : bh c.w K} {ks : List K} {es : List PyData} (a : AID c dk D XL ks es h) (q : HX c Y h h') (hF : ∀ a ∈ c.fr, a ∈ XL /\ a ≠ D) (hy : ∀ y ∈ Y, y ∈ XL /\ y ≠ D) : AID c dk D XL ks es h' := by
 obtain ⟨vs, d, r, e⟩ := a
 exact ⟨vs, q.dictOf (fun z => (hy _ z).2 rfl) (fun z => (hF _ z).2 rfl) d, r.hx q (fun a ha => (hF a ha).1) fun y h => (hy y h).1, e⟩
theorem stored_new {kvs : List (K × Value)} {k : K} (h : k ∉ kvs.map (·.1)) : stored kvs k v = kvs ++ [(k, v)] := by
 unfold stored
 rw [if_neg]
 intro z
 obtain ⟨p, hp, e⟩ := List.any_eq_true.mp z
 exact h (List.mem_map.mpr ⟨p, hp, of_decide_eq_true e⟩)
theorem Af {dk : bh c.w K} {k : K} {ks : List K} {es : List PyData} {xs : List Str} (P : Plc c X XL N D env) (h1 : Ev c l XL env Γ' kx (dk.enc k)) (h2 : Ev c l XL env Γ' vx d) (hs : ∀ p ∈ Γ, p ∈ Γ') (L : Lev l A) (G : Good c A XL env Γ' s.heap) (a : AID c dk D XL ks es s.heap)
  (T : TG env N xs s.heap) (hz : ks.length <= 10 ^ 6) (hk : k ∉ ks) :
  wpAny c.M A (rW kx vx D env) (fun _ s' => fB c A XL [D] N env Γ xs (AID c dk D XL (ks ++ [k]) (es ++ [d])) s s') NoE s := by
 refine wB (h1.use L G fun kv s1 p1 r1 G1 => wB (wpAny_holding (h2.use L G1 fun v s2 p2 r2 G2 => wB (wpAny_standAt (wpAny_holding ?_)))))
 obtain ⟨h2, tk2, q2⟩ := p1.trans p2
 obtain ⟨vs, dd, r, e⟩ := a.keep q2 (fun a ha => ⟨G.bas.frs a ha, fun z => P.acc.2.1 (z ▸ ha)⟩) fun y hy => nomatch hy
 have hfst : (ks.zip vs).map (·.1) = ks := List.map_fst_zip (Nat.le_of_eq e)
 refine wpAny_dictSet_pairs (dk.dr c.prog k _ _ _ r1) dd (fun h' d' hs' => ?_) (by rw [List.length_zip, <- e, sizeLine_eq]; omega)
 rw [stored_new (by rw [hfst]; exact hk)] at d'
 have q3 : HX c [D] h2 h' := .sameBut hs' P.acc.2.2.1 P.acc.2.1
 have q03 : HX c [D] s.heap h' := (q2.mono fun _ z => nomatch z).trans q3
 have hDX : ∀ y ∈ [D], y ∈ XL := fun y hy => lS hy ▸ P.acc.1
 obtain ⟨G3, T3⟩ := P.after q3 G2 (let ⟨o, _, _, e, _⟩ := d'; ⟨o, e⟩) (T.hx q2 (fun z => nomatch z) fun _ _ z => nomatch z)
 refine ⟨h', _, q03, ⟨vs ++ [v], ?_, (r.hx q3 G.bas.frs hDX).append (.cons (r2.hx q3 G.bas.frs hDX) .nil), by simp [e]⟩, G3.sub hs, T3⟩
 rw [List.zip_append e]
 exact d'
theorem EvC.Ag (dk : bh c.w K) {Γc : Gam} {kx vx tg iter : Expr} {ifs : List Expr} {scope : Scope} {pos : Pos} {pair : Bool} {ds : List PyData} {xs : List Str} {Γd : PyData -> Gam} (bs : PyData -> Bool) (kf : PyData -> K) (f : PyData -> PyData)
  (hI : EvI c l X env Γ pair iter ds) (hB : ∀ d ∈ ds, fJ pair tg d xs (Γd d)) (hs : fY env scope) (hc : Cap env scope Γ Γc) (hxs : ∀ x ∈ xs, scope.names.lookup x = some .local \/ scope.names.lookup x = some .cell) (ho : fZ xs Γc)
  (ht : ∀ cs C XL, ∀ d ∈ ds, jm c l XL (aq scope cs C env) (Γd d ++ Γc) ifs (bs d))
  (hek : ∀ cs C XL, ∀ d ∈ ds, bs d = true -> Ev c l XL (aq scope cs C env) (Γd d ++ Γc) kx (dk.enc (kf d)))
  (hev : ∀ cs C XL, ∀ d ∈ ds, bs d = true -> Ev c l XL (aq scope cs C env) (Γd d ++ Γc) vx (f d)) (hz : ds.length <= 10 ^ 6) (hn : ((ds.filter bs).map kf).Nodup)
  (htg : autoParam (TgI pair tg) aC) (hfold : autoParam (∀ x, foldedSetIterable iter env x = pure x) aI) :
  EvC c l X env Γ (.DictComp kx vx [⟨tg, iter, ifs, 0⟩] scope pos) (.dict ((ds.filter bs).map fun d => (dk.enc (kf d), f d))) := ⟨fun _ => ⟨rfl, fun _ => rfl⟩, fun A s use Q L G kk => by
 have hlen : ∀ i, (((ds.take i).filter bs).map kf).length <= 10 ^ 6 := fun i => by
  rw [List.length_map]
  exact Nat.le_trans (List.length_filter_le ..) (Nat.le_trans (by rw [List.length_take]; exact Nat.min_le_right ..) hz)
 have hnew : ∀ (i : Nat) (d : PyData), ds[i]? = some d -> bs d = true -> kf d ∉ ((ds.take i).filter bs).map kf := fun i d hd hbs => by
  have e : ds = ds.take (i + 1) ++ ds.drop (i + 1) := (List.take_append_drop ..).symm
  rw [e, List.filter_append, bW hd, if_pos hbs, List.map_append, List.map_append, List.nodup_append] at hn
  have := (List.nodup_append.mp hn.1).2.2
  intro z
  exact this _ z (kf d) (by simp) rfl
 refine fK (e := .DictComp kx vx [⟨tg, iter, ifs, 0⟩] scope pos) (use := use) (Q := Q) (l := l) (newAcc := newDict) (acc0 := oH [] 0) (body := fun acc cenv => match acc with | .ref D => rW kx vx D cenv | _ => pure ()) (AI := fun D XL i h => AID c dk D XL (((ds.take i).filter bs).map kf) (((ds.take i).filter bs).map f) h) (xs := xs) (bs := bs) (rest := []) rfl hfold
  (fun A s E Q h => wpAny_newObj_type h) rfl (fun D it cenv => ?_) (fun _ _ _ => rfl) (fun _ _ _ => rfl) (fun _ _ _ _ => rfl) (fun _ _ _ _ => rfl) hI hB (fun x h => h) htg hs hc hxs ho (fun cs C XL _ d hd => ht cs C XL d hd)
  (fun D XL h _ e => ⟨[], (show h.DictOf (dk.knd c.prog) D [] from ⟨_, _, _, e, ⟨rfl, rfl, rfl⟩, rfl, (fun _ he => by simp at he), PySem.Pairs.nil, List.nodup_nil⟩), (by simp; exact RdL.nil), (by simp)⟩) (fun D XL i h h' Y a q hF hy => a.keep q hF hy) (fun D XL i h a => let ⟨_, ⟨_, _, _, e, _⟩, _⟩ := a; ⟨_, e⟩)
  (fun cs C XL N D P A s i d L hd hbs G a T => wK (Af P (hek cs C XL d (lG hd) hbs) (hev cs C XL d (lG hd) hbs) (fun p hp => lR _ hp) L G a T (hlen i) (hnew i d hd hbs)) (fun _ s' hr => ?_))
  (fun D XL i d h hd hbs a => ?_) L G (fun s5 D XL C p hX hD hC hDX hCX hCD hF ai hm => kk s5 D XL C p hX hD hC hDX hCX hCD hF ?_ hm)
 ·show (compTurn _ 0 it (.ref D) cenv).onRaise _ = _
  rw [pG]
 ·refine hr.to (fun y hy => lS hy ▸ .head _) fun h a' => ?_
  rw [bW hd, if_pos hbs, List.map_append, List.map_append]
  exact a'
 ·rw [bW hd, hbs]
  simpa using a
 ·obtain ⟨vs, d, r, e⟩ := ai
  rw [List.take_length] at r e d
  have := bT.Ae dk d (by rw [List.map_snd_zip (Nat.le_of_eq e.symm)]; exact r)
  rw [List.map_fst_zip (Nat.le_of_eq e), List.map_map] at this
  rw [show (ds.filter bs).map (fun d => (dk.enc (kf d), f d)) = (List.map (dk.enc ∘ kf) (ds.filter bs)).zip (List.map f (ds.filter bs)) from ?_]
  ·exact this
  ·generalize ds.filter bs = L
   induction L with
   | nil => rfl
   | cons a r ih => simp [ih]⟩
end
section
inductive StT (c : Cfg) (I ax : Addr) (ds : List PyData) (X : List Addr) (i : Nat) (h : Heap) : Prop
 | mk (it : h.IsTupleIter I ax i) (off : ax ∉ X) (vs : List Value) (n : Nat) (e : h.get? ax = some (jx vs n)) (r : RdL c.w X h vs ds)
theorem HX.Ez (x : HX c Y h h') {I l : Addr} {i : Nat} (ha : I ∉ Y) (n : h.IsTupleIter I l i) : h'.IsTupleIter I l i := by
 obtain ⟨o, e, cl, d⟩ := n
 obtain ⟨o', e', cl', _, d'⟩ := x.get ha e
 exact ⟨o', e', cl'.trans cl, d'.trans d⟩
theorem Ah {n : Nat} (e : h.get? a = some (jx vs n)) : h.IsTuple a vs.toArray := ⟨_, e, rfl, _, rfl⟩
theorem yu {pair : Bool} {ax : Addr} (hp : pair = false) : ItS c pair I [I] ds (StT c I ax ds) where
 alive := fun X i h st a ha => by
  obtain ⟨⟨o, e, _⟩, _⟩ := st
  rw [lS ha]
  exact ⟨o, e⟩
 keep := fun X i h h' Y st q hF hy => by
  obtain ⟨h1, h2, vs, n, h3, h4⟩ := st
  exact ⟨q.Ez (fun z => (hy _ z).2 (.head _)) h1, h2, vs, n, q.exact (fun z => h2 (hy _ z).1) (fun z => h2 (hF _ z).1) h3, h4.hx q (fun a z => (hF a z).1) fun y z => (hy y z).1⟩
 wide := fun X X' i h st hy => by
  obtain ⟨h1, h2, vs, n, h3, h4⟩ := st
  exact ⟨h1, fun z => (hy _ z).elim h2 fun e => (by rw [e] at h3; cases h3), vs, n, h3, h4.wide hy⟩
 item := fun A s X i d tg hh ht st hf hF hd => by
  subst hp
  obtain ⟨h1, h2, vs, n, h3, h4⟩ := st
  obtain ⟨v, hv, r⟩ := h4.get _ hd
  obtain ⟨hI, hIb, hIf⟩ := hf I (.head _)
  refine wpAny_pyNext_tuple_item h1 (Ah h3) (x := v) (by simpa using hv) fun h' hit' hs' => ⟨v, rfl, ?_⟩
  have q : HX c [I] s.heap h' := .sameBut hs' hIb hIf
  have hY : ∀ y ∈ [I], y ∈ X := fun y z => lS z ▸ hI
  have st' : StT c I ax ds X (i + 1) h' := ⟨hit', h2, vs, n, q.exact (fun z => h2 (hY _ z)) (fun z => h2 (hF _ z)) h3, h4.hx q hF hY⟩
  obtain ⟨x, p⟩ := jz ht
  exact iC ⟨h', s.toks, q, st', r.hx q hF hY⟩
 done := fun A s X hh st hf => by
  obtain ⟨h1, h2, vs, n, h3, h4⟩ := st
  refine wpAny_pyNext_tuple_end hh h1 (Ah h3) (by simp [h4.length]) fun h' he' => ⟨h', s.toks, ItS.off hf he'⟩
 self := fun A s X i st => wpAny_pyIter_tupleiter st.1 ⟨rfl, rfl⟩
theorem uN (hI : h.objs.size <= I) : ∀ a ∈ [I] ++ X, a ∈ X \/ h.get? a = none := fun a hm => by
 rcases lA hm with z | z
 ·rw [lS z]; exact .inr (ak hI)
 ·exact .inl z
theorem iD {ax : Addr} {o : Obj} (hI : h.objs.size <= I) (ha : ax ∉ X) (e : h.get? ax = some o) : ax ∉ [I] ++ X := fun hm => by
 rcases lA hm with z | z
 ·rw [lS z, ak hI] at e; cases e
 ·exact ha z
theorem iter_tuple (r : Rd c.w X s.heap v (.tuple ds)) (hF : ∀ a ∈ c.fr, a ∈ X) {Q : Value -> Shared -> Prop}
  (k : ∀ I St, ItS c false I [I] ds St -> St ([I] ++ X) 0 (s.heap.push { cls := .type "tuple_iterator", data := .fields #[v, .int 0 0] }) -> I = s.heap.objs.size -> Q (.ref I) { s with heap := s.heap.push { cls := .type "tuple_iterator", data := .fields #[v, .int 0 0] } }) : wpAny c.M A (pyIter v) Q NoE s := by
 have hz := r.cX; clear r; obtain ⟨ax, vs, n, ha, ea, q⟩ := hz
 refine wpAny_pyIter_tuple (Ah ea) (k _ (StT c s.heap.objs.size ax ds) (yu rfl) ⟨⟨_, hP _ rfl, rfl, rfl⟩, iD (Nat.le_refl _) ha ea, vs, n, Heap.get?_push_of_some _ ea, ?_⟩ rfl)
 exact (q.wide (uN (Nat.le_refl _))).hx0 (c := c) (.push _ _) fun a z => lR _ (hF a z)
theorem EvI.iG (h : Ev c l X env Γ e (.tuple ds)) : EvI c l X env Γ false e ds := fun A s L G =>
 h.use L G fun v s1 p1 r1 G1 => iter_tuple r1 G1.bas.frs fun I St it st hI => ⟨p1.trans .fH, I, [I], St, it, st, fun a hm => by
  rw [lS hm, hI]
  exact p1.hx.none_of (fun z => nomatch z) (ak (Nat.le_refl _))⟩
variable {K : Type} [DecidableEq K]
inductive StK (c : Cfg) (dk : bh c.w K) (I d : Addr) (ks : List K) (X : List Addr) (i : Nat) (h : Heap) : Prop
 | mk (vs : List Value) (ep : Nat) (it : h.IsKeyIter I d i (ks.zip vs).length ep) (off : d ∉ X) (at_ : h.DictAt (dk.knd c.prog) d (ks.zip vs) ep) (len : ks.length = vs.length)
theorem Ai {dk : bh c.w K} {d : Addr} {ks : List K} : ItS c false I [I] (ks.map dk.enc) (StK c dk I d ks) where
 alive := fun X i h st a ha => by
  obtain ⟨vs, ep, ⟨o, e, _⟩, _⟩ := st
  rw [lS ha]
  exact ⟨o, e⟩
 keep := fun X i h h' Y st q hF hy => by
  obtain ⟨vs, ep, ⟨o, e, r⟩, h2, ⟨o2, es, e2, r2⟩, h4⟩ := st
  obtain ⟨o', e', cl', _, d'⟩ := q.get (fun z => (hy _ z).2 (.head _)) e
  exact ⟨vs, ep, ⟨o', e', cl'.trans r.1, d'.trans r.2⟩, h2, ⟨o2, es, q.exact (fun z => h2 (hy _ z).1) (fun z => h2 (hF _ z).1) e2, r2⟩, h4⟩
 wide := fun X X' i h st hy => by
  obtain ⟨vs, ep, h1, h2, h3, h4⟩ := st
  obtain ⟨o2, es, e2, r2⟩ := id h3
  exact ⟨vs, ep, h1, fun z => (hy _ z).elim h2 fun e => (by rw [e] at e2; cases e2), h3, h4⟩
 item := fun A s X i k tg hh ht st hf hF hd => by
  obtain ⟨vs, ep, h1, h2, h3, h4⟩ := st
  obtain ⟨k0, hk⟩ := dO hd
  have hi : i < vs.length := by rw [<- h4]; exact (List.getElem?_eq_some_iff.mp hk).1
  have hz : (ks.zip vs)[i]? = some (k0, vs[i]) := List.getElem?_zip_eq_some.mpr ⟨hk, List.getElem?_eq_getElem hi⟩
  obtain ⟨hI, hIb, hIf⟩ := hf I (.head _)
  obtain ⟨x, p⟩ := jz ht
  refine wpAny_pyNext_dict_item h1 h3 hz fun key h' hkey hit' hs' => ⟨key, rfl, iC ⟨h', s.toks, .sameBut hs' hIb hIf, ⟨vs, ep, hit', h2, h3.extBut hs'.extBut fun z => h2 (z ▸ hI), h4⟩, dk.rd c.prog k0 key hkey X h'⟩⟩
 done := fun A s X hh st hf => by
  obtain ⟨vs, ep, h1, h2, h3, h4⟩ := st
  refine wpAny_pyNext_dict_end hh h1 h3 (by simp [h4]) fun h' he' => ⟨h', s.toks, ItS.off hf he'⟩
 self := fun A s X i st => by
  obtain ⟨vs, ep, h1, _⟩ := st
  exact wpAny_pyIter_keyiter h1 ⟨rfl, rfl⟩
theorem yw (dk : bh c.w K) {v : Value} {ks : List K} {ds : List PyData} (hl : ks.length = ds.length) (r : Rd c.w X s.heap v (.dict ((ks.map dk.enc).zip ds))) (hsys : sysModules ∈ X) {Q : Value -> Shared -> Prop}
  (k : ∀ I St o, ItS c false I [I] (ks.map dk.enc) St -> St ([I] ++ X) 0 (s.heap.push o) -> I = s.heap.objs.size -> Q (.ref I) { s with heap := s.heap.push o }) : wpAny c.M A (pyIter v) Q NoE s := by
 obtain ⟨a, vs, ha, hd, q, e⟩ := r.j6 dk hl
 obtain ⟨ep, hd⟩ := hd.dictAt
 have hne : (a == sysModules) = false := by
  have : a ≠ sysModules := fun z => ha (z ▸ hsys)
  simpa using this
 obtain ⟨o2, es, e2, r2⟩ := id hd
 exact wpAny_pyIter_dict hne hd (k _ (StK c dk s.heap.objs.size a ks) _ Ai ⟨vs, ep, ⟨_, hP _ rfl, rfl, rfl⟩, iD (Nat.le_refl _) ha e2, hd.push _, e.symm⟩ rfl)
theorem EvI.ofKeys (dk : bh c.w K) {e : Expr} {ks : List K} {ds : List PyData} (hsys : sysModules ∈ c.fr) (hl : ks.length = ds.length) (h : Ev c l X env Γ e (.dict ((ks.map dk.enc).zip ds))) : EvI c l X env Γ false e (ks.map dk.enc) := fun A s L G =>
 h.use L G fun v s1 p1 r1 G1 => yw dk hl r1 (G1.bas.frs _ hsys) fun I St o it st hI => ⟨p1.trans .fH, I, [I], St, it, st, fun a hm => by
  rw [lS hm, hI]
  exact p1.hx.none_of (fun z => nomatch z) (ak (Nat.le_refl _))⟩
noncomputable def mV (ds : List PyData) : List PyData := ds.zipIdx.map fun p => .tuple [.int (p.2 : Nat), p.1]
theorem yx (h : (mV ds)[i]? = some d) : Iv (fun x => .tuple [.int (i : Nat), x]) ds i d := by
 obtain ⟨p, e⟩ := dO h
 rw [List.getElem?_zipIdx] at e
 obtain ⟨x, hx, rfl⟩ := Option.map_eq_some_iff.mp e
 rw [Nat.zero_add]
 exact ⟨x, hx⟩
theorem yC : (mV ds).length = ds.length := by simp [mV]
inductive StE (c : Cfg) (e it ax : Addr) (ds : List PyData) (X : List Addr) (i : Nat) (h : Heap) : Prop
 | mk (en : ∃ old, IsEnum h e it (i : Nat) old) (li : h.IsListIter it ax i) (off : ax ∉ X) (vs : List Value) (n : Nat) (e' : h.get? ax = some (bH vs n)) (r : RdL c.w X h vs ds)
theorem Aj {n : Nat} (e : h.get? a = some (bH vs n)) : h.IsList a vs.toArray := ⟨_, e, rfl, _, rfl⟩
theorem Ak {e ax : Addr} (hne : e ≠ it) : ItS c true e [e, it] (mV ds) (StE c e it ax ds) where
 alive := fun X i h st a ha => by
  obtain ⟨⟨old, h0⟩, ⟨o, e, _⟩, _⟩ := st
  rcases lC ha with rfl | ha
  ·exact ⟨_, h0⟩
  ·rw [lS ha]
   exact ⟨o, e⟩
 keep := fun X i h h' Y st q hF hy => by
  obtain ⟨⟨old, h0⟩, h1, h2, vs, n, h3, h4⟩ := st
  exact ⟨⟨old, q.exact (fun z => (hy _ z).2 (.head _)) (fun z => (hF _ z).2 (.head _)) h0⟩, q.jA (fun z => (hy _ z).2 (.tail _ (.head _))) h1, h2, vs, n, q.exact (fun z => h2 (hy _ z).1) (fun z => h2 (hF _ z).1) h3, h4.hx q (fun a z => (hF a z).1) fun y z => (hy y z).1⟩
 wide := fun X X' i h st hy => by
  obtain ⟨h0, h1, h2, vs, n, h3, h4⟩ := st
  exact ⟨h0, h1, fun z => (hy _ z).elim h2 fun e => (by rw [e] at h3; cases h3), vs, n, h3, h4.wide hy⟩
 item := fun A s X i d tg hh ht st hf hF hd => by
  obtain ⟨x, hx⟩ := yx hd
  obtain ⟨⟨old, h0⟩, h1, h2, vs, n, h3, h4⟩ := st
  obtain ⟨v, hv, r⟩ := h4.get _ hx
  obtain ⟨es, k, p⟩ := mU ht
  refine wpAny_pyNext_enum_item h0 h1 (Aj h3) (x := v) (by simpa using hv) hne fun h' a1 a2 a3 a4 a5 => ⟨_, rfl, wpAny_letOwnedTupleGo_enum a1 fun h'' b1 b2 => ?_⟩
  have q1 : HX c [e, it] s.heap h' := .of_keep (fun b o hb eb => a5 b o (fun z => hb (z ▸ .head _)) (fun z => hb (z ▸ .tail _ (.head _))) eb) (fun y hy => (hf y hy).2.1) fun y hy => (hf y hy).2.2
  have q2 : HX c [e] h' h'' := .sameBut b2 (hf e (.head _)).2.1 (hf e (.head _)).2.2
  have q : HX c [e, it] s.heap h'' := q1.trans (q2.mono fun y hy => lS hy ▸ .head _)
  have hY : ∀ y ∈ [e, it], y ∈ X := fun y hy => (hf y hy).1
  have hT : s.heap.objs.size ≠ e := Nat.ne_of_gt (Heap.lt_size h0)
  refine ⟨h'', _, q, ⟨⟨_, b1⟩, (show h''.IsListIter it ax (i + 1) from q2.jA (fun z => hne (lS z).symm) a2), h2, vs, n, q.exact (fun z => h2 (hY _ z)) (fun z => h2 (hF _ z)) h3, h4.hx q hF hY⟩, ?_⟩
  exact ⟨s.heap.objs.size, [.int i s.toks, v], _, ⟨_, b2.extBut _ _ hT a3, rfl, _, rfl⟩, .cons (.int _ _) (.cons (r.hx q hF hY) .nil)⟩
 done := fun A s X hh st hf => by
  obtain ⟨⟨old, h0⟩, h1, h2, vs, n, h3, h4⟩ := st
  refine wpAny_pyNext_enum_end hh h0 h1 (Aj h3) (by simp [h4.length, yC]) fun h' he' => ⟨h', s.toks, ?_⟩
  exact .of_keep (fun b o hb e => he' b o (fun z => hb (z ▸ .tail _ (.head _))) e) (fun y hy => (hf y hy).2.1) fun y hy => (hf y hy).2.2
 self := fun A s X i st => by
  obtain ⟨⟨old, h0⟩, _⟩ := st
  exact wpAny_pyIter_enum h0 ⟨rfl, rfl⟩
theorem EvI.IV {f : Str} (hg : Glb c f (.type "enumerate")) (hf : env.kindOf f = some .globalImplicit) (h : Ev c l X env Γ e (.list ds))
  (hd : autoParam ((f == ("__debug__" : Str)) = false) aD) (he : autoParam (starEach [e] env = (false, eval e env) :: starEach [] env) aR) : EvI c l X env Γ true (.Call (.Name f np) [e] [] pos) (mV ds) := fun A s L G => by
 refine wpAny_Call_ofName (wpAny_Name (hg A _ s env _ G.bas.stays G.globals G.builtins G.kind hf ?_) hd)
 have a := EvA.cons (pos := pos) h .nil he A s L G
 show wpAny c.M A (callWith pos (.type "enumerate") [] (backTo pos (starEach [e] env)) []) _ _ s
 rw [he] at a ⊢
 refine callWith_of (P := fun h => c.base.StaysIn h) rfl dJ (evalArgs_plain (wK a (fun vs s1 q => ?_)))
 obtain ⟨p1, q⟩ := q
 have G1 := G.hx0 p1.hx
 refine ⟨G1.bas.stays, ?_⟩
 have hz := q.bO; clear q; obtain ⟨_, r⟩ := hz
 have hz := r.aQ; clear r; obtain ⟨ax, vs, n, ha, ea, q⟩ := hz
 have hfp : ∀ a, a ∈ ([s1.heap.objs.size + 1, s1.heap.objs.size] : List Nat) -> s1.heap.objs.size <= a := fun a hm => by
  rcases lC hm with rfl | z
  ·exact Nat.le_succ _
  ·rw [lS z]; exact Nat.le_refl _
 refine call_enumerate_list (Aj ea) fun h' b1 b2 b3 b4 => ?_
 have q1 : HX c [] s1.heap h' := .cP b4
 refine wpAny_pyIter_enum b1 ⟨p1.trans ⟨h', s1.toks, q1⟩, _, [s1.heap.objs.size + 1, s1.heap.objs.size], StE c _ _ ax ds, Ak (Nat.succ_ne_self _), ⟨⟨_, b1⟩, b2, ?_, vs, n, b4 _ _ ea, ?_⟩, ?_⟩
 ·intro hm
  rcases lA hm with z | z
  ·rw [ak (hfp _ z)] at ea; cases ea
  ·exact ha z
 ·refine (q.wide fun a hm => ?_).hx0 q1 fun a z => lR _ (G1.bas.frs a z)
  rcases lA hm with z | z
  ·exact .inr (ak (hfp _ z))
  ·exact .inl z
 ·intro a hm
  exact p1.hx.none_of (fun z => nomatch z) (ak (hfp _ hm))
end
structure Res (c : Cfg) where
 fp : List Addr
 P : List Addr -> Heap -> Prop
 alive : ∀ X h, P X h -> ∀ a ∈ fp, ∃ o, h.get? a = some o
 keep : ∀ X h h' Y, P X h -> HX c Y h h' -> (∀ a ∈ c.fr, a ∈ X /\ a ∉ fp) -> (∀ y ∈ Y, y ∈ X /\ y ∉ fp) -> P X h'
 wide : ∀ X X' h, P X h -> (∀ a ∈ X', a ∈ X \/ h.get? a = none) -> P X' h
structure Act where
 c : Cfg
 l : Nat
 env : Env
 N : List Addr
 xs : List Str
 X0 : List Addr
 post : PyData -> List (Res c) -> Prop
noncomputable def bL (c : Cfg) (D : Addr) (d : PyData) : Res c where
 fp := [D]
 P := fun X h => bT c X h D d
 alive := fun X h o a ha => lS ha ▸ o.alive
 keep := fun X h h' Y o q hF hy => o.keep q (fun a ha => ⟨(hF a ha).1, fun e => (hF a ha).2 (e ▸ .head _)⟩) fun y h => ⟨(hy y h).1, fun e => (hy y h).2 (e ▸ .head _)⟩
 wide := fun X X' h o hy => o.wide hy
noncomputable def uO {pair : Bool} {fp : List Addr} {St : List Addr -> Nat -> Heap -> Prop} (IT : ItS c pair I fp ds St) (i : Nat) : Res c where
 fp := fp
 P := fun X h => St X i h
 alive := fun X h st => IT.alive X i h st
 keep := fun X h h' Y st q hF hy => IT.keep X i h h' Y st q hF hy
 wide := fun X X' h st hy => IT.wide X X' i h st hy
noncomputable abbrev Ros := List (Str × Addr)
noncomputable abbrev Del (K : Act) := List (Res K.c)
inductive Same (s0 : Shared) : Shared -> Prop
 | mk (h : Heap) (tk : Nat) : Same s0 { s0 with heap := h, toks := tk }
theorem Same.to (x : Same s0 s) : Same s0 { s with heap := h, toks := tk } := by
 obtain ⟨_, _⟩ := x
 exact ⟨_, _⟩
structure Sat (K : Act) (X : List Addr) (Γ : Gam) (R : Ros) (Δ : Del K) (A : Around) (s0 s : Shared) : Prop where
 same : Same s0 s
 hx : HX K.c [] s0.heap s.heap
 sub : ∀ a ∈ K.X0, a ∈ X
 own : ∀ a ∈ K.N, a ∈ X /\ s0.heap.get? a = none
 env : K.env.locals ∈ K.N /\ ∀ x a, K.env.cells.lookup x = some a -> a ∈ K.N
 good : Good K.c A X K.env Γ s.heap
 tg : TG K.env K.N K.xs s.heap
 names : ∀ p ∈ R, Has K.env s.heap p.1 (.ref p.2)
 res : ∀ r ∈ Δ, r.P X s.heap
 fps : ∀ r ∈ Δ, ∀ a ∈ r.fp, a ∈ X /\ s0.heap.get? a = none /\ a ∉ K.N /\ a ∉ K.c.fr
 apart : Δ.Pairwise fun r r' => ∀ a ∈ r.fp, a ∉ r'.fp
 base : ∀ a, s0.heap.get? a = none -> K.c.base.get? a = none
 lev : Lev K.l A
section
variable {K : Act} {R R' : Ros} {Δ Δ' : Del K} 
namespace Sat
theorem weak (S : Sat K X Γ R Δ A s0 s) (hg : ∀ p ∈ Γ', p ∈ Γ) (hr : ∀ p ∈ R', p ∈ R) (hd : List.Sublist Δ' Δ) : Sat K X Γ' R' Δ' A s0 s :=
 { S with good := S.good.sub hg, names := fun p hp => S.names p (hr p hp), res := fun r h => S.res r (hd.subset h), fps := fun r h => S.fps r (hd.subset h), apart := S.apart.sublist hd }
theorem pst (S : Sat K X Γ R Δ A s0 s) (p : Pst K.c s s') : Sat K X Γ R Δ A s0 s' := by
 obtain ⟨h2, t2, q⟩ := p
 exact
 {same := S.same.to
  hx := S.hx.trans q
  sub := S.sub
  own := S.own
  env := S.env
  good := S.good.hx0 q
  tg := S.tg.hx q (fun z => nomatch z) fun _ _ z => nomatch z
  names := fun p hp => (S.names p hp).hx0 q
  res := fun r hr => r.keep _ _ _ [] (S.res r hr) q (fun a ha => ⟨S.good.bas.frs a ha, fun z => (S.fps r hr a z).2.2.2 ha⟩) fun y hy => nomatch hy
  fps := S.fps
  apart := S.apart
  base := S.base
  lev := S.lev }
theorem store (S : Sat K X Γ R Δ A s0 s) {x : Str} {t : Addr} {h' : Heap} {tk : Nat} (ht : t ∈ K.N) (q : HX K.c [t] s.heap h') (kp : Kp K.env s.heap h') (kh : ∀ y u, y ≠ x -> Has K.env s.heap y u -> Has K.env h' y u) (G' : Good K.c A X K.env Γ' h') (hR : ∀ p ∈ R, p.1 ≠ x) : Sat K X Γ' R Δ A s0 { s with heap := h', toks := tk } := by
 exact
 {same := S.same.to
  hx := S.hx.young q fun a ha => (by rw [lS ha]; exact (S.own t ht).2)
  sub := S.sub
  own := S.own
  env := S.env
  good := G'
  tg := S.tg.mono kp
  names := fun p hp => kh p.1 _ (hR p hp) (S.names p hp)
  res := fun r hr => r.keep _ _ _ [t] (S.res r hr) q (fun a ha => ⟨S.good.bas.frs a ha, fun z => (S.fps r hr a z).2.2.2 ha⟩) fun y hy => (by rw [lS hy]; exact ⟨(S.own t ht).1, fun z => (S.fps r hr t z).2.2.1 ht⟩)
  fps := S.fps
  apart := S.apart
  base := S.base
  lev := S.lev }
theorem grow (S : Sat K X Γ R Δ A s0 s) {X' : List Addr} (hs : ∀ a ∈ X', a ∈ X \/ s.heap.get? a = none) (hX : ∀ a ∈ X, a ∈ X') {h' : Heap} {tk : Nat} (q : HX K.c [] s.heap h') (hA : ∀ a ∈ X', ∃ o, h'.get? a = some o) : Sat K X' Γ R Δ A s0 { s with heap := h', toks := tk } := by
 exact
 {same := S.same.to
  hx := S.hx.trans q
  sub := fun a ha => hX a (S.sub a ha)
  own := fun a ha => ⟨hX a (S.own a ha).1, (S.own a ha).2⟩
  env := S.env
  good := S.good.grow q hs hX hA
  tg := S.tg.hx q (fun z => nomatch z) fun _ _ z => nomatch z
  names := fun p hp => (S.names p hp).hx0 q
  res := fun r hr => r.keep _ _ _ [] (r.wide _ _ _ (S.res r hr) hs) q (fun a ha => ⟨hX a (S.good.bas.frs a ha), fun z => (S.fps r hr a z).2.2.2 ha⟩) fun y hy => nomatch hy
  fps := fun r hr a ha => ⟨hX a (S.fps r hr a ha).1, (S.fps r hr a ha).2⟩
  apart := S.apart
  base := S.base
  lev := S.lev }
theorem shrink (S : Sat K X Γ R Δ A s0 s) {X' : List Addr} (hX : ∀ a ∈ X', a ∈ X) (h0 : ∀ a ∈ K.X0, a ∈ X') (hN : ∀ a ∈ K.N, a ∈ X') (hF : ∀ a ∈ K.c.fr, a ∈ X') (hr : ∀ r ∈ Δ, ∀ a ∈ r.fp, a ∈ X') : Sat K X' Γ R Δ A s0 s :=
 { S with
  sub := h0
  own := fun a ha => ⟨hN a ha, (S.own a ha).2⟩
  good := { S.good with
   bas := { S.good.bas with alloc := fun a ha => S.good.bas.alloc a (hX a ha), frs := hF }
   vars := fun p hp => let ⟨v, H, r⟩ := S.good.vars p hp; ⟨v, H, r.sub hX⟩ }
  res := fun r h => r.wide _ _ _ (S.res r h) fun a ha => .inl (hX a ha)
  fps := fun r h a ha => ⟨hr r h a ha, (S.fps r h a ha).2⟩ }
theorem add (S : Sat K X Γ R Δ A s0 s) (r : Res K.c) (h1 : r.P X s.heap) (h2 : ∀ a ∈ r.fp, a ∈ X /\ s0.heap.get? a = none /\ a ∉ K.N /\ a ∉ K.c.fr) (h3 : ∀ r' ∈ Δ, ∀ a ∈ r.fp, a ∉ r'.fp) : Sat K X Γ R (r :: Δ) A s0 s :=
 { S with
  res := fun r' hr => (lC hr).elim (fun e => e ▸ h1) (S.res r')
  fps := fun r' hr => (lC hr).elim (fun e => e ▸ h2) (S.fps r')
  apart := .cons h3 S.apart }
theorem change {r r' : Res K.c} (S : Sat K X Γ R (r :: Δ) A s0 s) {h' : Heap} {tk : Nat} (he : r'.fp = r.fp) (q : HX K.c r.fp s.heap h') (h1 : r'.P X h') : Sat K X Γ R (r' :: Δ) A s0 { s with heap := h', toks := tk } := by
 have hf := S.fps r (.head _)
 have hloc : K.env.locals ∉ r.fp := fun z => (hf _ z).2.2.1 S.env.1
 have hcel : ∀ x a, K.env.cells.lookup x = some a -> a ∉ r.fp := fun x a e z => (hf _ z).2.2.1 (S.env.2 x a e)
 exact
 {same := S.same.to
  hx := S.hx.young q fun a ha => (hf a ha).2.1
  sub := S.sub
  own := S.own
  env := S.env
  good := S.good.mut q (fun y hy => (hf y hy).1) hloc hcel (fun a ha => ha) (fun a ha hr => r'.alive _ _ h1 a (he ▸ hr)) S.good.bas.frs
  tg := S.tg.hx q hloc fun t ht z => (hf t z).2.2.1 ht
  names := fun p hp => (by
   cases S.names p hp with
   | loc k n e => exact .loc k (q.ns hloc n) e
   | cell k l i => exact .cell k l (q.cell (hcel _ _ l) i)
   | free k l i d => exact .free k l (q.cell (hcel _ _ l) i) d)
  res := fun r2 hr => (lC hr).elim (fun e => e ▸ h1) fun hr => r2.keep _ _ _ _ (S.res r2 (.tail _ hr)) q (fun a ha => ⟨S.good.bas.frs a ha, fun z => (S.fps r2 (.tail _ hr) a z).2.2.2 ha⟩) fun y hy => ⟨(hf y hy).1, (List.pairwise_cons.mp S.apart).1 r2 hr y hy⟩
  fps := fun r2 hr => (lC hr).elim (fun e => e ▸ (fun a ha => hf a (he ▸ ha))) fun hr => S.fps r2 (.tail _ hr)
  apart := .cons (fun r2 hr a ha => (List.pairwise_cons.mp S.apart).1 r2 hr a (he ▸ ha)) (List.pairwise_cons.mp S.apart).2
  base := S.base
  lev := S.lev }
end Sat
end
variable {K : Act} {R R' : Ros} {Inv : Gam -> Ros -> Del K -> Prop} {InvN : Nat -> Gam -> Ros -> Del K -> Prop} {r : Res K.c} {Δ Δ' Δ1 : Del K}
theorem bU : ∀ p ∈ ([] : Gam), p ∈ Γ := fun _ h => nomatch h
theorem au {a : Str × PyData} (h : a ∈ Γ) (t : ∀ p ∈ Γ', p ∈ Γ) : ∀ p ∈ a :: Γ', p ∈ Γ := fun _ hp => (lC hp).elim (fun e => e ▸ h) (t _)
inductive Out (K : Act) where
 | next (Γ : Gam) (R : Ros) (Δ : Del K)
 | brk (Γ : Gam) (R : Ros) (Δ : Del K)
 | cont (Γ : Gam) (R : Ros) (Δ : Del K)
 | ret (d : PyData)
inductive EY (K : Act) (A : Around) (s0 : Shared) (O : Gam -> Ros -> Del K -> Prop) (s' : Shared) : Prop
 | mk (X : List Addr) (Γ : Gam) (R : Ros) (Δ : Del K) (h : O Γ R Δ) (S : Sat K X Γ R Δ A s0 s') : EY K A s0 O s'
noncomputable def Post (K : Act) (A : Around) (s0 : Shared) (O : Out K -> Prop) : Flow -> Shared -> Prop
 | .next, s' => EY K A s0 (fun Γ R Δ => O (.next Γ R Δ)) s'
 | .brk, s' => EY K A s0 (fun Γ R Δ => O (.brk Γ R Δ)) s'
 | .cont, s' => EY K A s0 (fun Γ R Δ => O (.cont Γ R Δ)) s'
 | .ret v, s' => ∃ d, O (.ret d) /\ (∃ X Δ, Sat K X [] [] Δ A s0 s' /\ K.post d Δ) /\ Rd K.c.w K.X0 s'.heap v d
noncomputable abbrev Err := Value -> Shared -> Prop
noncomputable def Ex (K : Act) (A : Around) (s0 : Shared) (E : Err) (Γ : Gam) (R : Ros) (Δ : Del K) (ss : List Stmt) (O : Out K -> Prop) : Prop :=
 ∀ s X, Sat K X Γ R Δ A s0 s -> wpAny K.c.M A (execs ss K.env) (Post K A s0 O) E s
noncomputable def EvS (K : Act) (A : Around) (s0 : Shared) (E : Err) (Γ : Gam) (R : Ros) (Δ : Del K) (e : Expr) (d : PyData) : Prop :=
 ∀ s X, Sat K X Γ R Δ A s0 s -> wpAny K.c.M A (eval e K.env) (fun v s' => Sat K X Γ R Δ A s0 s' /\ Rd K.c.w X s'.heap v d) E s
noncomputable def EtS (K : Act) (A : Around) (s0 : Shared) (E : Err) (Γ : Gam) (R : Ros) (Δ : Del K) (e : Expr) (b : Bool) : Prop :=
 ∀ s X, Sat K X Γ R Δ A s0 s -> wpAny K.c.M A (isTrue e K.env (eval e K.env)) (fun r s' => r = b /\ Sat K X Γ R Δ A s0 s') E s
section
variable {E : Err} {O O' : Out K -> Prop} 
theorem EvS.of (h : ∀ X, Ev K.c K.l X K.env Γ e d) : EvS K A s0 E Γ R Δ e d := fun s X S =>
 (h X).use S.lev S.good fun v s' p r _ => ⟨S.pst p, r⟩
theorem EtS.of (h : ∀ X, Et K.c K.l X K.env Γ e b) : EtS K A s0 E Γ R Δ e b := fun s X S =>
 bk (wK (h X A s S.lev S.good) (fun r s' q => ⟨q.1, S.pst q.2⟩))
theorem EvS.go (h : EvS K A s0 E Γ R Δ e d) (S : Sat K X Γ R Δ A s0 s) {Q : Value -> Shared -> Prop} (k : ∀ v s', Sat K X Γ R Δ A s0 s' -> Rd K.c.w X s'.heap v d -> Q v s') : wpAny K.c.M A (eval e K.env) Q E s := wK (h s X S) (fun v s' q => k v s' q.1 q.2)
theorem EtS.go (h : EtS K A s0 E Γ R Δ e b) (S : Sat K X Γ R Δ A s0 s) {Q : Bool -> Shared -> Prop} (k : ∀ s', Sat K X Γ R Δ A s0 s' -> Q b s') : wpAny K.c.M A (isTrue e K.env (eval e K.env)) Q E s := wK (h s X S) (fun r s' q => q.1 ▸ k s' q.2)
theorem P2.at {v1 v2 : Value} (h : P2 K.c t d1 d2 d) (S : Sat K X Γ R Δ A s0 s) (r1 : Rd K.c.w X s.heap v1 d1) (r2 : Rd K.c.w X s.heap v2 d2) {Q : Value -> Shared -> Prop} (k : ∀ v s', Sat K X Γ R Δ A s0 s' -> Rd K.c.w X s'.heap v d -> Q v s') : wpAny K.c.M A (t v1 v2) Q E s :=
 wM (h K.l A X s v1 v2 S.lev S.good.bas r1 r2) (fun v s' q => k v s' (S.pst q.1) q.2) fun _ _ f => f.elim
theorem without : ∀ a ∈ X.filter (· ≠ D), a ∈ X := fun a ha => (List.mem_filter.mp ha).1
theorem dW : D ∉ X.filter (· ≠ D) := fun z => by simpa using (List.mem_filter.mp z).2
theorem bQ (h : a ∈ X) (hn : a ≠ D) : a ∈ X.filter (· ≠ D) := List.mem_filter.mpr ⟨h, by simpa using hn⟩
theorem Sat.freeze {x : Str} (S : Sat K X Γ ((x, D) :: R) (bL K.c D d :: Δ) A s0 s) (h0 : s0.heap.get? D = none -> D ∉ K.X0) : Sat K (X.filter (· ≠ D)) ((x, d) :: Γ) R Δ A s0 s := by
 have fq := S.fps _ (.head _) D (.head _)
 have S1 : Sat K X Γ R Δ A s0 s := S.weak (fun _ h => h) (fun _ h => .tail _ h) (List.sublist_cons_self ..)
 have S2 : Sat K (X.filter (· ≠ D)) Γ R Δ A s0 s := S1.shrink without (fun a ha => bQ (S.sub a ha) fun e => h0 fq.2.1 (e ▸ ha)) (fun a ha => bQ (S.own a ha).1 fun e => fq.2.2.1 (e ▸ ha)) (fun a ha => bQ (S.good.bas.frs a ha) fun e => fq.2.2.2 (e ▸ ha))
  fun r hr a ha => bQ (S1.fps r hr a ha).1 fun e => (List.pairwise_cons.mp S.apart).1 r hr D (.head _) (e ▸ ha)
 exact { S2 with good := { S2.good with vars := fun p hp => (lC hp).elim (fun e => ⟨.ref D, by rw [e]; exact S.names _ (.head _), by rw [e]; exact (S.res _ (.head _)).rd dW without⟩) (S2.good.vars p) } }
theorem Sat.x0 (S : Sat K X Γ R Δ A s0 s) (hx : ∀ a ∈ K.X0, ∃ o, s0.heap.get? a = some o) {D : Addr} : s0.heap.get? D = none -> D ∉ K.X0 := fun e z => by
 obtain ⟨o, e'⟩ := hx D z
 rw [e] at e'; cases e'
noncomputable abbrev dg (K : Act) (s0 : Shared) : Prop := ∀ a ∈ K.X0, ∃ o, s0.heap.get? a = some o
theorem Ex.freeze {x : Str} (hx : dg K s0) (h : Ex K A s0 E ((x, d) :: Γ) R Δ ss O) : Ex K A s0 E Γ ((x, D) :: R) (bL K.c D d :: Δ) ss O := fun s X S => h s _ (S.freeze (S.x0 hx))
theorem Ex.weak (hg : ∀ p ∈ Γ', p ∈ Γ) (hr : ∀ p ∈ R', p ∈ R) (hd : List.Sublist Δ' Δ) (h : Ex K A s0 E Γ' R' Δ' ss O) : Ex K A s0 E Γ R Δ ss O := fun s X S => h s X (S.weak hg hr hd)
theorem Ex.wkG (hg : ∀ p ∈ Γ', p ∈ Γ) (h : Ex K A s0 E Γ' R Δ ss O) : Ex K A s0 E Γ R Δ ss O := .weak hg (fun _ h => h) (List.Sublist.refl _) h
theorem Ex.nil (h : O (.next Γ R Δ)) : Ex K A s0 E Γ R Δ [] O := fun s X S => wpAny_execs_nil ⟨X, Γ, R, Δ, h, S⟩
noncomputable def Ex1 (K : Act) (A : Around) (s0 : Shared) (E : Err) (Γ : Gam) (R : Ros) (Δ : Del K) (st : Stmt) (O : Out K -> Prop) : Prop :=
 ∀ s X, Sat K X Γ R Δ A s0 s -> wpAny K.c.M A (exec st K.env) (Post K A s0 O) E s
theorem Ex.cons {st : Stmt} (O1 : Out K -> Prop) (h : Ex1 K A s0 E Γ R Δ st O1) (hn : ∀ Γ R Δ, O1 (.next Γ R Δ) -> Ex K A s0 E Γ R Δ ss O) (hb : ∀ Γ R Δ, O1 (.brk Γ R Δ) -> O (.brk Γ R Δ)) (hc : ∀ Γ R Δ, O1 (.cont Γ R Δ) -> O (.cont Γ R Δ)) (hr : ∀ d, O1 (.ret d) -> O (.ret d)) : Ex K A s0 E Γ R Δ (st :: ss) O := fun s X S =>
 wpAny_execs_cons (wK (h s X S) (fun f s' hp => by
  cases f with
  | next => obtain ⟨X, Γ, R, Δ, o, S'⟩ := hp; exact hn _ _ _ o s' X S'
  | brk => obtain ⟨X, Γ, R, Δ, o, S'⟩ := hp; exact ⟨X, Γ, R, Δ, hb _ _ _ o, S'⟩
  | cont => obtain ⟨X, Γ, R, Δ, o, S'⟩ := hp; exact ⟨X, Γ, R, Δ, hc _ _ _ o, S'⟩
  | ret v => obtain ⟨d, o, S'⟩ := hp; exact ⟨d, hr _ o, S'⟩))
theorem Post.mono {O' : Out K -> Prop} (h : ∀ o, O' o -> O o) {f : Flow} {s' : Shared} (hp : Post K A s0 O' f s') : Post K A s0 O f s' := by
 cases f with
 | next => obtain ⟨X, Γ, R, Δ, o, S'⟩ := hp; exact ⟨X, Γ, R, Δ, h _ o, S'⟩
 | brk => obtain ⟨X, Γ, R, Δ, o, S'⟩ := hp; exact ⟨X, Γ, R, Δ, h _ o, S'⟩
 | cont => obtain ⟨X, Γ, R, Δ, o, S'⟩ := hp; exact ⟨X, Γ, R, Δ, h _ o, S'⟩
 | ret v => obtain ⟨d, o, S'⟩ := hp; exact ⟨d, h _ o, S'⟩
noncomputable abbrev bY (Γ : Gam) (R : Ros) (Δ : Del K) : Out K -> Prop := fun o => o = .next Γ R Δ
theorem Ex.weaken (h : Ex K A s0 E Γ R Δ ss O') (ho : ∀ o, O' o -> O o) : Ex K A s0 E Γ R Δ ss O := fun s X S =>
 wK (h s X S) (fun _ _ hp => hp.mono ho)
theorem Ex.seq {st : Stmt} {R1 : Ros} (h : Ex1 K A s0 E Γ R Δ st (bY Γ1 R1 Δ1)) (hn : Ex K A s0 E Γ1 R1 Δ1 ss O) : Ex K A s0 E Γ R Δ (st :: ss) O :=
 .cons _ h (fun _ _ _ e => by cases e; exact hn) (fun _ _ _ e => nomatch e) (fun _ _ _ e => nomatch e) fun _ e => nomatch e
theorem Sat.assign {x : Str} {Q : Unit -> Shared -> Prop} (S : Sat K X Γ R Δ A s0 s) (hx : x ∈ K.xs) (hR : ∀ p ∈ R, p.1 ≠ x) (r : Rd K.c.w X s.heap v d)
  (k : ∀ s', Sat K X ((x, d) :: Γ.filter fun p => p.1 != x) R Δ A s0 s' -> Q () s') : wpAny K.c.M A (storeName K.env x v) Q E s := by
 obtain ⟨t, ht, T⟩ := S.tg.2 x hx
 exact rQ S.good T (S.own t ht).1 (S.base t (S.own t ht).2) r fun h' tk q _ _ kp kh G' => k _ (S.store ht q kp kh G' hR)
theorem Ex1.assign {x : Str} (h : EvS K A s0 E Γ R Δ e d) (hx : x ∈ K.xs) (hR : ∀ p ∈ R, p.1 ≠ x) (hs : autoParam (swapsWith e (some (.Name x px)) pos.line K.env = pure false) aR) :
  Ex1 K A s0 E Γ R Δ (.Assign [.Name x px] e pos) (bY ((x, d) :: Γ.filter fun p => p.1 != x) R Δ) := fun s X S =>
 wpAny_Assign_Name (h.go S fun v s' S1 r => S1.assign hx hR r fun s' S' => ⟨X, _, _, _, rfl, S'⟩) hs
noncomputable abbrev uP (K : Act) (d : PyData) (Δ : Del K) : Prop := ∃ Δ', List.Sublist Δ' Δ /\ K.post d Δ'
theorem Ex1.ret (h : EvS K A s0 E Γ R Δ e d) (hp : autoParam (uP K d Δ) aG) : Ex1 K A s0 E Γ R Δ (.Return (some e) pos) (fun o => o = .ret d) := fun s X S =>
 wpAny_Return_some (wK (h s X S) (fun v s' q => let ⟨Δ', h1, h2⟩ := hp; ⟨d, rfl, ⟨X, Δ', q.1.weak (fun _ z => nomatch z) (fun _ z => nomatch z) h1, h2⟩, q.2.sub q.1.sub⟩))
theorem Ex.ret (h : EvS K A s0 E Γ R Δ e d) (ho : O (.ret d)) (hp : autoParam (uP K d Δ) aG) : Ex K A s0 E Γ R Δ (.Return (some e) pos :: ss) O :=
 .cons _ (.ret h hp) (fun _ _ _ e => nomatch e) (fun _ _ _ e => nomatch e) (fun _ _ _ e => nomatch e) fun d' e => by cases e; exact ho
theorem Ex1.ite (ht : EtS K A s0 E Γ R Δ test b) (h1 : b = true -> Ex K A s0 E Γ R Δ body O) (h2 : b = false -> Ex K A s0 E Γ R Δ orelse O) : Ex1 K A s0 E Γ R Δ (.If test body orelse pos) O := fun s X S =>
 wpAny_If (ht.go S fun s' S' => by
  cases b with
  | true => exact h1 rfl s' X S'
  | false => exact h2 rfl s' X S')
theorem Ex.brk (h : O (.brk Γ R Δ)) : Ex K A s0 E Γ R Δ (.Break pos :: ss) O := fun s X S => wpAny_execs_cons (fun _ _ _ => ⟨X, Γ, R, Δ, h, S⟩)
theorem Ex.cont (h : O (.cont Γ R Δ)) : Ex K A s0 E Γ R Δ (.Continue pos :: ss) O := fun s X S => wpAny_execs_cons (fun _ _ _ => ⟨X, Γ, R, Δ, h, S⟩)
end
section
variable {O : Out K -> Prop} {n : Nat} {o : Out K}
noncomputable def Ks.out (r : Res K.c) (Inv : Gam -> Ros -> Del K -> Prop) (O : Out K -> Prop) : Out K -> Prop
 | .next Γ R Δ => ∃ Δ', Δ = r :: Δ' /\ Inv Γ R Δ'
 | .cont Γ R Δ => ∃ Δ', Δ = r :: Δ' /\ Inv Γ R Δ'
 | .brk Γ R Δ => ∃ Δ', Δ = r :: Δ' /\ O (.next Γ R Δ')
 | .ret d => O (.ret d)
theorem turnF (h : (∃ Γ' R' Δ', (o = .next Γ' R' (r :: Δ') \/ o = .cont Γ' R' (r :: Δ')) /\ Inv Γ' R' Δ') \/ (∃ Γ' R' Δ', o = .brk Γ' R' (r :: Δ') /\ O (.next Γ' R' Δ')) \/ ∃ d, o = .ret d /\ O (.ret d)) : Ks.out r Inv O o := by
 rcases h with ⟨_, _, Δ', rfl | rfl, h⟩ | ⟨_, _, Δ', rfl, h⟩ | ⟨_, rfl, h⟩
 ·exact ⟨Δ', rfl, h⟩
 ·exact ⟨Δ', rfl, h⟩
 ·exact ⟨Δ', rfl, h⟩
 ·exact h
noncomputable def Ku.out (Inv : Nat -> Gam -> Ros -> Del K -> Prop) (O : Out K -> Prop) (n : Nat) : Out K -> Prop
 | .next Γ R Δ => ∃ m, m < n /\ Inv m Γ R Δ
 | .cont Γ R Δ => ∃ m, m < n /\ Inv m Γ R Δ
 | .brk Γ R Δ => O (.next Γ R Δ)
 | .ret d => O (.ret d)
theorem wg (h : (∃ m Γ' R' Δ', m < n /\ (o = .next Γ' R' Δ' \/ o = .cont Γ' R' Δ') /\ InvN m Γ' R' Δ') \/ (∃ Γ' R' Δ', o = .brk Γ' R' Δ' /\ O (.next Γ' R' Δ')) \/ ∃ d, o = .ret d /\ O (.ret d)) : Ku.out InvN O n o := by
 rcases h with ⟨m, _, _, _, hm, rfl | rfl, h⟩ | ⟨_, _, _, rfl, h⟩ | ⟨_, rfl, h⟩
 ·exact ⟨m, hm, h⟩
 ·exact ⟨m, hm, h⟩
 ·exact h
 ·exact h
end
variable {O O' : Out K -> Prop}
section
variable {E : Err} 
theorem Sat.off (S : Sat K X Γ R Δ A s0 s) {D : Addr} (h : s.heap.get? D = none) : D ∉ X /\ s0.heap.get? D = none /\ D ∉ K.N /\ D ∉ K.c.fr /\ ∀ r ∈ Δ, D ∉ r.fp := by
 have hX : D ∉ X := fun z => by
  obtain ⟨o, e⟩ := S.good.bas.alloc D z
  rw [h] at e; cases e
 exact ⟨hX, S.hx.none_of (fun z => nomatch z) h, fun z => hX (S.own D z).1, fun z => hX (S.good.bas.frs D z), fun r hr z => hX (S.fps r hr D z).1⟩
theorem Sat.take (S : Sat K X Γ R Δ A s0 s) {s' : Shared} (p : Pst K.c s s') {D : Addr} {d : PyData} (hD : s.heap.get? D = none) (o : bT K.c (D :: X) s'.heap D d) : Sat K (D :: X) Γ R (bL K.c D d :: Δ) A s0 s' := by
 have fq := S.off hD
 obtain ⟨h', tk, q⟩ := p
 have S' : Sat K (D :: X) Γ R Δ A s0 { s with heap := h', toks := tk } := S.grow (fun a ha => (lC ha).elim (fun e => .inr (e ▸ hD)) .inl) (fun a ha => .tail _ ha) q fun a ha => (lC ha).elim (fun e => e ▸ o.alive) fun z => q.alive (fun z => nomatch z) (S.good.bas.alloc a z)
 exact S'.add (bL K.c D d) o (fun a ha => by rw [lS ha]; exact ⟨.head _, fq.2.1, fq.2.2.1, fq.2.2.2.1⟩) fun r hr a ha => by rw [lS ha]; exact fq.2.2.2.2 r hr
theorem Sat.qJ {x : Str} {Q : Unit -> Shared -> Prop} (S : Sat K X Γ R Δ A s0 s) (hx : x ∈ K.xs)
  (k : ∀ h' tk t, t ∈ K.N -> HX K.c [t] s.heap h' -> Sat K X (Γ.filter fun p => p.1 != x) ((x, D) :: R.filter fun p => p.1 != x) Δ A s0 { s with heap := h', toks := tk } -> Q () { s with heap := h', toks := tk }) : wpAny K.c.M A (storeName K.env x (.ref D)) Q E s := by
 obtain ⟨t, ht, T⟩ := S.tg.2 x hx
 refine pD S.good T (S.own t ht).1 (S.base t (S.own t ht).2) fun h' tk q _ _ kp kh H G' => k h' tk t ht q ?_
 have S1 : Sat K X Γ (R.filter fun p => p.1 != x) Δ A s0 s := S.weak (fun _ h => h) (fun p hp => (List.mem_filter.mp hp).1) (List.Sublist.refl _)
 have S2 := S1.store (tk := tk) ht q kp kh G' fun p hp => by simpa using (List.mem_filter.mp hp).2
 exact { S2 with names := fun p hp => (lC hp).elim (fun e => e ▸ H) (S2.names p) }
theorem Ex.Fb {x : Str} (h : ∀ X, EvF K.c K.l X K.env Γ e d) (hx : x ∈ K.xs)
  (k : ∀ D, Ex K A s0 E (Γ.filter fun p => p.1 != x) ((x, D) :: R.filter fun p => p.1 != x) (bL K.c D d :: Δ) ss O) (hs : autoParam (swapsWith e (some (.Name x px)) pos.line K.env = pure false) aR) :
  Ex K A s0 E Γ R Δ (.Assign [.Name x px] e pos :: ss) O := fun s X S =>
 wpAny_execs_cons (wpAny_Assign_Name (bk (wK (h X A s S.lev S.good) (fun v s' q => by
  obtain ⟨p, D, hD, o⟩ := q
  exact (S.take p hD o).qJ hx fun h' tk t _ _ S' => k D _ _ S'))) hs)
theorem Sat.gone (S : Sat K X Γ R Δ A s0 s) {Y : List Addr} {h' : Heap} {tk : Nat} (hY : ∀ y ∈ Y, y ∈ X /\ s0.heap.get? y = none /\ y ∉ K.X0 /\ y ∉ K.N /\ y ∉ K.c.fr /\ ∀ r ∈ Δ, y ∉ r.fp) (q : HX K.c Y s.heap h') : Sat K (X.filter (· ∉ Y)) Γ R Δ A s0 { s with heap := h', toks := tk } := by
 have hloc : K.env.locals ∉ Y := fun z => (hY _ z).2.2.2.1 S.env.1
 have hcel : ∀ x a, K.env.cells.lookup x = some a -> a ∉ Y := fun x a e z => (hY _ z).2.2.2.1 (S.env.2 x a e)
 have wo : ∀ a ∈ X.filter (· ∉ Y), a ∈ X := fun a ha => (List.mem_filter.mp ha).1
 have nw : ∀ a ∈ X.filter (· ∉ Y), a ∉ Y := fun a ha => by simpa using (List.mem_filter.mp ha).2
 have iw : ∀ a, a ∈ X -> a ∉ Y -> a ∈ X.filter (· ∉ Y) := fun a ha hn => List.mem_filter.mpr ⟨ha, by simpa using hn⟩
 have hF : ∀ a ∈ K.c.fr, a ∈ X.filter (· ∉ Y) := fun a ha => iw a (S.good.bas.frs a ha) fun e => (hY a e).2.2.2.2.1 ha
 exact
 {same := S.same.to
  hx := S.hx.young q fun a ha => (hY a ha).2.1
  sub := fun a ha => iw a (S.sub a ha) fun e => (hY a e).2.2.1 ha
  own := fun a ha => ⟨iw a (S.own a ha).1 fun e => (hY a e).2.2.2.1 ha, (S.own a ha).2⟩
  env := S.env
  good := S.good.mut q (fun y hy => (hY y hy).1) hloc hcel wo (fun a ha hc => absurd hc (nw a ha)) hF
  tg := S.tg.hx q hloc fun t ht z => (hY t z).2.2.2.1 ht
  names := fun p hp => (by
   cases S.names p hp with
   | loc k n e => exact .loc k (q.ns hloc n) e
   | cell k l i => exact .cell k l (q.cell (hcel _ _ l) i)
   | free k l i d => exact .free k l (q.cell (hcel _ _ l) i) d)
  res := fun r h => r.wide _ _ _ (r.keep _ _ _ Y (S.res r h) q (fun a ha => ⟨S.good.bas.frs a ha, fun z => (S.fps r h a z).2.2.2 ha⟩) fun y hy => ⟨(hY y hy).1, (hY y hy).2.2.2.2.2 r h⟩) fun a ha => .inl (wo a ha)
  fps := fun r h a ha => ⟨iw a (S.fps r h a ha).1 fun e => (hY a e).2.2.2.2.2 r h ha, (S.fps r h a ha).2⟩
  apart := S.apart
  base := S.base
  lev := S.lev }
theorem Sat.drop (S : Sat K X Γ R (r :: Δ) A s0 s) (hx0 : dg K s0) {h' : Heap} {tk : Nat} (q : HX K.c r.fp s.heap h') : Sat K (X.filter (· ∉ r.fp)) Γ R Δ A s0 { s with heap := h', toks := tk } := by
 have S1 : Sat K X Γ R Δ A s0 s := S.weak (fun _ h => h) (fun _ h => h) (List.sublist_cons_self ..)
 exact S1.gone (fun y hy => by
  have fq := S.fps r (.head _) y hy
  exact ⟨fq.1, fq.2.1, S.x0 hx0 fq.2.1, fq.2.2.1, fq.2.2.2, fun r' hr => (List.pairwise_cons.mp S.apart).1 r' hr y hy⟩) q
theorem Ex.wj {x : Str} (h : ∀ X, EvC K.c K.l X K.env Γ e d) (hx : x ∈ K.xs) (hx0 : dg K s0)
  (k : ∀ D, Ex K A s0 E (Γ.filter fun p => p.1 != x) ((x, D) :: R.filter fun p => p.1 != x) (bL K.c D d :: Δ) ss O) (hs : autoParam (swapsWith e (some (.Name x px)) pos.line K.env = pure true) aR) :
  Ex K A s0 E Γ R Δ (.Assign [.Name x px] e pos :: ss) O := fun s X S => by
 refine wpAny_execs_cons ?_
 rw [exec_Assign_Name_used _ _ _ _ hs]
 refine wB (wpAny_standAt (wB ?_))
 rw [((h X).1 _).2]
 refine wB (bk (wK ((h X).2 A s (some (assign (.Name x px) K.env)) (fun _ s' => wpAny K.c.M A (execs ss K.env) (Post K A s0 O) E s') S.lev S.good fun s5 D XL C p hX hD hC hDX hCX hCD hF o hm => ?_) (fun _ _ q => wP (wP q))))
 ·obtain ⟨m, hm⟩ := hm
  have fq := S.off hD
  have gq := S.off hC
  obtain ⟨h5, tk5, q5⟩ := p
  have S5 : Sat K (C :: D :: X) Γ R Δ A s0 { s with heap := h5, toks := tk5 } := by
   refine S.grow (fun a ha => ?_) (fun a ha => .tail _ (.tail _ ha)) q5 fun a ha => ?_
   ·rcases lC ha with rfl | ha
    ·exact .inr hC
    ·exact (lC ha).elim (fun e => .inr (e ▸ hD)) .inl
   ·rcases lC ha with rfl | ha
    ·obtain ⟨o, e, _⟩ := gQ hm; exact ⟨o, e⟩
    ·exact (lC ha).elim (fun e => e ▸ o.alive) fun z => q5.alive (fun z => nomatch z) (S.good.bas.alloc a z)
  have o' : bT K.c (C :: D :: X) h5 D d := o.wide fun a ha => by
   rcases lC ha with rfl | ha
   ·exact .inl hCX
   ·exact .inl ((lC ha).elim (fun e => e ▸ hDX) (hX a))
  have S6 := S5.add (bL K.c D d) o' (fun a ha => by rw [lS ha]; exact ⟨.tail _ (.head _), fq.2.1, fq.2.2.1, fq.2.2.2.1⟩) fun r hr a ha => by rw [lS ha]; exact fq.2.2.2.2 r hr
  refine wpAny_assign_Name (S6.qJ hx fun h6 tk6 t ht q6 S7 => ?_)
  have hCt : C ∉ [t] := fun z => gq.2.2.1 (lS z ▸ ht)
  refine ⟨m, q6.ns hCt hm, fun h7 hs7 => ?_⟩
  have q7 : HX K.c [C] h6 h7 := .sameBut hs7 (S.base C gq.2.1) gq.2.2.2.1
  exact k D _ _ (S7.gone (Y := [C]) (tk := tk6) (fun y hy => (by rw [lS hy]; exact ⟨.head _, gq.2.1, S.x0 hx0 gq.2.1, gq.2.2.1, gq.2.2.2.1, fun r hr => (lC hr).elim (fun e => by subst e; exact fun z => hCD (lS z)) (gq.2.2.2.2 r)⟩)) q7)
inductive Kv (K : Act) (A : Around) (s0 : Shared) (Γ : Gam) (R : Ros) (Δ : Del K) (pair : Bool) (ds : List PyData) : Value -> Shared -> Prop
 | mk (I : Addr) (fp : List Addr) (St : List Addr -> Nat -> Heap -> Prop) (X' : List Addr) (s2 : Shared) (IT : ItS K.c pair I fp ds St) (S : Sat K X' Γ R (uO IT 0 :: Δ) A s0 s2) : Kv K A s0 Γ R Δ pair ds (.ref I) s2
noncomputable def oM (K : Act) (A : Around) (s0 : Shared) (E : Err) (Γ : Gam) (R : Ros) (Δ : Del K) (pair : Bool) (e : Expr) (ds : List PyData) : Prop :=
 ∀ s X, Sat K X Γ R Δ A s0 s -> wpAny K.c.M A (eval e K.env) (fun x s1 => wpAny K.c.M A (pyIter x) (Kv K A s0 Γ R Δ pair ds) E s1) E s
theorem oM.of {pair : Bool} (h : ∀ X, EvI K.c K.l X K.env Γ pair e ds) : oM K A s0 E Γ R Δ pair e ds := fun s X S =>
 bk (wK (h X A s S.lev S.good) (fun x s1 hx => bk (wK hx (fun it s2 hx => by
  obtain ⟨p, I, fp, St, IT, st, hfp⟩ := hx
  obtain ⟨h2, tk2, q2⟩ := p
  have fpa : ∀ a ∈ fp, ∃ o, h2.get? a = some o := IT.alive _ _ _ st
  have S2 : Sat K (fp ++ X) Γ R Δ A s0 { s with heap := h2, toks := tk2 } := S.grow (fun a ha => (lA ha).elim (fun z => .inr (hfp a z)) .inl) (fun a ha => lR _ ha) q2 fun a ha => (lA ha).elim (fpa a) fun z => q2.alive (fun z => nomatch z) (S.good.bas.alloc a z)
  refine ⟨I, fp, St, fp ++ X, _, IT, S2.add (uO IT 0) st (fun a ha => ?_) fun r hr a ha => (S.off (hfp a ha)).2.2.2.2 r hr⟩
  have fq := S.off (hfp a ha)
  exact ⟨lL _ ha, fq.2.1, fq.2.2.1, fq.2.2.2.1⟩))))
theorem Sat.bind {pair : Bool} {xs : List Str} {Γd : Gam} (B : fJ pair tg d xs Γd) (S : Sat K X Γ R Δ A s0 s) (hv : ItV K.c pair X s.heap v d) (hsub : ∀ x ∈ xs, x ∈ K.xs) (ho : fZ xs Γ) (hR : ∀ p ∈ R, p.1 ∉ xs) :
  wpAny K.c.M A (PySem.assign tg K.env v) (fun _ s' => Sat K X (Γd ++ Γ) R Δ A s0 s') E s :=
 bk (pF B S.good hv (fun a ha => ⟨(S.own a ha).1, S.base a (S.own a ha).2⟩) (S.tg.sub hsub) ho fun h' tk q kp kh G' =>
  {same := S.same.to
   hx := S.hx.young q fun a ha => (S.own a ha).2
   sub := S.sub
   own := S.own
   env := S.env
   good := G'
   tg := S.tg.mono kp
   names := fun p hp => kh p.1 _ (hR p hp) (S.names p hp)
   res := fun r hr => r.keep _ _ _ K.N (S.res r hr) q (fun a ha => ⟨S.good.bas.frs a ha, fun z => (S.fps r hr a z).2.2.2 ha⟩) fun y hy => ⟨(S.own y hy).1, fun z => (S.fps r hr y z).2.2.1 hy⟩
   fps := S.fps
   apart := S.apart
   base := S.base
   lev := S.lev })
inductive ForI (K : Act) (A : Around) (s0 : Shared) (r : Nat -> Res K.c) (Inv : Nat -> Gam -> Ros -> Del K -> Prop) (L n : Nat) (s : Shared) : Prop
 | mk (i : Nat) (X : List Addr) (Γ : Gam) (R : Ros) (Δ : Del K) (hn : n + i = L) (inv : Inv i Γ R Δ) (S : Sat K X Γ R (r i :: Δ) A s0 s)
theorem Ex1.for {pair : Bool} {xs : List Str} (Inv : Nat -> Gam -> Ros -> Del K -> Prop) (O : Out K -> Prop)
  (hI : oM K A s0 E Γ R Δ pair iter ds) (hB : ∀ d ∈ ds, fJ pair tg d xs (Γd d)) (hsub : ∀ x ∈ xs, x ∈ K.xs)
  (h0 : Inv 0 Γ' R' Δ') (hg : ∀ p ∈ Γ', p ∈ Γ) (hr : ∀ p ∈ R', p ∈ R) (hd' : List.Sublist Δ' Δ) (hx0 : dg K s0)
  (hoff : ∀ i Γ R Δ, Inv i Γ R Δ -> fZ xs Γ /\ ∀ p ∈ R, p.1 ∉ xs)
  (hb : ∀ i d Γ R Δ (r : Res K.c), ds[i]? = some d -> Inv i Γ R Δ -> Ex K A s0 E (Γd d ++ Γ) R (r :: Δ) body fun o => (∃ Γ' R' Δ', (o = .next Γ' R' (r :: Δ') \/ o = .cont Γ' R' (r :: Δ')) /\ Inv (i + 1) Γ' R' Δ') \/ (∃ Γ' R' Δ', o = .brk Γ' R' (r :: Δ') /\ O (.next Γ' R' Δ')) \/ ∃ d, o = .ret d /\ O (.ret d))
  (hend : ∀ Γ R Δ, Inv ds.length Γ R Δ -> O (.next Γ R Δ))
  (htg : autoParam (TgI pair tg) aC) (hfold : autoParam (∀ x, foldedSetIterable iter K.env x = pure x) aI) (hE : autoParam (PassesOwn K.c.M A K.env E) aE) :
  Ex1 K A s0 E Γ R Δ (.For tg iter body [] pos) O := fun s X S => by
 refine wpAny_For (wK (hI s X S) (fun x s1 hx => wK hx (fun it s2 hx => ?_))) hfold
 obtain ⟨I, fp, St, X2, _, IT, S2⟩ := hx
 refine Ab rfl (fun n s' => ForI K A s0 (uO IT) Inv ds.length n s') (fun n s' Q hI' hn hd' hc => ?_) ds.length ⟨0, X2, Γ', R', Δ', rfl, h0, S2.weak hg hr (hd'.cons_cons _)⟩
 obtain ⟨i, X4, Γ4, R4, Δ4, hni, inv, S4⟩ := hI'
 show wpAny K.c.M A ((forTurn tg (.ref I) body [] K.env).onRaise (fun x => do noteFrame x K.env; theTreesLotGoes x)) _ _ s'
 refine wpAny_noted ?_
 simp only [forTurn]
 have hf4 := S4.fps _ (.head _)
 have hfp : ∀ a ∈ fp, a ∈ X4 /\ K.c.base.get? a = none /\ a ∉ K.c.fr := fun a ha => ⟨(hf4 a ha).1, S.base a (hf4 a ha).2.1, (hf4 a ha).2.2.2⟩
 have st4 : St X4 i s'.heap := S4.res _ (.head _)
 refine wB (wpAny_standAt (wB (wpAny_onRaise ?_)))
 cases hd : ds[i]? with
 | none =>
  have hi : i = ds.length := by
   have := List.getElem?_eq_none_iff.mp hd
   omega
  subst hi
  refine wM (IT.done A s' X4 S4.good.bas.handled st4 hfp) (fun r s1 hr => ?_) fun _ _ f => f.elim
  obtain ⟨h', tk', q⟩ := hr
  exact wP (hc _ _ rfl (codeAny_block (wpAny_execs_nil ⟨_, _, _, _, hend _ _ _ inv, S4.drop hx0 q⟩)))
 | some d =>
  have hi : i < ds.length := by
   cases Nat.lt_or_ge i ds.length with
   | inl h => exact h
   | inr h => rw [List.getElem?_eq_none h] at hd; cases hd
  have hdm : d ∈ ds := lG hd
  refine wM (IT.item A s' X4 i d tg S4.good.bas.handled htg st4 hfp S4.good.bas.frs hd) (fun r s1 hr => ?_) fun _ _ f => f.elim
  obtain ⟨v, rfl, hr⟩ := hr
  dsimp only
  refine wB (bk (wK hr (fun _ s2 hr => ?_)))
  obtain ⟨h2, tk2, q2, st2, iv⟩ := hr
  have S5 : Sat K X4 Γ4 R4 (uO IT (i + 1) :: Δ4) A s0 { s' with heap := h2, toks := tk2 } := S4.change (r := uO IT i) (r' := uO IT (i + 1)) rfl q2 st2
  obtain ⟨o1, o2⟩ := hoff _ _ _ _ inv
  have next : ∀ {X Γ R Δ s}, Inv (i + 1) Γ R Δ -> Sat K X Γ R (uO IT (i + 1) :: Δ) A s0 s -> Q (.again _) s := fun h S => hn (n - 1) _ (by omega) ⟨i + 1, _, _, _, _, by omega, h, S⟩
  refine wB (wK (S5.bind (hB d hdm) iv hsub o1 o2) (fun _ s3 S6 => ?_))
  refine wB (wK (wpAny_passesOwn hE (hb i d _ _ _ _ hd inv s3 X4 S6)) (fun f s4 hp => ?_))
  cases f with
  | next =>
   obtain ⟨X, Γ, R, Δ, o, S'⟩ := hp
   obtain ⟨Δ', rfl, inv'⟩ := turnF o
   exact wP (next inv' S')
  | cont =>
   obtain ⟨X, Γ, R, Δ, o, S'⟩ := hp
   obtain ⟨Δ', rfl, inv'⟩ := turnF o
   exact wP (next inv' S')
  | brk =>
   obtain ⟨X, Γ, R, Δ, o, S'⟩ := hp
   obtain ⟨Δ', rfl, o2⟩ := turnF o
   exact wP (hd' _ _ ⟨X, Γ, R, _, o2, S'.weak (fun _ h => h) (fun _ h => h) (List.sublist_cons_self ..)⟩)
  | ret v =>
   obtain ⟨d, o, S'⟩ := hp
   exact wP (hd' _ _ ⟨_, turnF o, S'⟩)
end
noncomputable def noDict : PyData -> Bool
 | .none | .bool _ | .int _ | .str _ => true
 | .list xs => noDictL xs
 | .tuple xs => noDictL xs
 | _ => false
where noDictL : List PyData -> Bool
 | [] => true
 | x :: xs => noDict x && noDictL xs
section
variable {es : Array DictEntry} {n : Nat} {oc : Value} {od : Option Addr} {os : Array (Option Value)}
theorem Rd.Fd (e : h.get? D = some { cls := oc, dict := od, data := .dict es n, slots := os }) {v : Value} {d : PyData} (r : Rd w X h v d) : noDict d = true -> Rd w (D :: X) h v d :=
 Rd.rec (motive_1 := fun v d _ => noDict d = true -> Rd w (D :: X) h v d) (motive_2 := fun vs ds _ => noDict.noDictL ds = true -> RdL w (D :: X) h vs ds) (fun _ => .none) (fun b _ => .bool b) (fun i t _ => .int i t) (fun x t _ => .str x t)
  (fun ha e' _ q hn => .list (fun z => (lC z).elim (fun q => by rw [q, e] at e'; cases e') ha) e' (q hn)) (fun ha e' _ q hn => .tuple (fun z => (lC z).elim (fun q => by rw [q, e] at e'; cases e') ha) e' (q hn))
  (fun _ _ _ _ _ _ hn => by cases hn) (fun _ hn => by cases hn) (fun hn => by cases hn) (fun _ _ _ _ _ _ _ _ _ hn => by cases hn) (fun _ => .nil) (fun _ _ q1 q2 hn => .cons (q1 (Bool.and_eq_true_iff.mp hn).1) (q2 (Bool.and_eq_true_iff.mp hn).2)) r
end
noncomputable def isDict : PyData -> Bool
 | .dict _ => true
 | _ => false
noncomputable def IW (d r : PyData) : Prop := flat r = true \/ (isDict d = true /\ noDict r = true)
section
variable {E : Err} 
theorem Sat.perm (S : Sat K X Γ R Δ A s0 s) (h : List.Perm Δ Δ') : Sat K X Γ R Δ' A s0 s :=
 { S with
  res := fun r hr => S.res r (h.mem_iff.mpr hr)
  fps := fun r hr => S.fps r (h.mem_iff.mpr hr)
  apart := h.pairwise S.apart fun {a b} hab x hx hy => hab x hy hx }
theorem Ex.perm (h : List.Perm Δ Δ') (e : Ex K A s0 E Γ R Δ' ss O) : Ex K A s0 E Γ R Δ ss O := fun s X S => e s X (S.perm h)
theorem EvS.perm (h : List.Perm Δ Δ') (q : EvS K A s0 E Γ R Δ' e d) : EvS K A s0 E Γ R Δ e d := fun s X S =>
 wK (q s X (S.perm h)) (fun v s' r => ⟨r.1.perm h.symm, r.2⟩)
theorem Sat.look {x : Str} (S : Sat K X Γ R Δ A s0 s) (hx : (x, D) ∈ R) (hr : bL K.c D d ∈ Δ) : Good K.c A (X.filter (· ≠ D)) K.env ((x, d) :: Γ) s.heap := by
 have fq := S.fps _ hr D (.head _)
 have hF : ∀ a ∈ K.c.fr, a ∈ X.filter (· ≠ D) := fun a ha => bQ (S.good.bas.frs a ha) fun e => fq.2.2.2 (e ▸ ha)
 have G1 : Good K.c A (X.filter (· ≠ D)) K.env Γ s.heap := { S.good with
   bas := { S.good.bas with alloc := fun a ha => S.good.bas.alloc a (without a ha), frs := hF }
   vars := fun p hp => let ⟨v, H, r⟩ := S.good.vars p hp; ⟨v, H, r.sub without⟩ }
 exact G1.put (S.names _ hx) ((S.res _ hr).rd dW without)
theorem EvS.view {x : Str} {r : PyData} (hx : (x, D) ∈ R) (hr : bL K.c D d ∈ Δ) (ho : IW d r) (h : ∀ X, Ev K.c K.l X K.env ((x, d) :: Γ) e r) : EvS K A s0 E Γ R Δ e r := fun s X S =>
 (h _).use S.lev (S.look hx hr) fun v s' p q _ => by
  have S' := S.pst p
  refine ⟨S', ?_⟩
  rcases ho with ho | ⟨ho, hn⟩
  ·exact q.flat ho
  ·cases d with
   | dict kvs =>
    obtain ⟨es, n, e, _⟩ := S'.res _ hr
    refine (q.Fd e hn).sub fun a ha => ?_
    by_cases z : a = D
    ·exact z ▸ .head _
    ·exact .tail _ (bQ ha z)
   | _ => simp [isDict] at ho
theorem EtS.view {x : Str} (hx : (x, D) ∈ R) (hr : bL K.c D d ∈ Δ) (h : ∀ X, Et K.c K.l X K.env ((x, d) :: Γ) e b) : EtS K A s0 E Γ R Δ e b := fun s X S =>
 bk (wK (h _ A s S.lev (S.look hx hr)) (fun r s' q => ⟨q.1, S.pst q.2⟩))
end
section
variable {E : Err}
theorem iH : ∀ h : Heap, True -> ∃ k, (k = Keeper.frame \/ k = Keeper.machine \/ k = Keeper.boundFrame) /\ Looks c.M h (keeperOf (.builtin id)) k := fun _ _ => ⟨.machine, .inr (.inl rfl), .of_pure rfl⟩
theorem gV {name : Str} {T : String} (pa : PlainAttrs T) (slot : Slot T name id) (ty : typeOf (.builtin id) = pure (.type "method_descriptor"))
  (h : wpAny c.M A (eval o env) (fun ov s1 => s1.TypeIs ov T /\ (∀ a, ov = .ref a -> ∃ ob, s1.heap.get? a = some ob /\ ob.dict = none) /\ wpAny c.M A (eval e env) (fun v s2 => wpAny c.M A (call (.builtin id) [ov, v]) Q E s2) E s1) E s)
  (hbase : autoParam (attributeBase o name env (eval o env) = eval o env) aR) (hline : autoParam ((apos.endLine == pos.line) = true) aR) (hs : autoParam (starEach [e] env = [(false, eval e env)]) aR) :
  wpAny c.M A (eval (.Call (.Attribute o name apos) [e] [] pos) env) Q E s := by
 refine wpAny_Call_method1_late hbase hline (by rw [hs]; rfl) (wK h (fun ov s1 q => ⟨T, id, pa, slot, ty, q.1, q.2.1, ?_⟩))
 exact callWith_of (P := fun _ => True) rfl iH (evalArgs_plain (Calls.spliced_cons (wK q.2.2 (fun v s2 r => Calls.spliced_nil ⟨trivial, r⟩))))
theorem qK {name : Str} {T : String} (pa : PlainAttrs T) (slot : Slot T name id) (ty : typeOf (.builtin id) = pure (.type "method_descriptor"))
  (h : wpAny c.M A (eval o env) (fun ov s1 => s1.TypeIs ov T /\ (∀ a, ov = .ref a -> ∃ ob, s1.heap.get? a = some ob /\ ob.dict = none) /\ wpAny c.M A (call (.builtin id) [ov]) Q E s1) E s)
  (hbase : autoParam (attributeBase o name env (eval o env) = eval o env) aR) (hline : autoParam ((apos.endLine == pos.line) = true) aR) :
  wpAny c.M A (eval (.Call (.Attribute o name apos) [] [] pos) env) Q E s := by
 refine wpAny_Call_method0_late hbase hline (wK h (fun ov s1 q => ⟨T, id, pa, slot, ty, q.1, q.2.1, ?_⟩))
 exact callWith_of (P := fun _ => True) rfl iH (evalArgs_nil3 ⟨trivial, q.2.2⟩)
end
section
variable {E : Err} 
theorem Sat.changed (S : Sat K X Γ R (bL K.c D d :: Δ) A s0 s) {h' : Heap} {tk : Nat} (hs : Heap.SameBut D s.heap h') (o : bT K.c X h' D d') : Sat K X Γ R (bL K.c D d' :: Δ) A s0 { s with heap := h', toks := tk } := by
 have fq := S.fps _ (.head _) D (.head _)
 exact S.change (r := bL K.c D d) (r' := bL K.c D d') rfl (.sameBut hs (S.base D fq.2.1) fq.2.2.2) o
theorem wu {x : Str} (S : Sat K X Γ R Δ A s0 s) (hx : (x, D) ∈ R) (h : Q (.ref D) s) (hd : (x == ("__debug__" : Str)) = false) : wpAny K.c.M A (eval (.Name x pos) K.env) Q E s :=
 wpAny_Name ((S.names _ hx).load S.good.kind h) hd
theorem Ex1.append {x : Str} (hx : (x, D) ∈ R) (h : EvS K A s0 E Γ R (bL K.c D (.list ds) :: Δ) e d) (hz : ds.length <= 10 ^ 6) (hd : autoParam ((x == ("__debug__" : Str)) = false) aD)
  (hline : autoParam ((apos.endLine == cpos.line) = true) aR) (hs : autoParam (starEach [e] K.env = [(false, eval e K.env)]) aR) (hi : autoParam (interactive K.env = false) aR) (hsw : autoParam (swapsWith (.Call (.Attribute (.Name x np) "append" apos) [e] [] cpos) none pos.line K.env = pure false) aR)
  (hbase : autoParam (attributeBase (.Name x np) "append" K.env (eval (.Name x np) K.env) = eval (.Name x np) K.env) aR) :
  Ex1 K A s0 E Γ R (bL K.c D (.list ds) :: Δ) (.Expr (.Call (.Attribute (.Name x np) "append" apos) [e] [] cpos) pos) (bY Γ R (bL K.c D (.list (ds ++ [d])) :: Δ)) := fun s X S => by
 refine wpAny_Expr ?_ hi hsw
 have hl0 : oK K.c.w X s.heap D ds := S.res _ (.head _)
 obtain ⟨vs0, n0, e0, r0⟩ := hl0
 refine gV PySem.F.plainAttrs_list slot_list_append (by first | exact type_list_append | rfl) (wu S hx ⟨⟨_, e0, rfl⟩, fun a ha => ⟨_, (by cases ha; exact e0), rfl⟩, wK (h s X S) (fun v s1 q => ?_)⟩ hd) hbase hline hs
 obtain ⟨S1, r1⟩ := q
 have hl1 : oK K.c.w X s1.heap D ds := S1.res _ (.head _)
 obtain ⟨vs, n, e1, r⟩ := hl1
 have fq := S1.fps _ (.head _) D (.head _)
 refine append_at e1 (fun h' hs' e' => ?_) (by simp [r.length, sizeLine_eq]; omega)
 have q : HX K.c [D] s1.heap h' := .sameBut hs' (S1.base D fq.2.1) fq.2.2.2
 have hY : ∀ y ∈ [D], y ∈ X := fun y hy => lS hy ▸ fq.1
 exact ⟨X, _, _, _, rfl, S1.changed hs' ⟨vs ++ [v], n + 1, by rw [e']; simp [bH], (r.hx q S1.good.bas.frs hY).append (.cons (r1.hx q S1.good.bas.frs hY) .nil)⟩⟩
theorem qL {l b : Addr} {n n2 : Nat} (hl : s.heap.get? l = some (bH vs n)) (hb : s.heap.get? b = some (bH ws n2)) (hz : vs.length + ws.length <= 10 ^ 6)
  (h : ∀ h' k, Heap.SameBut l s.heap h' -> h'.get? l = some (bH (vs ++ ws) k) -> Q (.ref l) { s with heap := h' }) : wpAny c.M A (inplaceOp .Add (.ref l) (.ref b)) Q E s := by
 have ha : s.TypeIs (.ref l) "list" := ⟨_, hl, rfl⟩
 have hb' : s.TypeIs (.ref b) "list" := ⟨_, hb, rfl⟩
 unfold inplaceOp
 refine wpAny_holding ?_
 have hfi : fillsInplaceSlot (.type "list") "add" (Operator.Add == .Add) = pure false := by
  unfold fillsInplaceSlot
  show (typeLookup (.type "list") (dunderI "add") >>= fun fi => pure (fi.isSome && !isSeqSlot fi)) = pure false
  rw [PySem.F.slot_list_iadd.lookup]
  show (pure ((some (Value.builtin "list.__iadd__")).isSome && !isSeqSlot (some (.builtin "list.__iadd__"))) : Sem Bool) = pure false
  rw [show isSeqSlot (some (.builtin "list.__iadd__")) = true by decide +kernel]
  rfl
 have hsi : seqSlot? (.type "list") (dunderI "add") = pure (some (.builtin "list.__iadd__")) := PySem.seqSlot_of PySem.F.slot_list_iadd.lookup (by decide +kernel)
 refine wB (wpAny_typeOf ha (wB (wpAny_of_eq hfi ?_)))
 show wpAny _ A (if false = true then _ else _) Q E s
 rw [if_neg Bool.false_ne_true]
 refine wB (wpAny_binaryOp1_none (nm := "add") ha hb' noFill_list_add ?_)
 refine wB (wpAny_of_eq hsi ?_)
 refine wB (wpAny_rule ?_)
 refine call_meets PySem.F.slot_list_iadd ha PySem.F.entry_list_iadd (PySem.F.args_list_iadd_2 _ _) (AutoSeq1.list___iadd___list_list_0 l vs.toArray n b ws.toArray n2 ?_ (by simp [sizeLine_eq]; omega) (by simp [sizeLine_eq]; omega)) ⟨hl, hb, ?_⟩
 ·simp [Builtin.List.listTooLong, sizeLine_eq]; omega
 ·have u : IsL (s.heap.update l (Obj.mapSeq fun x => x ++ ws.toArray)) l _ _ := IsL.update (n := n) (items := vs.toArray) hl (fun x => x ++ ws.toArray)
  exact h _ _ (Heap.SameBut.update ..) (u.trans (by simp only [bH, List.append_toArray]; rfl))
noncomputable def EvM (K : Act) (A : Around) (s0 : Shared) (E : Err) (Γ : Gam) (R : Ros) (Δ Δ' : Del K) (e : Expr) (d : PyData) : Prop :=
 ∀ s X, Sat K X Γ R Δ A s0 s -> wpAny K.c.M A (eval e K.env) (fun v s' => ∃ X', Sat K X' Γ R Δ' A s0 s' /\ Rd K.c.w X' s'.heap v d) E s
theorem EvS.m (h : EvS K A s0 E Γ R Δ e d) : EvM K A s0 E Γ R Δ Δ e d := fun s X S => wK (h s X S) (fun v s' q => ⟨X, q⟩)
theorem Ex1.extend {x : Str} {es : List PyData} (hx : (x, D) ∈ R) (h : EvM K A s0 E Γ R (bL K.c D (.list ds) :: Δ) (bL K.c D (.list ds) :: Δ') e (.list es)) (hxs : x ∈ K.xs) (hz : ds.length + es.length <= 10 ^ 6) (hΓ : ∀ p ∈ Γ, p.1 ≠ x) (hR : ∀ p ∈ R, p.1 = x -> p.2 = D) :
  Ex1 K A s0 E Γ R (bL K.c D (.list ds) :: Δ) (.AugAssign (.Name x px) .Add e pos) (bY Γ R (bL K.c D (.list (ds ++ es)) :: Δ')) := fun s X S => by
 refine wpAny_AugAssign_Name ((S.names _ hx).load S.good.kind (wK (h s X S) (fun v s1 q => ?_)))
 obtain ⟨X, S1, r1⟩ := q
 have hl1 : oK K.c.w X s1.heap D ds := S1.res _ (.head _)
 obtain ⟨vs, n, e1, r⟩ := hl1
 have fq := S1.fps _ (.head _) D (.head _)
 have hz := r1.aQ; clear r1; obtain ⟨b, ws, n2, hb, eb, rb⟩ := hz
 refine qL e1 eb (by rw [r.length, rb.length]; exact hz) fun h' k hs' e' => ?_
 have q : HX K.c [D] s1.heap h' := .sameBut hs' (S1.base D fq.2.1) fq.2.2.2
 have hY : ∀ y ∈ [D], y ∈ X := fun y hy => lS hy ▸ fq.1
 have S2 := S1.changed (tk := s1.toks) (d' := .list (ds ++ es)) hs' ⟨vs ++ ws, k, e', (r.hx q S1.good.bas.frs hY).append (rb.hx q S1.good.bas.frs hY)⟩
 refine S2.qJ hxs fun h2 tk t ht q2 S3 => ⟨X, _, _, _, rfl, S3.weak (fun p hp => List.mem_filter.mpr ⟨hp, by simpa using hΓ p hp⟩) (fun p hp => ?_) (List.Sublist.refl _)⟩
 by_cases hp1 : p.1 = x
 ·rw [show p = (x, D) from Prod.ext hp1 (hR p hp hp1)]; exact .head _
 ·exact .tail _ (List.mem_filter.mpr ⟨hp, by simpa using hp1⟩)
theorem Ex1.aug {x : Str} (hx : (x, d1) ∈ Γ) (h : ∀ X, Ev K.c K.l X K.env Γ e d2) (hp : P2 K.c (inplaceOp op) d1 d2 d) (hxs : x ∈ K.xs) (hR : ∀ p ∈ R, p.1 ≠ x) :
  Ex1 K A s0 E Γ R Δ (.AugAssign (.Name x px) op e pos) (bY ((x, d) :: Γ.filter fun p => p.1 != x) R Δ) := fun s X S => by
 obtain ⟨v0, H, r0⟩ := S.good.vars _ hx
 refine wpAny_AugAssign_Name (H.load S.good.kind ((h X).use S.lev S.good fun v1 s1 p1 r1 G1 => bk (wK (hp K.l A X s1 v0 v1 S.lev G1.bas (r0.hx0 p1.hx S.good.bas.frs) r1) (fun v s2 q => ?_))))
 exact (S.pst (p1.trans q.1)).assign hxs hR q.2 fun s' S' => ⟨X, _, _, _, rfl, S'⟩
theorem Ex1.uQ (Inv : Nat -> Gam -> Ros -> Del K -> Prop) (O : Out K -> Prop)
  (h : ∀ n Γ R Δ, Inv n Γ R Δ -> ∃ b, (∀ s X, Sat K X Γ R Δ A s0 s -> wpAny K.c.M A (isTrue test K.env (eval test K.env)) (fun r s' => r = b /\ ∃ X', Sat K X' Γ R Δ A s0 s') E s) /\ (b = true -> Ex K A s0 E Γ R Δ body fun o => (∃ m Γ' R' Δ', m < n /\ (o = .next Γ' R' Δ' \/ o = .cont Γ' R' Δ') /\ Inv m Γ' R' Δ') \/ (∃ Γ' R' Δ', o = .brk Γ' R' Δ' /\ O (.next Γ' R' Δ')) \/ ∃ d, o = .ret d /\ O (.ret d)) /\ (b = false -> Ex K A s0 E Γ R Δ orelse O))
  (n : Nat) (h0 : Inv n Γ R Δ) (hE : autoParam (PassesOwn K.c.M A K.env E) aE) : Ex1 K A s0 E Γ R Δ (.While test body orelse pos) O := fun s X S => by
 refine wpAny_While (codeAny_whileLoop (fun n s' => ∃ X Γ R Δ, Inv n Γ R Δ /\ Sat K X Γ R Δ A s0 s') (fun n s' hI => ?_) n ⟨X, Γ, R, Δ, h0, S⟩)
 obtain ⟨X, Γ, R, Δ, inv, S⟩ := hI
 obtain ⟨b, ht, h1, h2⟩ := h n Γ R Δ inv
 refine wpAny_passesOwn hE (wK (ht s' X S) (fun r s2 q => ?_))
 obtain ⟨rfl, X, S2⟩ := q
 cases r with
 | false =>
  simp only [Bool.false_eq_true, if_false]
  exact wpAny_passesOwn hE (h2 rfl s2 X S2)
 | true =>
  simp only [if_true]
  refine wpAny_passesOwn hE (wK (h1 rfl s2 X S2) (fun f s3 hp => ?_))
  cases f with
  | next =>
   obtain ⟨X, Γ, R, Δ, o, S'⟩ := hp
   obtain ⟨m, hm, inv'⟩ := wg o
   exact ⟨m, hm, X, Γ, R, Δ, inv', S'⟩
  | cont =>
   obtain ⟨X, Γ, R, Δ, o, S'⟩ := hp
   obtain ⟨m, hm, inv'⟩ := wg o
   exact ⟨m, hm, X, Γ, R, Δ, inv', S'⟩
  | brk =>
   obtain ⟨X, Γ, R, Δ, o, S'⟩ := hp
   exact ⟨X, Γ, R, Δ, wg o, S'⟩
  | ret v =>
   obtain ⟨d, o, S'⟩ := hp
   exact ⟨_, wg o, S'⟩
theorem Ex1.while (Inv : Nat -> Gam -> Ros -> Del K -> Prop) (O : Out K -> Prop)
  (h : ∀ n Γ R Δ, Inv n Γ R Δ -> ∃ b, EtS K A s0 E Γ R Δ test b /\ (b = true -> Ex K A s0 E Γ R Δ body fun o => (∃ m Γ' R' Δ', m < n /\ (o = .next Γ' R' Δ' \/ o = .cont Γ' R' Δ') /\ Inv m Γ' R' Δ') \/ (∃ Γ' R' Δ', o = .brk Γ' R' Δ' /\ O (.next Γ' R' Δ')) \/ ∃ d, o = .ret d /\ O (.ret d)) /\ (b = false -> O (.next Γ R Δ)))
  (n : Nat) (h0 : Inv n Γ R Δ) (hE : autoParam (PassesOwn K.c.M A K.env E) aE) : Ex1 K A s0 E Γ R Δ (.While test body [] pos) O := by
 refine Ex1.uQ Inv O (fun n Γ R Δ hi => ?_) n h0 hE
 obtain ⟨b, h1, h2, h3⟩ := h n Γ R Δ hi
 exact ⟨b, fun s X S => wK (h1 s X S) (fun _ _ q => ⟨q.1, X, q.2⟩), h2, fun e => .nil (h3 e)⟩
end
theorem uR {ko : Str -> Option NameKind} {x : Str} {binds : List (Str × Value)} : ∀ {m : Str -> Option Value}, x ∉ binds.map (·.1) -> bindL ko binds m x = m x := by
 induction binds with
 | nil => exact fun _ => rfl
 | cons a r ih =>
  intro m h
  rw [List.map_cons, List.mem_cons, not_or] at h
  unfold bindL
  rw [ih h.2]
  split
  ·exact if_neg h.1
  ·rfl
theorem pH {ko : Str -> Option NameKind} {x : Str} (hx : ko x = some .local) {binds : List (Str × Value)} : ∀ {m : Str -> Option Value}, (binds.map (·.1)).Nodup -> (x, v) ∈ binds -> bindL ko binds m x = some v := by
 induction binds with
 | nil => exact fun _ h => nomatch h
 | cons a r ih =>
  intro m hn hm
  rw [List.map_cons, List.nodup_cons] at hn
  unfold bindL
  rcases lC hm with e | hm
  ·cases e
   rw [uR hn.1, if_pos hx, if_pos rfl]
  ·exact ih hn.2 hm
theorem uT {ko : Str -> Option NameKind} {x : Str} {binds : List (Str × Value)} : ∀ {m : Str -> Option Value}, x ∉ binds.map (·.1) -> bindC ko binds m x = m x := by
 induction binds with
 | nil => exact fun _ => rfl
 | cons a r ih =>
  intro m h
  rw [List.map_cons, List.mem_cons, not_or] at h
  unfold bindC
  rw [ih h.2]
  split
  ·rfl
  ·exact if_neg h.1
theorem pI {ko : Str -> Option NameKind} {x : Str} (hx : ko x ≠ some .local) {binds : List (Str × Value)} : ∀ {m : Str -> Option Value}, (binds.map (·.1)).Nodup -> (x, v) ∈ binds -> bindC ko binds m x = some v := by
 induction binds with
 | nil => exact fun _ h => nomatch h
 | cons a r ih =>
  intro m hn hm
  rw [List.map_cons, List.nodup_cons] at hn
  unfold bindC
  rcases lC hm with e | hm
  ·cases e
   rw [uT hn.1, if_neg hx, if_pos rfl]
  ·exact ih hn.2 hm
structure FnAt (c : Cfg) (a : Addr) (fd : FuncData) (body : List Stmt) : Prop where
 at_ : ∃ o, c.base.get? a = some o /\ o.data = .func fd
 code : c.base.CodeRec fd.code fd.qualname
 lim : c.base.NoLimit
 body : fd.body = .stmts body
 clo : fd.closure = []
 glob : fd.globals = mainGlobals
 blt : fd.builtins = builtinsNs
noncomputable def Fe (scope : Scope) : List Str := scope.names.filterMap fun p => if p.2 = .local \/ p.2 = .cell then some p.1 else none
noncomputable def fG (scope : Scope) (ps : List Str) : Bool :=
 decide (scope.names.map (·.1)).Nodup && scope.names.all (fun p => p.2 != .free) && ps.all (fun p => decide (p ∈ Fe scope)) && decide ps.Nodup && scope.kind == .function && !scope.isCoroutine && !scope.isGenerator
inductive FnI (scope : Scope) (ps : List Str) : Prop
 | mk (h1 : (scope.names.map (·.1)).Nodup) (h2 : ∀ p ∈ scope.names, p.2 ≠ .free) (h3 : ∀ p ∈ ps, p ∈ Fe scope) (h4 : ps.Nodup) (h5 : scope.kind = .function) (h6 : scope.isCoroutine = false) (h7 : scope.isGenerator = false)
theorem jC {ps : List Str} (h : fG scope ps = true) : FnI scope ps := by
 unfold fG at h
 simp only [Bool.and_eq_true, decide_eq_true_eq, List.all_eq_true, bne_iff_ne, ne_eq, beq_iff_eq, Bool.not_eq_true'] at h
 obtain ⟨⟨⟨⟨⟨⟨h1, h2⟩, h3⟩, h4⟩, h5⟩, h6⟩, h7⟩ := h
 exact ⟨h1, h2, h3, h4, h5, h6, h7⟩
noncomputable def cQ (c : Cfg) (l : Nat) (fd : FuncData) (L a : Addr) (X : List Addr) : Act where
 c := c.push L
 l := l + 1
 env := callEnvC fd L a
 N := L :: fd.scope.names.filterMap fun p => if p.2 = .cell then (callEnvC fd L a).cells.lookup p.1 else none
 xs := Fe fd.scope
 X0 := X
 post := fun _ _ => True
theorem Lev.deeper (L : Lev l A) (hl : l < 60) : Lev (l + 1) (A.deeper env) := by
 obtain ⟨h1, h2, h3⟩ := L
 refine ⟨?_, ?_, hl⟩
 ·show A.depth + 1 <= _; omega
 ·show A.units + 3 <= _; omega
theorem j7 {x : Str} (h : x ∈ Fe scope) : (x, NameKind.local) ∈ scope.names \/ (x, NameKind.cell) ∈ scope.names := by
 obtain ⟨p, hp, e⟩ := List.mem_filterMap.mp h
 obtain ⟨n, k⟩ := p
 dsimp only at e
 split at e
 ·rename_i hk
  cases e
  rcases hk with rfl | rfl
  ·exact .inl hp
  ·exact .inr hp
 ·cases e
theorem enter {ps : List Str} (F : FnAt c a fd body) (hok : fG fd.scope ps = true) (hlen : ps.length = ds.length) (hl : l < 60) (LA : Lev l A) (B : Bas c A X s.heap) (r : RdL c.w X s.heap vs ds)
  (x : InCallC s (callEnvC fd s.heap.objs.size a).locals (bindL (callEnvC fd s.heap.objs.size a).kindOf (ps.zip vs) fun _ => none) (callEnvC fd s.heap.objs.size a).cells (bindC (callEnvC fd s.heap.objs.size a).kindOf (ps.zip vs) fun _ => none) s1) :
  Sat (cQ c l fd s.heap.objs.size a X) ((cQ c l fd s.heap.objs.size a X).N ++ X) (ps.zip ds) [] [] (A.deeper (callEnvC fd s.heap.objs.size a)) s s1 := by
 obtain ⟨h1, h2, h3, h4, h5, h6, h7⟩ := jC hok
 have hvl : vs.length = ds.length := r.length
 have hLs : (callEnvC fd s.heap.objs.size a).locals = s.heap.objs.size := rfl
 have hfr : (callEnvC fd s.heap.objs.size a).frame = some s.heap.objs.size := rfl
 have hks : ∀ y, (callEnvC fd s.heap.objs.size a).kindOf y = fd.scope.names.lookup y := fun y => rfl
 obtain ⟨hh, tk, rfl⟩ := x.toInCall.same
 have q0 : HX c [] s.heap hh := .cP x.toInCall.keep
 have q : HX (c.push s.heap.objs.size) [] s.heap hh := .cP x.toInCall.keep
 have hN : ∀ b ∈ (s.heap.objs.size :: fd.scope.names.filterMap (fun p => if p.2 = .cell then (callEnvC fd s.heap.objs.size a).cells.lookup p.1 else none) : List Addr), s.heap.get? b = none := fun b hb => by
  rcases lC hb with rfl | hb
  ·exact ak (Nat.le_refl _)
  ·obtain ⟨p, hp, e⟩ := List.mem_filterMap.mp hb
   split at e
   ·exact ak (Nat.le_of_lt (x.above p.1 b (PySem.mem_of_lookup e)))
   ·cases e
 have hbase : ∀ b, s.heap.get? b = none -> c.base.get? b = none := fun b e => by
  cases e' : c.base.get? b with
  | none => rfl
  | some o => rw [B.inBase e'] at e; cases e
 have hcl : ∀ y, (y, NameKind.cell) ∈ fd.scope.names -> ∃ b, (callEnvC fd s.heap.objs.size a).cells.lookup y = some b := fun y hy => by
  obtain ⟨b, e, _⟩ := gR (h := s.heap.push { cls := .type "frame", data := .dict #[] }) (acc := []) h1 hy
  rw [Heap.size_push] at e
  exact ⟨b, e⟩
 have hmem : ∀ y b, (callEnvC fd s.heap.objs.size a).cells.lookup y = some b -> (y, b) ∈ (callEnvC fd s.heap.objs.size a).cells := fun y b e => PySem.mem_of_lookup e
 have alive : ∀ b ∈ (s.heap.objs.size :: fd.scope.names.filterMap (fun p => if p.2 = .cell then (callEnvC fd s.heap.objs.size a).cells.lookup p.1 else none) : List Addr), ∃ o, hh.get? b = some o := fun b hb => by
  rcases lC hb with rfl | hb
  ·obtain ⟨o, e, _⟩ := gQ x.toInCall.ns
   exact ⟨o, e⟩
  ·obtain ⟨p, hp, e⟩ := List.mem_filterMap.mp hb
   split at e
   ·obtain ⟨o, e, _⟩ := cU (x.cell _ _ e)
    exact ⟨o, e⟩
   ·cases e
 have hin : ∀ y b, (callEnvC fd s.heap.objs.size a).cells.lookup y = some b -> b ∈ (s.heap.objs.size :: fd.scope.names.filterMap (fun p => if p.2 = .cell then (callEnvC fd s.heap.objs.size a).cells.lookup p.1 else none) : List Addr) := fun y b e => by
  by_cases hm : (y, NameKind.cell) ∈ fd.scope.names
  ·exact .tail _ (List.mem_filterMap.mpr ⟨(y, .cell), hm, by simpa using e⟩)
  ·have e' : (cellsFrom (s.heap.objs.size + 1) fd.scope.names []).lookup y = some b := e
   rw [eU hm] at e'
   cases e'
 exact
 {same := ⟨hh, tk⟩
  hx := q
  sub := fun b hb => lR _ hb
  own := fun b hb => ⟨lL _ hb, hN b hb⟩
  env := ⟨.head _, hin⟩
  good := {
   bas := {
    handled := B.handled
    below := by
     obtain ⟨outer, b, f⟩ := B.below
     refine ⟨_, ⟨Around.frames_deeper b.stack, q0.st b.stays, ?_⟩, fun env he L hL => ?_⟩
     ·exact .cons (by show fd.scope.kind ≠ .module; rw [h5]; decide) hfr x.toInCall.ns (hbase _ (ak (Nat.le_refl _))) (q0.frames f b.frames)
     ·rcases lC he with rfl | he
      ·rw [hfr] at hL; cases hL; exact .head _
      ·exact .tail _ (f env he L hL)
    alloc := fun b hb => (lA hb).elim (alive b) fun z => q0.alive (fun z => nomatch z) (B.alloc b z)
    frs := fun b hb => (lC hb).elim (fun e => e ▸ .head _) fun z => lR _ (B.frs b z) }
   kind := h5
   globals := F.glob
   builtins := F.blt
   cells := fun y hy => by
    rcases hy with hy | hy
    ·exact hcl y (mem_of_lookup ((hks y).symm.trans hy))
    ·exact absurd rfl (h2 _ (mem_of_lookup ((hks y).symm.trans hy)))
   inj := fun y z b e1 e2 => name_of_addr x.apart (hmem _ _ e1) (hmem _ _ e2)
   cal := fun y b e => ⟨_, x.cell _ _ e⟩
   vars := fun p hp => by
    obtain ⟨y, d⟩ := p
    obtain ⟨i, hi⟩ := List.getElem?_of_mem hp
    obtain ⟨e1, e2⟩ := List.getElem?_zip_eq_some.mp hi
    obtain ⟨v, hv, rv⟩ := r.get i e2
    have hm : (y, v) ∈ ps.zip vs := lG (List.getElem?_zip_eq_some.mpr ⟨e1, hv⟩)
    have hnd : ((ps.zip vs).map (·.1)).Nodup := by rw [List.map_fst_zip (by omega)]; exact h4
    refine ⟨v, ?_, (rv.wide fun b hb => (lA hb).elim (fun z => .inr (hN b z)) .inl).hx0 q fun b hb => (lC hb).elim (fun e => e ▸ .head _) fun z => lR _ (B.frs b z)⟩
    rcases j7 (h3 y (lG e1)) with hk | hk
    ·have hk' := (hks y).trans (mem_lookup h1 hk)
     exact .loc hk' x.toInCall.ns (pH hk' hnd hm)
    ·have hk' := (hks y).trans (mem_lookup h1 hk)
     obtain ⟨b, e⟩ := hcl y hk
     have := x.cell _ _ e
     rw [pI (by rw [hk']; decide) hnd hm] at this
     exact .cell hk' e this }
  tg := ⟨⟨_, x.toInCall.ns⟩, fun y hy => by
   rcases j7 hy with hk | hk
   ·exact ⟨_, .head _, .loc ((hks y).trans (mem_lookup h1 hk)) rfl x.toInCall.ns⟩
   ·obtain ⟨b, e⟩ := hcl y hk
    exact ⟨b, hin y b e, .cell ((hks y).trans (mem_lookup h1 hk)) e (x.cell _ _ e)⟩⟩
  names := fun p hp => nomatch hp
  res := fun r hr => nomatch hr
  fps := fun r hr => nomatch hr
  apart := .nil
  base := hbase
  lev := LA.deeper hl }
theorem mW {L : Addr} {f : Flow} (hLn : s.heap.get? L = none) (hp : Post (cQ c l fd L a X) A s (fun o => o = .ret d \/ (d = .none /\ ∃ Γ R Δ, o = .next Γ R Δ)) f s') : Yield c X s d (match (generalizing := false) f with | .ret v => v | _ => .none) s' := by
 cases f with
 | next =>
  obtain ⟨X', Γ, R, Δ, o, S'⟩ := hp
  rcases o with o | ⟨rfl, _⟩
  ·cases o
  ·obtain ⟨h', tk⟩ := S'.same
   exact ⟨⟨h', tk, S'.hx.pop hLn⟩, .none⟩
 | brk => obtain ⟨X', Γ, R, Δ, o, S'⟩ := hp; rcases o with o | ⟨_, Γ, R, Δ, o⟩ <;> cases o
 | cont => obtain ⟨X', Γ, R, Δ, o, S'⟩ := hp; rcases o with o | ⟨_, Γ, R, Δ, o⟩ <;> cases o
 | ret v =>
  obtain ⟨d', o, ⟨X', Δ', S', _⟩, rv⟩ := hp
  rcases o with o | ⟨_, Γ, R, Δ, o⟩
  ·cases o
   obtain ⟨h', tk⟩ := S'.same
   exact ⟨⟨h', tk, S'.hx.pop hLn⟩, rv⟩
  ·cases o
theorem Al {ps : List Str} (F : FnAt c a fd body) (hok : fG fd.scope ps = true) (hlen : ps.length = ds.length) (hl : l < 60) (hbind : ∀ vs : List Value, vs.length = ps.length -> bindArgs fd ⟨vs, []⟩ = pure (ps.zip vs))
  (h : ∀ (A : Around) (s0 : Shared) (L : Addr) (X : List Addr), dg (cQ c l fd L a X) s0 -> (∃ outer, A.frames = some ((cQ c l fd L a X).env :: outer)) -> Ex (cQ c l fd L a X) A s0 NoE (ps.zip ds) [] [] body fun o => o = .ret d \/ (d = .none /\ ∃ Γ R Δ, o = .next Γ R Δ)) : aO c l (.ref a) ds d := fun A X s vs LA B r => by
 obtain ⟨o, ho, hd⟩ := F.at_
 have hvl : vs.length = ps.length := by rw [r.length, hlen]
 have hok' := hok
 obtain ⟨h1, h2, h3, h4, h5, h6, h7⟩ := jC hok
 have st := B.stays
 refine wpAny_call (codeAny_call_cells (binds := ps.zip vs) (by have := LA.depth; show A.depth < 1000; omega) (st a o ho) hd (F.lim.keeps st) (F.code.keeps st) F.body (hbind vs hvl) F.clo (fun y hy => ?_) (fun s1 x => ?_) h6 h7 h5)
 ·have hy' : y.1 ∈ ps := by
   have := lM (f := (·.1)) hy
   rw [List.map_fst_zip (by omega)] at this
   exact this
  rcases j7 (h3 _ hy') with hk | hk
  ·exact .inl (mem_lookup h1 hk)
  ·obtain ⟨b, e, _⟩ := gR (h := s.heap.push { cls := .type "frame", data := .dict #[] }) (acc := []) h1 hk
   rw [Heap.size_push] at e
   exact .inr ⟨mem_lookup h1 hk, by rw [e]; rfl⟩
 ·have S := enter F hok' hlen hl LA B r x
  refine wM (h _ s s.heap.objs.size X B.alloc (let ⟨o, b, _⟩ := B.below; ⟨o, Around.frames_deeper b.stack⟩) s1 _ S) (fun f s' hp => ?_) fun _ _ f => f.elim
  exact mW (ak (Nat.le_refl _)) hp
noncomputable def mX (l : List α) (lo hi st : Option Int) : List α :=
 (sliceRange (sliceBounds lo hi st l.length).1 (sliceBounds lo hi st l.length).2.1 (sliceBounds lo hi st l.length).2.2).filterMap (l[·]?)
section
variable {E : Err}
theorem RdL.places (r : RdL c.w X h vs ds) (is : List Nat) : RdL c.w X h (is.filterMap (vs[·]?)) (is.filterMap (ds[·]?)) := by
 induction is with
 | nil => exact .nil
 | cons i is ih =>
  rw [List.filterMap_cons, List.filterMap_cons]
  cases hd : ds[i]? with
  | none =>
   have : vs[i]? = none := by rw [List.getElem?_eq_none_iff] at hd ⊢; rw [r.length]; exact hd
   rw [this]
   exact ih
  | some d =>
   obtain ⟨v, hv, rv⟩ := r.get i hd
   rw [hv]
   exact .cons rv ih
inductive EvP (c : Cfg) (l : Nat) (X : List Addr) (env : Env) (Γ : Gam) : Option Expr -> Option Int -> Prop
 | none : EvP c l X env Γ none none
 | some {e : Expr} {i : Int} (h : Ev c l X env Γ e (.int i)) : EvP c l X env Γ (some e) (some i)
theorem EvP.use {x : Option Expr} {o : Option Int} (h : EvP c l X env Γ x o) (L : Lev l A) (G : Good c A X env Γ s.heap) {Q : Value -> Shared -> Prop} (k : ∀ v s', Pst c s s' -> IsPart v o -> Good c A X env Γ s'.heap -> Q v s') : wpAny c.M A (evalPart x env) Q E s := by
 cases h with
 | none => exact wP (k _ _ .refl .none G)
 | some h => exact h.use L G fun v s' p r G' => k v s' p (by have hz := r.int_inv; clear r; obtain ⟨t⟩ := hz; exact .int _ _) G'
theorem ssNo {lower upper step : Option Expr} : ∃ ops : Value -> Value -> List Value, ∀ o i, subscripted (.Slice lower upper step p) false o i = operate (ops o i) (getItem o i) := by
 cases step with
 | none => exact ⟨fun o i => [i, o], fun _ _ => rfl⟩
 | some _ => exact ⟨fun o i => [o, i], fun _ _ => rfl⟩
theorem Ev.slice {lower upper step : Option Expr} {lo hi st : Option Int} (h1 : Ev c l X env Γ value (.list ds)) (hl : EvP c l X env Γ lower lo) (hu : EvP c l X env Γ upper hi) (hs : EvP c l X env Γ step st) (h0 : st ≠ some 0) (hz : ds.length <= 10 ^ 6)
  (ht : autoParam (∀ o r, letTemporaryGo value o r = pure ()) aU) :
  Ev c l X env Γ (.Subscript value (.Slice lower upper step p) pos) (.list (mX ds lo hi st)) := fun A s L G => by
 refine Subscript_ (h1.use L G fun v1 s1 p1 r1 G1 => wpAny_Slice (hl.use L G1 fun vl s2 p2 i2 G2 => hu.use L G2 fun vu s3 p3 i3 G3 => hs.use L G3 fun vk s4 p4 i4 G4 => ?_))
 have r4 := r1.hx0 ((p2.trans p3).trans p4).hx G.bas.frs
 have hz := r4.aQ; clear r4; obtain ⟨ax, vs, n, ha, ea, q⟩ := hz
 obtain ⟨ops, hss⟩ := ssNo (lower := lower) (upper := upper) (step := step) (p := p)
 have hL : s4.heap.IsList ax vs.toArray := ⟨_, ea, rfl, _, rfl⟩
 refine subscriptTail_ops (Heap.IsList.typeIs (s := { s4 with heap := s4.heap.push { cls := .type "slice", data := .fields #[vl, vu, vk] } }) (hL.push _)) list_getitem_lookup
  (wpAny_getItem_list_slice (hL.push _) (Heap.IsSliceOf.new ..) i2 i3 i4 h0 ?_ (by simp [q.length, sizeLine_eq]; omega)) (hss _ _) (ht _)
 have e : slicePick vs.toArray lo hi st = ((sliceRange (sliceBounds lo hi st ds.length).1 (sliceBounds lo hi st ds.length).2.1 (sliceBounds lo hi st ds.length).2.2).filterMap (vs[·]?)).toArray := by
  simp [slicePick, q.length]
 have q1 : HX c [] s4.heap (s4.heap.push { cls := .type "slice", data := .fields #[vl, vu, vk] }) := .push _ _
 refine ⟨(((p1.trans p2).trans p3).trans p4).trans ⟨_, s4.toks, q1.trans (.push _ _)⟩, ?_⟩
 rw [e]
 exact Rd.newList (c := c) (s := { s4 with heap := s4.heap.push { cls := .type "slice", data := .fields #[vl, vu, vk] } }) G.bas.frs (fun a h => q1.alive (fun z => nomatch z) (G4.bas.alloc a h)) ((q.places _).hx0 q1 G.bas.frs)
theorem aO.Fg (hz : ds.length <= 2 ^ 40) : aO c l (.builtin "len") [.list ds] (.int ds.length) := fun A X s vs L B r => by
 have hz := r.bO; clear r; obtain ⟨_, r⟩ := hz
 have hz := r.aQ; clear r; obtain ⟨_, _, _, ha, e, q⟩ := hz
 refine call_len_list ⟨_, e, rfl, _, rfl⟩ (by simp [q.length]; omega) ?_
 refine ⟨.tk, ?_⟩
 simp only [List.size_toArray, q.length]
 exact .int _ _
theorem aO.int {i : Int} : aO c l (.type "int") [.int i] (.int i) := fun A X s vs L B r => by
 have hz := r.bO; clear r; obtain ⟨_, r⟩ := hz
 have hz := r.int_inv; clear r; obtain ⟨t⟩ := hz
 exact call_int_int ⟨.refl, .int _ _⟩
theorem RdL.ints {ns : List Int} : ∀ {vs : List Value}, RdL c.w X h vs (ns.map .int) -> IntsAre vs ns := by
 induction ns with
 | nil => intro vs r; cases r.nil_inv; exact .nil
 | cons n ns ih =>
  intro vs r
  obtain ⟨v, us, a, q⟩ := r.cons_inv
  obtain ⟨t⟩ := a.int_inv
  exact .cons _ _ (ih q)
theorem aO.sum {ns : List Int} : aO c l (.builtin "sum") [.list (ns.map .int)] (.int ns.sum) := fun A X s vs L B r => by
 have hz := r.bO; clear r; obtain ⟨_, r⟩ := hz
 have hz := r.aQ; clear r; obtain ⟨_, _, _, ha, e, q⟩ := hz
 have hi := q.ints
 obtain ⟨xs, hx⟩ := hi.allInts.items
 have hl' : s.heap.IsList _ (intItems xs) := hx ▸ (show s.heap.IsList _ _ from ⟨_, e, rfl, _, rfl⟩)
 refine sum_intListG B.handled hl' fun h' tk t' hk => ?_
 have e1 : ns = xs.toList.map (·.1) := by
  rw [<- nums_intItems, <- hx]
  exact hi.numsOf.symm
 have e2 : preSum (numAt xs) xs.size = ns.sum := by
  rw [preSum_eq, List.take_of_length_le (by simp), e1]
 rw [e2]
 exact ⟨⟨h', tk, .cP hk⟩, .int _ _⟩
theorem P2.Fi {es : List PyData} (hz : ds.length + es.length <= 10 ^ 6) : P2 c (binaryOp .Add) (.list ds) (.list es) (.list (ds ++ es)) := fun l A X s v1 v2 L B r1 r2 => by
 have hz := r1.aQ; clear r1; obtain ⟨a, vs, n, ha, ea, q⟩ := hz
 have hz := r2.aQ; clear r2; obtain ⟨b, ws, m, hb, eb, p⟩ := hz
 refine PySem.P.add_list ea eb ?_ (by simp [q.length, p.length, sizeLine_eq]; omega)
 rw [List.append_toArray]
 exact ⟨.fH, Rd.newList (c := c) B.frs B.alloc (q.append p)⟩
end
variable {slice : Expr} {use : Option (Value -> Sem Unit)}
structure Wd (c : Cfg) (p : Program) (loose : List Str) (mg mb : Str -> Option Value) : Prop where
 sys : sysModules ∈ c.fr
 g : c.base.Ns mainGlobals mg
 b : c.base.Ns builtinsNs mb
 builtins : ∀ x : Str, x ≠ "__name__" -> mb x = bootBuiltins x
 free : ∀ x, x ∉ startupNames -> x ∉ loose -> x ∉ (recsOf p).map (·.name) -> x ∉ (litsOf p).map (·.1) -> x ∉ (clssOf p loose).map (·.name) -> mg x = none
 fn : ∀ d ∈ recsOf p, ∃ a pm code doc, mg d.name = some (.ref a) /\ FnAt c a (docDef d.name d.params d.body d.scope pm code doc) d.body
theorem Wd.push {p : Program} {loose : List Str} {mg mb : Str -> Option Value} (W : Wd c p loose mg mb) (L : Addr) : Wd (c.push L) p loose mg mb :=
 ⟨.tail _ W.sys, W.g, W.b, W.builtins, W.free, fun d hd => let ⟨a, pm, code, doc, h, F⟩ := W.fn d hd; ⟨a, pm, code, doc, h, ⟨F.at_, F.code, F.lim, F.body, F.clo, F.glob, F.blt⟩⟩⟩
theorem mY {x : Str} {mg : Str -> Option Value} (hg : c.base.Ns mainGlobals mg) (hv : mg x = some v) : Glb c x v := fun A E s env Q st e1 e2 hk hx h => by
 rw [loadName_read hk hx]
 exact Calls.loadGlobal_global (e1 ▸ hg.keeps st) hv h
theorem Kw {x : Str} {mg mb : Str -> Option Value} (hg : c.base.Ns mainGlobals mg) (hmiss : mg x = none) (hb : c.base.Ns builtinsNs mb) (hv : mb x = some v) : Glb c x v := fun A E s env Q st e1 e2 hk hx h => by
 rw [loadName_read hk hx]
 exact Calls.loadGlobal_builtin (e1 ▸ hg.keeps st) hmiss (e2 ▸ hb.keeps st) hv h
theorem Wd.blt {p : Program} {loose : List Str} {mg mb : Str -> Option Value} (W : Wd c p loose mg mb) {x : Str} {v : Value} (hv : bootBuiltins x = some v)
  (hno : decide (x ∉ startupNames /\ x ∉ loose /\ x ∉ (recsOf p).map (·.name) /\ x ∉ (litsOf p).map (·.1) /\ x ∉ (clssOf p loose).map (·.name) /\ x ≠ "__name__") = true) : Glb c x v := by
 obtain ⟨h1, h2, h3, h4, h5, h6⟩ := of_decide_eq_true hno
 exact Kw W.g (W.free x h1 h2 h3 h4 h5) W.b ((W.builtins x h6).trans hv)
noncomputable def Fn (c : Cfg) (l : Nat) (f : Str) (ds : List PyData) (d : PyData) : Prop := ∃ v, Glb c f v /\ gO c v /\ aO c l v ds d
theorem Fn.of {f : Str} (g : Glb c f (.builtin id)) (h : aO c l (.builtin id) ds d) : Fn c l f ds d := ⟨_, g, jy, h⟩
theorem Fn.ofT {f : Str} (g : Glb c f (.type id)) (h : aO c l (.type id) ds d) : Fn c l f ds d := ⟨_, g, dJ, h⟩
theorem Ev.bN {f : Str} {es : List Expr} (h : Fn c l f ds d) (ha : EvA c l X env Γ pos (e :: es) ds) (hf : autoParam (env.kindOf f = some .globalImplicit) aR)
  (hd : autoParam ((f == ("__debug__" : Str)) = false) aD) (he : autoParam (starEach (e :: es) env = (false, eval e env) :: starEach es env) aR) (hp : autoParam ((backTo pos (starEach es env)).any (·.1) = false) aR) :
  Ev c l X env Γ (.Call (.Name f np) (e :: es) [] pos) d := by
 obtain ⟨v, g, k, h⟩ := h
 exact Ev.call g hf k ha h hd he hp
noncomputable abbrev fdOf (d : DefRec) (pm code doc : Value) : FuncData := docDef d.name d.params d.body d.scope pm code doc
theorem Wd.call {p : Program} {loose : List Str} {mg mb : Str -> Option Value} (W : Wd c p loose mg mb) (d : DefRec) (hd : d ∈ recsOf p) {ds : List PyData} {r : PyData} (ps : List Str) (hok : fG d.scope ps = true) (hlen : ps.length = ds.length) (hl : l < 60)
  (hbind : ∀ (pm code doc : Value) (vs : List Value), vs.length = ps.length -> bindArgs (fdOf d pm code doc) ⟨vs, []⟩ = pure (ps.zip vs))
  (h : ∀ (A : Around) (s0 : Shared) (a L : Addr) (X : List Addr) (pm code doc : Value), dg (cQ c l (fdOf d pm code doc) L a X) s0 -> (∃ outer, A.frames = some ((cQ c l (fdOf d pm code doc) L a X).env :: outer)) -> Ex (cQ c l (fdOf d pm code doc) L a X) A s0 NoE (ps.zip ds) [] [] d.body fun o => o = .ret r \/ (r = .none /\ ∃ Γ R Δ, o = .next Γ R Δ)) : Fn c l d.name ds r := by
 obtain ⟨a, pm, code, doc, hm, F⟩ := W.fn d hd
 obtain ⟨o, ho, hdat⟩ := F.at_
 exact ⟨.ref a, mY W.g hm, qI ho hdat, Al F hok hlen hl (fun vs hv => hbind pm code doc vs hv) fun A s0 L X hX hA => h A s0 a L X pm code doc hX hA⟩
theorem bind1 {p : Str} (h : ∀ a, bindArgs fd ⟨[a], []⟩ = pure [(p, a)]) (vs : List Value) (hv : vs.length = [p].length) : bindArgs fd ⟨vs, []⟩ = pure ([p].zip vs) := by
 obtain ⟨a, rfl⟩ := List.length_eq_one_iff.mp hv
 exact h a
theorem rZ {p q : Str} (h : ∀ a b, bindArgs fd ⟨[a, b], []⟩ = pure [(p, a), (q, b)]) (vs : List Value) (hv : vs.length = [p, q].length) : bindArgs fd ⟨vs, []⟩ = pure ([p, q].zip vs) := by
 obtain ⟨a, b, rfl⟩ := mz hv
 exact h a b
theorem Kz {p q r : Str} (h : ∀ a b c, bindArgs fd ⟨[a, b, c], []⟩ = pure [(p, a), (q, b), (r, c)]) (vs : List Value) (hv : vs.length = [p, q, r].length) : bindArgs fd ⟨vs, []⟩ = pure ([p, q, r].zip vs) := by
 obtain ⟨a, t, rfl⟩ := List.exists_cons_of_length_eq_add_one hv
 obtain ⟨b, c, rfl⟩ := mz (Nat.succ.inj hv)
 exact h a b c
theorem KC {p q r t : Str} (h : ∀ a b c d, bindArgs fd ⟨[a, b, c, d], []⟩ = pure [(p, a), (q, b), (r, c), (t, d)]) (vs : List Value) (hv : vs.length = [p, q, r, t].length) : bindArgs fd ⟨vs, []⟩ = pure ([p, q, r, t].zip vs) := by
 obtain ⟨a, u, rfl⟩ := List.exists_cons_of_length_eq_add_one hv
 obtain ⟨b, u, rfl⟩ := List.exists_cons_of_length_eq_add_one (Nat.succ.inj hv)
 obtain ⟨c, d, rfl⟩ := mz (Nat.succ.inj (Nat.succ.inj hv))
 exact h a b c d
section
open Classical in
noncomputable def aW (L : List α) (g : α -> PyData) (f : α -> β) (z : β) (d : PyData) : β := if h : ∃ a, a ∈ L /\ g a = d then f h.choose else z
theorem bI {L : List α} {g : α -> PyData} {f : α -> β} {z : β} (hg : ∀ a ∈ L, ∀ b ∈ L, g a = g b -> f a = f b) {a : α} (ha : a ∈ L) : aW L g f z (g a) = f a := by
 unfold aW
 have h : ∃ b, b ∈ L /\ g b = g a := ⟨a, ha, rfl⟩
 rw [dif_pos h]
 exact hg _ h.choose_spec.1 _ ha h.choose_spec.2
theorem jD {L : List α} {g : α -> PyData} {bs : α -> Bool} {f : α -> β} {F : PyData -> β} (hb : ∀ a ∈ L, BS (g a) = bs a) (hf : ∀ a ∈ L, F (g a) = f a) : ((L.map g).filter BS).map F = (L.filter bs).map f := by
 induction L with
 | nil => rfl
 | cons a L ih =>
  have ih' := ih (fun x hx => hb x (.tail _ hx)) (fun x hx => hf x (.tail _ hx))
  rw [List.map_cons, List.filter_cons, List.filter_cons, hb a (.head _)]
  split
  ·rw [List.map_cons, List.map_cons, ih', hf a (.head _)]
  ·exact ih'
theorem pJ {L : List α} {g : α -> PyData} {bs : α -> Bool} {f : α -> List β} {F : PyData -> List β} (hb : ∀ a ∈ L, BS (g a) = bs a) (hf : ∀ a ∈ L, F (g a) = f a) : ((L.map g).filter BS).flatMap F = (L.filter bs).flatMap f := by
 induction L with
 | nil => rfl
 | cons a L ih =>
  have ih' := ih (fun x hx => hb x (.tail _ hx)) (fun x hx => hf x (.tail _ hx))
  rw [List.map_cons, List.filter_cons, List.filter_cons, hb a (.head _)]
  split
  ·rw [List.flatMap_cons, List.flatMap_cons, ih', hf a (.head _)]
  ·exact ih'
structure TB (pair : Bool) (tg : Expr) (xs : List Str) (g : α -> PyData) (Γd : α -> Gam) : Prop where
 bind : ∀ a, fJ pair tg (g a) xs (Γd a)
 inj : ∀ a b, g a = g b -> a = b
 ok : TgI pair tg
theorem TB.name {x : Str} {g : α -> PyData} (hg : ∀ a b, g a = g b -> a = b) (hd : autoParam ((x == ("__debug__" : Str)) = false) aK) : TB false (.Name x p) [x] g (fun a => [(x, g a)]) := ⟨fun a => .name hd, hg, .name⟩
theorem TB.pair {a b : Str} {pa pb : Pos} {k : Nat} (h1 : ∀ a b, g1 a = g1 b -> a = b) (h2 : ∀ a b, g2 a = g2 b -> a = b) (hab : autoParam ((b != a) = true) aK) :
  TB true (.Tuple [.Name a pa, .Name b pb] k p) [a, b] (fun z : α × β => .tuple [g1 z.1, g2 z.2]) (fun z => [(b, g2 z.2), (a, g1 z.1)]) :=
 ⟨fun z => .pair hab, fun z w e => by
  have e' : g1 z.1 = g1 w.1 /\ g2 z.2 = g2 w.2 := by
   injection e with e
   injection e with e1 e
   injection e with e2 _
   exact ⟨e1, e2⟩
  exact Prod.ext (h1 _ _ e'.1) (h2 _ _ e'.2), .tuple⟩
theorem f9 : ∀ a b : Int, PyData.int a = .int b -> a = b := fun a b h => by injection h
theorem gb : ∀ a b : Nat, PyData.int (a : Nat) = .int (b : Nat) -> a = b := fun a b h => by
 injection h with h
 exact Int.ofNat.inj h
theorem bV : ∀ a b : Str, PyData.str a = .str b -> a = b := fun a b h => by injection h
theorem Fj {g : α -> PyData} (h : ∀ a b, g a = g b -> a = b) (a b : List α) (e : a.map g = b.map g) : a = b := (List.map_inj_right h).mp e
theorem jE {g : α -> PyData} (h : ∀ a b, g a = g b -> a = b) : ∀ a b : List α, PyData.list (a.map g) = .list (b.map g) -> a = b := fun a b e => by
 injection e with e
 exact Fj h a b e
theorem EvC.comp {L : List α} {g : α -> PyData} {pair : Bool} {xs : List Str} {Γd : α -> Gam} (bs : α -> Bool) (f : α -> PyData)
  (T : TB pair tg xs g Γd) (hI : EvI c l X env Γ pair iter (L.map g)) (hs : fY env scope) (hc : Cap env scope Γ Γc) (hxs : ∀ x ∈ xs, scope.names.lookup x = some .local \/ scope.names.lookup x = some .cell) (ho : fZ xs Γc)
  (ht : ∀ cs C XL, ∀ a ∈ L, jm c l XL (aq scope cs C env) (Γd a ++ Γc) ifs (bs a))
  (he : ∀ cs C XL, ∀ a ∈ L, bs a = true -> Ev c l XL (aq scope cs C env) (Γd a ++ Γc) elt (f a)) (hz : L.length <= 10 ^ 6) (hfold : autoParam (∀ x, foldedSetIterable iter env x = pure x) aI) :
  EvC c l X env Γ (.ListComp elt [⟨tg, iter, ifs, 0⟩] scope pos) (.list ((L.filter bs).map f)) := by
 have e1 : ∀ a ∈ L, aW L g Γd [] (g a) = Γd a := fun a ha => bI (fun x _ y _ e => by rw [T.inj _ _ e]) ha
 have e2 : ∀ a ∈ L, aW L g bs false (g a) = bs a := fun a ha => bI (fun x _ y _ e => by rw [T.inj _ _ e]) ha
 have e3 : ∀ a ∈ L, aW L g f .none (g a) = f a := fun a ha => bI (fun x _ y _ e => by rw [T.inj _ _ e]) ha
 have := EvC.Ad (elt := elt) (ifs := ifs) (pos := pos) (aW L g bs false) (aW L g f .none) (Γd := aW L g Γd []) hI (fun d hd => ?_) hs hc hxs ho (fun cs C XL d hd => ?_) (fun cs C XL d hd hb => ?_) (by simpa using hz) T.ok hfold
 ·rw [jD e2 e3] at this
  exact this
 all_goals
  obtain ⟨a, ha⟩ := bx hd
 ·rw [e1 a ha]; exact T.bind a
 ·rw [e1 a ha, e2 a ha]; exact ht cs C XL a ha
 ·rw [e1 a ha, e3 a ha]; exact he cs C XL a ha (e2 a ha ▸ hb)
theorem EvC.KD {L : List α} {g : α -> PyData} {M : α -> List β} {k : β -> PyData} {tg2 : Expr} {pair pair2 : Bool} {xs xs2 : List Str} {Γd : α -> Gam} {Γd2 : β -> Gam} (bs : α -> Bool) (bs2 : α -> β -> Bool) (f : α -> β -> PyData)
  (T : TB pair tg xs g Γd) (T2 : TB pair2 tg2 xs2 k Γd2) (hI : EvI c l X env Γ pair iter (L.map g)) (hs : fY env scope) (hc : Cap env scope Γ Γc) (hxs : ∀ x ∈ xs ++ xs2, scope.names.lookup x = some .local \/ scope.names.lookup x = some .cell) (ho : fZ xs Γc)
  (ht : ∀ cs C XL, ∀ a ∈ L, jm c l XL (aq scope cs C env) (Γd a ++ Γc) ifs (bs a))
  (hI2 : ∀ cs C XL, ∀ a ∈ L, bs a = true -> EvI c l XL (aq scope cs C env) (Γd a ++ Γc) pair2 iter2 ((M a).map k)) (ho2 : ∀ a ∈ L, fZ xs2 (Γd a ++ Γc))
  (ht2 : ∀ cs C XL, ∀ a ∈ L, bs a = true -> ∀ b ∈ M a, jm c l XL (aq scope cs C env) (Γd2 b ++ (Γd a ++ Γc)) ifs2 (bs2 a b))
  (he : ∀ cs C XL, ∀ a ∈ L, bs a = true -> ∀ b ∈ M a, bs2 a b = true -> Ev c l XL (aq scope cs C env) (Γd2 b ++ (Γd a ++ Γc)) elt (f a b))
  (hz : ((L.filter bs).flatMap M).length <= 10 ^ 6) (hfold : autoParam (∀ x, foldedSetIterable iter env x = pure x) aI) (hfold2 : autoParam (∀ cs C x, foldedSetIterable iter2 (aq scope cs C env) x = pure x) aI) :
  EvC c l X env Γ (.ListComp elt [⟨tg, iter, ifs, 0⟩, ⟨tg2, iter2, ifs2, 0⟩] scope pos) (.list ((L.filter bs).flatMap fun a => ((M a).filter (bs2 a)).map (f a))) := by
 have e1 : ∀ a ∈ L, aW L g Γd [] (g a) = Γd a := fun a ha => bI (fun x _ y _ e => by rw [T.inj _ _ e]) ha
 have e2 : ∀ a ∈ L, aW L g bs false (g a) = bs a := fun a ha => bI (fun x _ y _ e => by rw [T.inj _ _ e]) ha
 have e4 : ∀ a ∈ L, aW L g (fun a => (M a).map k) [] (g a) = (M a).map k := fun a ha => bI (fun x _ y _ e => by rw [T.inj _ _ e]) ha
 have e5 : ∀ a ∈ L, aW L g (fun a => aW (M a) k Γd2 []) (fun _ => []) (g a) = aW (M a) k Γd2 [] := fun a ha => bI (f := fun a => aW (M a) k Γd2 []) (fun x _ y _ e => by rw [T.inj _ _ e]) ha
 have e6 : ∀ a ∈ L, aW L g (fun a => aW (M a) k (bs2 a) false) (fun _ => false) (g a) = aW (M a) k (bs2 a) false := fun a ha => bI (f := fun a => aW (M a) k (bs2 a) false) (fun x _ y _ e => by rw [T.inj _ _ e]) ha
 have e7 : ∀ a ∈ L, aW L g (fun a => aW (M a) k (f a) .none) (fun _ => .none) (g a) = aW (M a) k (f a) .none := fun a ha => bI (f := fun a => aW (M a) k (f a) .none) (fun x _ y _ e => by rw [T.inj _ _ e]) ha
 have d5 : ∀ a, ∀ b ∈ M a, aW (M a) k Γd2 [] (k b) = Γd2 b := fun a b hb => bI (fun x _ y _ e => by rw [T2.inj _ _ e]) hb
 have d6 : ∀ a, ∀ b ∈ M a, aW (M a) k (bs2 a) false (k b) = bs2 a b := fun a b hb => bI (fun x _ y _ e => by rw [T2.inj _ _ e]) hb
 have d7 : ∀ a, ∀ b ∈ M a, aW (M a) k (f a) .none (k b) = f a b := fun a b hb => bI (fun x _ y _ e => by rw [T2.inj _ _ e]) hb
 have hz' : (((L.map g).filter (aW L g bs false)).flatMap (aW L g (fun a => (M a).map k) [])).length <= 10 ^ 6 := by
  rw [pJ (f := fun a => (M a).map k) e2 e4]
  simpa [List.length_flatMap] using hz
 have := EvC.yr (elt := elt) (ifs := ifs) (ifs2 := ifs2) (pos := pos) (aW L g bs false) (aW L g (fun a => (M a).map k) []) (aW L g (fun a => aW (M a) k (bs2 a) false) (fun _ => false)) (aW L g (fun a => aW (M a) k (f a) .none) (fun _ => .none))
  (Γd := aW L g Γd []) (Γd2 := aW L g (fun a => aW (M a) k Γd2 []) (fun _ => [])) (xs2 := xs2) (pair2 := pair2) hI (fun d hd => ?_) hs hc hxs ho (fun cs C XL d hd => ?_) (fun cs C XL d hd hb => ?_) (fun d hd hb e he' => ?_) (fun d hd => ?_) (fun cs C XL d hd hb e he' => ?_) (fun cs C XL d hd hb e he' hb2 => ?_) hz' T.ok T2.ok hfold hfold2
 ·rw [pJ (f := fun a => ((M a).filter (bs2 a)).map (f a)) e2 (fun a ha => ?_)] at this
  ·exact this
  ·rw [e4 a ha, e6 a ha, e7 a ha]
   exact jD (d6 a) (d7 a)
 all_goals
  obtain ⟨a, ha⟩ := bx hd
 ·rw [e1 a ha]; exact T.bind a
 ·rw [e1 a ha, e2 a ha]; exact ht cs C XL a ha
 ·rw [e1 a ha, e4 a ha]; exact hI2 cs C XL a ha (e2 a ha ▸ hb)
 ·rw [e4 a ha] at he'
  obtain ⟨b, hbm⟩ := bx he'
  rw [e5 a ha, d5 a b hbm]; exact T2.bind b
 ·rw [e1 a ha]; exact ho2 a ha
 ·rw [e4 a ha] at he'
  obtain ⟨b, hbm⟩ := bx he'
  rw [e1 a ha, e5 a ha, d5 a b hbm, e6 a ha, d6 a b hbm]; exact ht2 cs C XL a ha (e2 a ha ▸ hb) b hbm
 ·rw [e4 a ha] at he'
  obtain ⟨b, hbm⟩ := bx he'
  rw [e6 a ha, d6 a b hbm] at hb2
  rw [e1 a ha, e5 a ha, d5 a b hbm, e7 a ha, d7 a b hbm]; exact he cs C XL a ha (e2 a ha ▸ hb) b hbm hb2
theorem EvC.KH {K : Type} [DecidableEq K] (dk : bh c.w K) (k0 : K) {L : List α} {g : α -> PyData} {Γc : Gam} {kx vx tg iter : Expr} {ifs : List Expr} {scope : Scope} {pos : Pos} {pair : Bool} {xs : List Str} {Γd : α -> Gam} (bs : α -> Bool) (kf : α -> K) (f : α -> PyData)
  (T : TB pair tg xs g Γd) (hI : EvI c l X env Γ pair iter (L.map g)) (hs : fY env scope) (hc : Cap env scope Γ Γc) (hxs : ∀ x ∈ xs, scope.names.lookup x = some .local \/ scope.names.lookup x = some .cell) (ho : fZ xs Γc)
  (ht : ∀ cs C XL, ∀ a ∈ L, jm c l XL (aq scope cs C env) (Γd a ++ Γc) ifs (bs a))
  (hek : ∀ cs C XL, ∀ a ∈ L, bs a = true -> Ev c l XL (aq scope cs C env) (Γd a ++ Γc) kx (dk.enc (kf a)))
  (hev : ∀ cs C XL, ∀ a ∈ L, bs a = true -> Ev c l XL (aq scope cs C env) (Γd a ++ Γc) vx (f a)) (hz : L.length <= 10 ^ 6) (hn : ((L.filter bs).map kf).Nodup) (hfold : autoParam (∀ x, foldedSetIterable iter env x = pure x) aI) :
  EvC c l X env Γ (.DictComp kx vx [⟨tg, iter, ifs, 0⟩] scope pos) (.dict ((L.filter bs).map fun a => (dk.enc (kf a), f a))) := by
 have e1 : ∀ a ∈ L, aW L g Γd [] (g a) = Γd a := fun a ha => bI (fun x _ y _ e => by rw [T.inj _ _ e]) ha
 have e2 : ∀ a ∈ L, aW L g bs false (g a) = bs a := fun a ha => bI (fun x _ y _ e => by rw [T.inj _ _ e]) ha
 have e3 : ∀ a ∈ L, aW L g f .none (g a) = f a := fun a ha => bI (fun x _ y _ e => by rw [T.inj _ _ e]) ha
 have e4 : ∀ a ∈ L, aW L g kf k0 (g a) = kf a := fun a ha => bI (fun x _ y _ e => by rw [T.inj _ _ e]) ha
 have := EvC.Ag dk (kx := kx) (vx := vx) (ifs := ifs) (pos := pos) (aW L g bs false) (aW L g kf k0) (aW L g f .none) (Γd := aW L g Γd []) hI (fun d hd => ?_) hs hc hxs ho (fun cs C XL d hd => ?_) (fun cs C XL d hd hb => ?_) (fun cs C XL d hd hb => ?_) (by simpa using hz)
  (by rw [jD e2 e4]; exact hn) T.ok hfold
 ·rw [jD (f := fun a => (dk.enc (kf a), f a)) e2 (fun a ha => by rw [e3 a ha, e4 a ha])] at this
  exact this
 all_goals
  obtain ⟨a, ha⟩ := bx hd
 ·rw [e1 a ha]; exact T.bind a
 ·rw [e1 a ha, e2 a ha]; exact ht cs C XL a ha
 ·rw [e1 a ha, e4 a ha]; exact hek cs C XL a ha (e2 a ha ▸ hb)
 ·rw [e1 a ha, e3 a ha]; exact hev cs C XL a ha (e2 a ha ▸ hb)
end
variable {pair : Bool}
noncomputable def scB (env : Env) (scope : Scope) : Bool := scope.kind == .function && decide (scope.names.map (·.1)).Nodup && scope.names.all fun p => p.2 != .free || (env.kindOf p.1 == some .cell || env.kindOf p.1 == some .free)
theorem fY.of (h : scB env scope = true) : fY env scope := by
 unfold scB at h
 simp only [Bool.and_eq_true, Bool.or_eq_true, decide_eq_true_eq, List.all_eq_true, bne_iff_ne, ne_eq, beq_iff_eq] at h
 obtain ⟨⟨h1, h2⟩, h3⟩ := h
 refine ⟨h1, h2, fun p hp hf => ?_⟩
 rcases h3 p hp with q | q
 ·exact absurd hf q
 ·exact q
noncomputable def KJ (env : Env) (scope : Scope) (x : Str) : Bool := scope.names.lookup x == some .free && !(x == ("__classdict__" : Str)) && (env.kindOf x == some .cell || env.kindOf x == some .free)
theorem Cap.nil : Cap env scope Γ [] := fun p hp => nomatch hp
theorem Cap.cons {x : Str} (hm : (x, d) ∈ Γ) (hc : Cap env scope Γ Γc) (h : autoParam (KJ env scope x = true) aK) : Cap env scope Γ ((x, d) :: Γc) := fun p hp => by
 rcases lC hp with rfl | hp
 ·unfold KJ at h
  simp only [Bool.and_eq_true, Bool.or_eq_true, beq_iff_eq, Bool.not_eq_true'] at h
  exact ⟨hm, h.1.1, h.1.2, h.2⟩
 ·exact hc p hp
noncomputable def tgB (scope : Scope) (xs : List Str) : Bool := xs.all fun x => scope.names.lookup x == some .local || scope.names.lookup x == some .cell
theorem lJ {xs : List Str} (h : tgB scope xs = true) : ∀ x ∈ xs, scope.names.lookup x = some .local \/ scope.names.lookup x = some .cell := fun x hx => by
 have := List.all_eq_true.mp h x hx
 simpa using this
noncomputable def offB (xs : List Str) (ys : List Str) : Bool := ys.all fun y => !xs.contains y
theorem bC {xs : List Str} (h : offB xs (Γ.map (·.1)) = true) : fZ xs Γ := fun p hp hx => by
 have := List.all_eq_true.mp h p.1 (lM (f := (·.1)) hp)
 simp at this
 exact this hx
theorem Ev.n {x : Str} (hm : (x, d) ∈ Γ) (hd : autoParam ((x == ("__debug__" : Str)) = false) aK) : Ev c l X env Γ (.Name x pos) d := Ev.name hm hd
theorem Ev.as (h : Ev c l X env Γ e d) (e' : d = d') : Ev c l X env Γ e d' := e' ▸ h
theorem Et.as {b' : Bool} (h : Et c l X env Γ e b) (e' : b = b') : Et c l X env Γ e b' := e' ▸ h
theorem EvC.as (h : EvC c l X env Γ e d) (e' : d = d') : EvC c l X env Γ e d' := e' ▸ h
theorem EvI.as {ds' : List PyData} (h : EvI c l X env Γ pair e ds) (e' : ds = ds') : EvI c l X env Γ pair e ds' := e' ▸ h
theorem filter_true (l : List α) : l.filter (fun _ => true) = l := List.filter_eq_self.mpr fun _ _ => rfl
theorem EvC.nm {L : List α} {g : α -> PyData} {x : Str} (f : α -> PyData) (hg : ∀ a b, g a = g b -> a = b) (hI : EvI c l X env Γ false iter (L.map g)) (hc : Cap env scope Γ Γc)
  (he : ∀ cs C XL, ∀ a ∈ L, Ev c l XL (aq scope cs C env) ((x, g a) :: Γc) elt (f a)) (hz : L.length <= 10 ^ 6) (hs : autoParam (scB env scope = true) aK) (ht : autoParam (tgB scope [x] = true) aK) (ho : autoParam (offB [x] (Γc.map (·.1)) = true) aK)
  (hd : autoParam ((x == ("__debug__" : Str)) = false) aK) (hfold : autoParam (∀ x, foldedSetIterable iter env x = pure x) aI) : EvC c l X env Γ (.ListComp elt [⟨.Name x p, iter, [], 0⟩] scope pos) (.list (L.map f)) :=
 (EvC.comp (fun _ => true) f (TB.name hg hd) hI (fY.of hs) hc (lJ ht) (bC ho) (fun _ _ _ _ _ => .nil) (fun cs C XL a ha _ => he cs C XL a ha) hz hfold).as (by rw [filter_true])
theorem EvC.oN {L : List α} {g : α -> PyData} {x : Str} (bs : α -> Bool) (f : α -> PyData) (hg : ∀ a b, g a = g b -> a = b) (hI : EvI c l X env Γ false iter (L.map g)) (hc : Cap env scope Γ Γc)
  (hb : ∀ cs C XL, ∀ a ∈ L, Et c l XL (aq scope cs C env) ((x, g a) :: Γc) test (bs a)) (he : ∀ cs C XL, ∀ a ∈ L, bs a = true -> Ev c l XL (aq scope cs C env) ((x, g a) :: Γc) elt (f a)) (hz : L.length <= 10 ^ 6) (hs : autoParam (scB env scope = true) aK)
  (ht : autoParam (tgB scope [x] = true) aK) (ho : autoParam (offB [x] (Γc.map (·.1)) = true) aK) (hd : autoParam ((x == ("__debug__" : Str)) = false) aK) (hfold : autoParam (∀ x, foldedSetIterable iter env x = pure x) aI) : EvC c l X env Γ (.ListComp elt [⟨.Name x p, iter, [test], 0⟩] scope pos) (.list ((L.filter bs).map f)) :=
 EvC.comp bs f (TB.name hg hd) hI (fY.of hs) hc (lJ ht) (bC ho) (fun cs C XL a ha => .one (hb cs C XL a ha)) (fun cs C XL a ha hb => he cs C XL a ha hb) hz hfold
theorem EvC.pr {L : List (α × β)} {x y : Str} {q r : Pos} {k : Nat} (f : α -> β -> PyData) (h1 : ∀ a b, g1 a = g1 b -> a = b) (h2 : ∀ a b, g2 a = g2 b -> a = b)
  (hI : EvI c l X env Γ true iter (L.map fun z => .tuple [g1 z.1, g2 z.2])) (hc : Cap env scope Γ Γc) (he : ∀ cs C XL a b, (a, b) ∈ L -> Ev c l XL (aq scope cs C env) ((y, g2 b) :: (x, g1 a) :: Γc) elt (f a b)) (hz : L.length <= 10 ^ 6) (hs : autoParam (scB env scope = true) aK)
  (ht : autoParam (tgB scope [x, y] = true) aK) (ho : autoParam (offB [x, y] (Γc.map (·.1)) = true) aK) (hd : autoParam ((y != x) = true) aK) (hfold : autoParam (∀ x, foldedSetIterable iter env x = pure x) aI) :
  EvC c l X env Γ (.ListComp elt [⟨.Tuple [.Name x p, .Name y q] k r, iter, [], 0⟩] scope pos) (.list (L.map fun z => f z.1 z.2)) :=
 (EvC.comp (elt := elt) (fun _ => true) (fun z : α × β => f z.1 z.2) (TB.pair h1 h2 hd) hI (fY.of hs) hc (lJ ht) (bC ho) (fun _ _ _ _ _ => .nil) (fun cs C XL a ha _ => he cs C XL a.1 a.2 ha) hz hfold).as (by rw [filter_true])
theorem EvC.prIf {L : List (α × β)} {x y : Str} {q r : Pos} {k : Nat} (bs : α -> β -> Bool) (f : α -> β -> PyData) (h1 : ∀ a b, g1 a = g1 b -> a = b) (h2 : ∀ a b, g2 a = g2 b -> a = b)
  (hI : EvI c l X env Γ true iter (L.map fun z => .tuple [g1 z.1, g2 z.2])) (hc : Cap env scope Γ Γc) (hb : ∀ cs C XL a b, (a, b) ∈ L -> Et c l XL (aq scope cs C env) ((y, g2 b) :: (x, g1 a) :: Γc) test (bs a b)) (he : ∀ cs C XL a b, (a, b) ∈ L -> bs a b = true -> Ev c l XL (aq scope cs C env) ((y, g2 b) :: (x, g1 a) :: Γc) elt (f a b))
  (hz : L.length <= 10 ^ 6) (hs : autoParam (scB env scope = true) aK) (ht : autoParam (tgB scope [x, y] = true) aK) (ho : autoParam (offB [x, y] (Γc.map (·.1)) = true) aK) (hd : autoParam ((y != x) = true) aK) (hfold : autoParam (∀ x, foldedSetIterable iter env x = pure x) aI) :
  EvC c l X env Γ (.ListComp elt [⟨.Tuple [.Name x p, .Name y q] k r, iter, [test], 0⟩] scope pos) (.list ((L.filter fun z => bs z.1 z.2).map fun z => f z.1 z.2)) :=
 EvC.comp (elt := elt) (fun z : α × β => bs z.1 z.2) (fun z : α × β => f z.1 z.2) (TB.pair h1 h2 hd) hI (fY.of hs) hc (lJ ht) (bC ho) (fun cs C XL a ha => .one (hb cs C XL a.1 a.2 ha)) (fun cs C XL a ha hb => he cs C XL a.1 a.2 ha hb) hz hfold
theorem EvC.nm2 {L : List α} {g : α -> PyData} {M : α -> List β} {k : β -> PyData} {x y : Str} {q : Pos} (f : α -> β -> PyData) (hg : ∀ a b, g a = g b -> a = b) (hk : ∀ a b, k a = k b -> a = b) (hI : EvI c l X env Γ false iter (L.map g)) (hc : Cap env scope Γ Γc)
  (hI2 : ∀ cs C XL, ∀ a ∈ L, EvI c l XL (aq scope cs C env) ((x, g a) :: Γc) false iter2 ((M a).map k)) (he : ∀ cs C XL, ∀ a ∈ L, ∀ b ∈ M a, Ev c l XL (aq scope cs C env) ((y, k b) :: (x, g a) :: Γc) elt (f a b)) (hz : (L.flatMap M).length <= 10 ^ 6)
  (hs : autoParam (scB env scope = true) aK) (ht : autoParam (tgB scope [x, y] = true) aK) (ho : autoParam (offB [x, y] (Γc.map (·.1)) = true) aK) (hxy : autoParam ((x != y) = true) aK) (hd : autoParam ((x == ("__debug__" : Str)) = false) aK) (hd2 : autoParam ((y == ("__debug__" : Str)) = false) aK)
  (hfold : autoParam (∀ x, foldedSetIterable iter env x = pure x) aI) (hfold2 : autoParam (∀ cs C x, foldedSetIterable iter2 (aq scope cs C env) x = pure x) aI) :
  EvC c l X env Γ (.ListComp elt [⟨.Name x p, iter, [], 0⟩, ⟨.Name y q, iter2, [], 0⟩] scope pos) (.list (L.flatMap fun a => (M a).map (f a))) := by
 have o := bC ho
 refine (EvC.KD (fun _ => true) (fun _ _ => true) f (TB.name hg hd) (TB.name hk hd2) hI (fY.of hs) hc (lJ (show tgB scope ([x] ++ [y]) = true from ht)) (fun r hr hx => o r hr (lS hx ▸ .head _)) (fun _ _ _ _ _ => .nil) (fun cs C XL a ha _ => hI2 cs C XL a ha) (fun a ha r hr hy => ?_) (fun _ _ _ _ _ _ _ _ => .nil)
  (fun cs C XL a ha _ b hb _ => he cs C XL a ha b hb) (by rw [filter_true]; exact hz) hfold hfold2).as (by simp only [filter_true])
 have hr' : r ∈ (x, g a) :: Γc := hr
 rcases lC hr' with rfl | hr'
 ·have : x ≠ y := by simpa using hxy
  exact this (lS hy)
 ·exact o r hr' (lS hy ▸ .tail _ (.head _))
theorem I3 {n : Nat} : rng 0 n = (List.range n).map fun (i : Nat) => PyData.int (i : Nat) := by
 unfold rng
 exact List.map_congr_left fun i _ => by rw [Int.zero_add]
theorem EvI.range {f : Str} {n : Nat} (hg : Glb c f (.type "range")) (h : Ev c l X env Γ e (.int (n : Nat))) (hn : n <= 10 ^ 9) (hf : autoParam (env.kindOf f = some .globalImplicit) aK)
  (hd : autoParam ((f == ("__debug__" : Str)) = false) aK) (he : autoParam (starEach [e] env = (false, eval e env) :: starEach [] env) aR) : EvI c l X env Γ false (.Call (.Name f np) [e] [] pos) ((List.range n).map fun (i : Nat) => .int (i : Nat)) := (EvI.ofRange hg hf h hn hd he).as I3
theorem Ev.iteI {body orelse : Expr} {i j : Int} (ht : Et c l X env Γ test b) (h1 : Ev c l X env Γ body (.int i)) (h2 : Ev c l X env Γ orelse (.int j)) : Ev c l X env Γ (.IfExp test body orelse pos) (.int (if b then i else j)) :=
 .zX ht (fun e => by rw [e]; exact h1) fun e => by rw [e]; exact h2
theorem Ev.ite {body orelse : Expr} {e : PyData} (ht : Et c l X env Γ test b) (h1 : b = true -> Ev c l X env Γ body d) (h2 : b = false -> Ev c l X env Γ orelse e) : Ev c l X env Γ (.IfExp test body orelse pos) (if b then d else e) :=
 .zX ht (fun q => by rw [q]; exact h1 q) fun q => by rw [q]; exact h2 q
noncomputable abbrev iL (ns : List Int) : PyData := .list (ns.map .int)
theorem qM : ∀ ns : List Int, PyData.canLayAll0 (ns.map .int) = true
 | [] => rfl
 | n :: ns => by simp [PyData.canLayAll0, PyData.canLay0, qM ns]
theorem Fl (i : Int) (ns : List Int) : ((ns.map PyData.int).any fun y => PyData.eqv y (.int i)) = decide (i ∈ ns) := by
 induction ns with
 | nil => simp
 | cons n ns ih =>
  rw [List.map_cons, List.any_cons, ih]
  by_cases h : n = i
  ·subst h; simp [PyData.eqv]
  ·have : i ≠ n := fun e => h e.symm
   simp [PyData.eqv, h, this]
theorem P2.I4 {i : Int} {ns : List Int} : P2 c (compareOp .NotIn) (.int i) (iL ns) (.bool (!decide (i ∈ ns))) := by
 rw [<- Fl]
 exact P2.uJ rfl (qM ns) (by simp [PyData.depth])
theorem EvF.list {es : List Expr} (h : EvA c l X env Γ pos es ds) (hz : autoParam (ds.length <= 1000) aD) : EvF c l X env Γ (.List es pos) (.list ds) := fun A s L G =>
 wpAny_List (wK (h A s L G) (fun vs s1 q => ⟨by rw [q.2.length, sizeLine_eq]; omega, q.1.trans .fH, s1.heap.objs.size, q.1.hx.none_of (fun z => nomatch z) (ak (Nat.le_refl _)), vs, 0, hP _ rfl,
  (q.2.wide fun a ha => (lC ha).elim (fun e => .inr (e ▸ ak (Nat.le_refl _))) .inl).hx0 (c := c) (.push _ _) fun a ha => .tail _ (G.bas.frs a ha)⟩))
theorem EvF.nil : EvF c l X env Γ (.List [] pos) (.list []) := EvF.list .nil
section
variable {E : Err} 
theorem Ex.own {x : Str} (h : ∀ X, EvF K.c K.l X K.env Γ e d) (k : ∀ D, Ex K A s0 E Γ ((x, D) :: R) (bL K.c D d :: Δ) ss O) (hx : autoParam (decide (x ∈ K.xs) = true) aK) (hΓ : autoParam (offB [x] (Γ.map (·.1)) = true) aK) (hR : autoParam (offB [x] (R.map (·.1)) = true) aK) (hs : autoParam (swapsWith e (some (.Name x px)) pos.line K.env = pure false) aR) :
  Ex K A s0 E Γ R Δ (.Assign [.Name x px] e pos :: ss) O := by
 have e1 : Γ.filter (fun p => p.1 != x) = Γ := bM fun p hp e => bC hΓ p hp (e ▸ .head _)
 have e2 : R.filter (fun p => p.1 != x) = R := List.filter_eq_self.mpr fun p hp => by
  have := List.all_eq_true.mp hR p.1 (lM (f := (·.1)) hp)
  simpa using this
 refine Ex.Fb h (of_decide_eq_true hx) (fun D => ?_) hs
 rw [e1, e2]
 exact k D
theorem Ex.ownC {x : Str} (hX : dg K s0) (h : ∀ X, EvC K.c K.l X K.env Γ e d) (k : ∀ D, Ex K A s0 E Γ ((x, D) :: R) (bL K.c D d :: Δ) ss O) (hx : autoParam (decide (x ∈ K.xs) = true) aK) (hΓ : autoParam (offB [x] (Γ.map (·.1)) = true) aK) (hR : autoParam (offB [x] (R.map (·.1)) = true) aK) (hs : autoParam (swapsWith e (some (.Name x px)) pos.line K.env = pure true) aR) :
  Ex K A s0 E Γ R Δ (.Assign [.Name x px] e pos :: ss) O := by
 have e1 : Γ.filter (fun p => p.1 != x) = Γ := bM fun p hp e => bC hΓ p hp (e ▸ .head _)
 have e2 : R.filter (fun p => p.1 != x) = R := List.filter_eq_self.mpr fun p hp => by
  have := List.all_eq_true.mp hR p.1 (lM (f := (·.1)) hp)
  simpa using this
 refine Ex.wj h (of_decide_eq_true hx) hX (fun D => ?_) hs
 rw [e1, e2]
 exact k D
theorem Ex.new {x : Str} (h : EvS K A s0 E Γ R Δ e d) (k : Ex K A s0 E ((x, d) :: Γ) R Δ ss O) (hx : autoParam (decide (x ∈ K.xs) = true) aK) (hΓ : autoParam (offB [x] (Γ.map (·.1)) = true) aK) (hR : autoParam (offB [x] (R.map (·.1)) = true) aK) (hs : autoParam (swapsWith e (some (.Name x px)) pos.line K.env = pure false) aR) :
  Ex K A s0 E Γ R Δ (.Assign [.Name x px] e pos :: ss) O := by
 have e1 : Γ.filter (fun p => p.1 != x) = Γ := bM fun p hp e => bC hΓ p hp (e ▸ .head _)
 refine Ex.seq (Ex1.assign h (of_decide_eq_true hx) (fun p hp e => ?_) hs) ?_
 ·have := List.all_eq_true.mp hR p.1 (lM (f := (·.1)) hp)
  simp [e] at this
 ·rw [e1]; exact k
theorem Ex.newC {x : Str} (hX : dg K s0) (h : ∀ X, EvC K.c K.l X K.env Γ e d) (k : Ex K A s0 E ((x, d) :: Γ) R Δ ss O) (hx : autoParam (decide (x ∈ K.xs) = true) aK) (hΓ : autoParam (offB [x] (Γ.map (·.1)) = true) aK) (hR : autoParam (offB [x] (R.map (·.1)) = true) aK) (hs : autoParam (swapsWith e (some (.Name x px)) pos.line K.env = pure true) aR) :
  Ex K A s0 E Γ R Δ (.Assign [.Name x px] e pos :: ss) O := Ex.ownC hX h (fun D => Ex.freeze hX k) hx hΓ hR hs
theorem iI {xs : List Str} (h : offB xs (R.map (·.1)) = true) : ∀ p ∈ R, p.1 ∉ xs := fun p hp hx => by
 have := List.all_eq_true.mp h p.1 (lM (f := (·.1)) hp)
 simp at this
 exact this hx
noncomputable def subB (xs ys : List Str) : Bool := xs.all fun x => decide (x ∈ ys)
theorem uU {xs ys : List Str} (h : subB xs ys = true) : ∀ x ∈ xs, x ∈ ys := fun x hx => of_decide_eq_true (List.all_eq_true.mp h x hx)
theorem Ex1.Am {x : Str} (Inv : Nat -> Gam -> Ros -> Del K -> Prop) (O : Out K -> Prop)
  (hI : oM K A s0 E Γ R Δ false iter ds) (h0 : Inv 0 Γ' R' Δ') (hg : ∀ p ∈ Γ', p ∈ Γ) (hr : ∀ p ∈ R', p ∈ R) (hd' : List.Sublist Δ' Δ) (hx0 : dg K s0)
  (hoff : ∀ i Γ R Δ, Inv i Γ R Δ -> fZ [x] Γ /\ ∀ p ∈ R, p.1 ∉ [x])
  (hb : ∀ i d Γ R Δ (r : Res K.c), ds[i]? = some d -> Inv i Γ R Δ -> Ex K A s0 E ((x, d) :: Γ) R (r :: Δ) body fun o => (∃ Γ' R' Δ', (o = .next Γ' R' (r :: Δ') \/ o = .cont Γ' R' (r :: Δ')) /\ Inv (i + 1) Γ' R' Δ') \/ (∃ Γ' R' Δ', o = .brk Γ' R' (r :: Δ') /\ O (.next Γ' R' Δ')) \/ ∃ d, o = .ret d /\ O (.ret d))
  (hend : ∀ Γ R Δ, Inv ds.length Γ R Δ -> O (.next Γ R Δ))
  (hsub : autoParam (subB [x] K.xs = true) aK) (hd : autoParam ((x == ("__debug__" : Str)) = false) aK) (hfold : autoParam (∀ x, foldedSetIterable iter K.env x = pure x) aI) (hE : autoParam (PassesOwn K.c.M A K.env E) aE) :
  Ex1 K A s0 E Γ R Δ (.For (.Name x p) iter body [] pos) O :=
 Ex1.for (Γd := fun d => [(x, d)]) (xs := [x]) Inv O hI (fun d _ => .name hd) (uU hsub) h0 hg hr hd' hx0 hoff hb hend .name hfold hE
theorem Ex1.I5 {x y : Str} {q r : Pos} {k : Nat} {L : List (α × β)} (Inv : Nat -> Gam -> Ros -> Del K -> Prop) (O : Out K -> Prop)
  (hI : oM K A s0 E Γ R Δ true iter (L.map fun z => .tuple [g1 z.1, g2 z.2])) (h0 : Inv 0 Γ' R' Δ') (hg : ∀ p ∈ Γ', p ∈ Γ) (hr : ∀ p ∈ R', p ∈ R) (hd' : List.Sublist Δ' Δ) (hx0 : dg K s0)
  (hoff : ∀ i Γ R Δ, Inv i Γ R Δ -> fZ [x, y] Γ /\ ∀ p ∈ R, p.1 ∉ [x, y])
  (hb : ∀ i a b Γ R Δ (r : Res K.c), L[i]? = some (a, b) -> Inv i Γ R Δ -> Ex K A s0 E ((y, g2 b) :: (x, g1 a) :: Γ) R (r :: Δ) body fun o => (∃ Γ' R' Δ', (o = .next Γ' R' (r :: Δ') \/ o = .cont Γ' R' (r :: Δ')) /\ Inv (i + 1) Γ' R' Δ') \/ (∃ Γ' R' Δ', o = .brk Γ' R' (r :: Δ') /\ O (.next Γ' R' Δ')) \/ ∃ d, o = .ret d /\ O (.ret d))
  (hend : ∀ Γ R Δ, Inv L.length Γ R Δ -> O (.next Γ R Δ)) (h1 : ∀ a b, g1 a = g1 b -> a = b) (h2 : ∀ a b, g2 a = g2 b -> a = b)
  (hsub : autoParam (subB [x, y] K.xs = true) aK) (hd : autoParam ((y != x) = true) aK) (hfold : autoParam (∀ x, foldedSetIterable iter K.env x = pure x) aI) (hE : autoParam (PassesOwn K.c.M A K.env E) aE) :
  Ex1 K A s0 E Γ R Δ (.For (.Tuple [.Name x p, .Name y q] k r) iter body [] pos) O := by
 have T := TB.pair (p := r) (pa := p) (pb := q) (k := k) (a := x) (b := y) h1 h2 hd
 have e1 : ∀ a ∈ L, aW L (fun z => PyData.tuple [g1 z.1, g2 z.2]) (fun z => ([(y, g2 z.2), (x, g1 z.1)] : Gam)) [] (.tuple [g1 a.1, g2 a.2]) = [(y, g2 a.2), (x, g1 a.1)] := fun a ha => bI (g := fun z : α × β => PyData.tuple [g1 z.1, g2 z.2]) (fun x _ y _ e => by rw [T.inj _ _ e]) ha
 refine Ex1.for (Γd := aW L (fun z => .tuple [g1 z.1, g2 z.2]) (fun z => [(y, g2 z.2), (x, g1 z.1)]) []) (xs := [x, y]) Inv O hI (fun d hd => ?_) (uU hsub) h0 hg hr hd' hx0 hoff (fun i d Γ R Δ r hdi inv => ?_) (fun Γ R Δ inv => hend _ _ _ (by simpa using inv)) .tuple hfold hE
 ·obtain ⟨a, ha⟩ := bx hd
  rw [e1 a ha]; exact T.bind a
 ·obtain ⟨z, hz⟩ := dO hdi
  rw [e1 z (lG hz)]
  exact hb i z.1 z.2 Γ R Δ r hz inv
theorem Ex1.yD {x : Str} {ks : List α} {g : α -> PyData} {n : Nat} (G : Nat -> Gam) (F : Nat -> Del K)
  (hI : oM K A s0 E Γ R (F 0) false iter (ks.map g)) (hg : ∀ p ∈ G 0, p ∈ Γ) (hx0 : dg K s0)
  (hb : ∀ i k (r : Res K.c), ks[i]? = some k -> Ex K A s0 E ((x, g k) :: G i) R (r :: F i) body (bY (G (i + 1)) R (r :: F (i + 1)))) (hn : ks.length = n)
  (hoff : autoParam (∀ i, offB [x] ((G i).map (·.1)) = true) aJ) (hoffR : autoParam (offB [x] (R.map (·.1)) = true) aK) (hsub : autoParam (subB [x] K.xs = true) aK) (hd : autoParam ((x == ("__debug__" : Str)) = false) aK) (hfold : autoParam (∀ x, foldedSetIterable iter K.env x = pure x) aI) (hE : autoParam (PassesOwn K.c.M A K.env E) aE) :
  Ex1 K A s0 E Γ R (F 0) (.For (.Name x p) iter body [] pos) (bY (G n) R (F n)) := by
 refine Ex1.Am (fun i Γ' R' Δ' => Γ' = G i /\ R' = R /\ Δ' = F i) _ hI ⟨rfl, rfl, rfl⟩ hg (fun p h => h) (List.Sublist.refl _) hx0 ?_ ?_ ?_ hsub hd hfold hE
 ·rintro i _ _ _ ⟨rfl, rfl, _⟩
  exact ⟨bC (hoff i), iI hoffR⟩
 ·rintro i d _ _ _ r hd ⟨rfl, rfl, rfl⟩
  obtain ⟨k, hk⟩ := dO hd
  exact Ex.weaken (hb i k r hk) fun o ho => .inl ⟨_, _, _, .inl ho, rfl, rfl, rfl⟩
 ·rintro _ _ _ ⟨rfl, rfl, rfl⟩
  rw [List.length_map, hn]
theorem Ex1.HS {x y : Str} {q r : Pos} {k : Nat} {L : List (α × β)} {n : Nat} (G : Nat -> Gam) (F : Nat -> Del K)
  (hI : oM K A s0 E Γ R (F 0) true iter (L.map fun z => .tuple [g1 z.1, g2 z.2])) (hg : ∀ p ∈ G 0, p ∈ Γ) (hx0 : dg K s0)
  (hb : ∀ i a b (r : Res K.c), L[i]? = some (a, b) -> Ex K A s0 E ((y, g2 b) :: (x, g1 a) :: G i) R (r :: F i) body (bY (G (i + 1)) R (r :: F (i + 1)))) (hn : L.length = n) (h1 : ∀ a b, g1 a = g1 b -> a = b) (h2 : ∀ a b, g2 a = g2 b -> a = b)
  (hoff : autoParam (∀ i, offB [x, y] ((G i).map (·.1)) = true) aJ) (hoffR : autoParam (offB [x, y] (R.map (·.1)) = true) aK) (hsub : autoParam (subB [x, y] K.xs = true) aK) (hd : autoParam ((y != x) = true) aK) (hfold : autoParam (∀ x, foldedSetIterable iter K.env x = pure x) aI) (hE : autoParam (PassesOwn K.c.M A K.env E) aE) :
  Ex1 K A s0 E Γ R (F 0) (.For (.Tuple [.Name x p, .Name y q] k r) iter body [] pos) (bY (G n) R (F n)) := by
 refine Ex1.I5 (fun i Γ' R' Δ' => Γ' = G i /\ R' = R /\ Δ' = F i) _ hI ⟨rfl, rfl, rfl⟩ hg (fun p h => h) (List.Sublist.refl _) hx0 ?_ ?_ ?_ h1 h2 hsub hd hfold hE
 ·rintro i _ _ _ ⟨rfl, rfl, _⟩
  exact ⟨bC (hoff i), iI hoffR⟩
 ·rintro i a b _ _ _ r hd ⟨rfl, rfl, rfl⟩
  exact Ex.weaken (hb i a b r hd) fun o ho => .inl ⟨_, _, _, .inl ho, rfl, rfl, rfl⟩
 ·rintro _ _ _ ⟨rfl, rfl, rfl⟩
  rw [hn]
theorem Ex.fL {R0 : Ros} {Δ2 : Del K} (h : Ex K A s0 E Γ R Δ ss (bY Γ0 R0 Δ1)) (p : Δ1.Perm Δ2) : Ex K A s0 E Γ R Δ ss (bY Γ0 R0 Δ2) := fun s X S =>
 wK (h s X S) (fun f s' hp => by
  cases f with
  | next =>
   obtain ⟨X, _, _, _, q, S'⟩ := hp
   cases q
   exact ⟨X, _, _, _, rfl, S'.perm p⟩
  | brk => obtain ⟨_, _, _, _, q, _⟩ := hp; cases q
  | cont => obtain ⟨_, _, _, _, q, _⟩ := hp; cases q
  | ret v => obtain ⟨_, q, _⟩ := hp; cases q)
theorem Ex1.Ao {x : Str} {ks : List α} {g : α -> PyData} {n : Nat} {T : Del K} {d0 : Res K.c} (G : Nat -> Gam) (F : Nat -> Res K.c)
  (hI : oM K A s0 E Γ R (d0 :: T) false iter (ks.map g)) (hg : ∀ p ∈ G 0, p ∈ Γ) (hx0 : dg K s0)
  (hb : ∀ i k (r : Res K.c), ks[i]? = some k -> Ex K A s0 E ((x, g k) :: G i) R (F i :: r :: T) body (bY (G (i + 1)) R (F (i + 1) :: r :: T))) (hn : ks.length = n) (h0 : autoParam (d0 = F 0) aR)
  (hoff : autoParam (∀ i, offB [x] ((G i).map (·.1)) = true) aJ) (hoffR : autoParam (offB [x] (R.map (·.1)) = true) aK) (hsub : autoParam (subB [x] K.xs = true) aK) (hd : autoParam ((x == ("__debug__" : Str)) = false) aK) (hfold : autoParam (∀ x, foldedSetIterable iter K.env x = pure x) aI) (hE : autoParam (PassesOwn K.c.M A K.env E) aE) :
  Ex1 K A s0 E Γ R (d0 :: T) (.For (.Name x p) iter body [] pos) (bY (G n) R (F n :: T)) :=
 h0 ▸ .yD G (fun i => F i :: T) (h0 ▸ hI) hg hx0 (fun i k r h => .perm (.swap ..) (.fL (hb i k r h) (.swap ..))) hn hoff hoffR hsub hd hfold hE
theorem Ex.fin (hg : ∀ p ∈ Γ0, p ∈ Γ) : Ex K A s0 E Γ R Δ [] (bY Γ0 R Δ) := .wkG hg (.nil rfl)
end
noncomputable def dedup : List PyData -> List PyData := fun ds => ds.foldl (fun acc d => if acc.any (fun y => PyData.eqv y d) then acc else acc ++ [d]) []
theorem uV (ds : List PyData) (d : PyData) : dedup (ds ++ [d]) = if (dedup ds).any (fun y => PyData.eqv y d) then dedup ds else dedup ds ++ [d] := by simp [dedup]
theorem jF (ds : List PyData) : ∀ x ∈ dedup ds, x ∈ ds := by
 have key : ∀ (ds acc : List PyData), ∀ x ∈ ds.foldl (fun acc d => if acc.any (fun y => PyData.eqv y d) then acc else acc ++ [d]) acc, x ∈ acc \/ x ∈ ds := by
  intro ds
  induction ds with
  | nil => intro acc x hx; exact .inl hx
  | cons d ds ih =>
   intro acc x hx
   rw [List.foldl_cons] at hx
   rcases ih _ x hx with h | h
   ·split at h
    ·exact .inl h
    ·rcases lA h with h | h
     ·exact .inl h
     ·exact .inr (lS h ▸ .head _)
   ·exact .inr (.tail _ h)
 intro x hx
 rcases key ds [] x hx with h | h
 ·cases h
 ·exact h
theorem yE (h : ∀ d ∈ ds, d.canLay0 = true) : PyData.canLayAll0 ds = true := by
 induction ds with
 | nil => rfl
 | cons d ds ih => simp [PyData.canLayAll0, h d (.head _), ih fun x hx => h x (.tail _ hx)]
theorem pK (ds : List PyData) : (dedup ds).length <= ds.length := by
 have key : ∀ (ds acc : List PyData), (ds.foldl (fun acc d => if acc.any (fun y => PyData.eqv y d) then acc else acc ++ [d]) acc).length <= acc.length + ds.length := by
  intro ds
  induction ds with
  | nil => intro acc; simp
  | cons d ds ih =>
   intro acc
   rw [List.foldl_cons]
   refine Nat.le_trans (ih _) ?_
   split <;> (simp <;> omega)
 simpa [dedup] using key ds []
structure iJ (ds : List PyData) : Prop where
 can : ∀ d ∈ ds, d.canLay0 = true
 dep : ∀ d ∈ ds, d.depth <= 1000
 len : ds.length <= 10 ^ 5
noncomputable def cC (A : Around) : List Addr := match A.frames with
 | some l => l.filterMap (·.frame)
 | none => []
noncomputable def ExcAt (B : Heap) (e : Addr) (cls : String) (h : Heap) : Prop :=
 (∃ ob vs t, h.get? e = some ob /\ ob.cls = .type cls /\ ob.data = .fields vs /\ vs[0]? = some t /\ vs[1]? = some Value.none) \/ ∃ a0 fl, h.TracedAtW B e (.type cls) a0 fl
structure Fly (c : Cfg) (A : Around) (env : Env) (h1 : Heap) (e : Addr) (cls : String) (h' : Heap) : Prop where
 fr : ∃ outer L, A.frames = some (env :: outer) /\ env.frame = some L /\ h'.FunFrames (hideAll h1 (cC A)) (env :: outer)
 stay : (hideAll h1 (cC A)).StaysIn h'
 slots : ∀ b o, b ∈ cC A -> h1.get? b = some o -> ∃ sl, h'.get? b = some { o with slots := sl }
 new : h1.get? e = none
 exc : ExcAt (hideAll h1 (cC A)) e cls h'
theorem iK {as : List Addr} {b : Addr} (e : h.get? b = none) : (hideAll h as).get? b = none := by
 cases q : (hideAll h as).get? b with
 | none => rfl
 | some o => rw [of_hideAll as q] at e; cases e
section
variable {h1 : Heap} {e : Addr} {cls : String} {E : Err}
theorem Fly.hx (F : Fly c A env h1 e cls h') {X : List Addr} (B : Bas c A X h1) : HX c [] h1 h' := by
 obtain ⟨outer, L, hA, hL, hf⟩ := F.fr
 obtain ⟨o2, b2, f2⟩ := B.below
 rw [b2.stack] at hA
 cases hA
 have hfrs : cC A = (env :: outer).filterMap (·.frame) := by unfold cC; rw [b2.stack]
 have hin : ∀ b ∈ cC A, b ∈ c.fr := fun b hb => by
  rw [hfrs] at hb
  obtain ⟨env', he, hq⟩ := List.mem_filterMap.mp hb
  exact f2 env' he b hq
 have hbn : ∀ b ∈ cC A, c.base.get? b = none := fun b hb => by
  rw [hfrs] at hb
  exact (b2.frames.mem hb).1
 refine ⟨fun b o _ eb => ?_, fun st b o eb => ?_, fun b o hb eb hn => ?_⟩
 ·by_cases hb : b ∈ cC A
  ·obtain ⟨sl, q⟩ := F.slots b o hb eb
   exact ⟨sl, q, .inl (hin b hb)⟩
  ·exact ⟨o.slots, F.stay b o (hideAll_get _ eb hb), .inr rfl⟩
 ·exact F.stay b o (hideAll_get _ (st b o eb) fun hb => by rw [hbn b hb] at eb; cases eb)
 ·by_cases hb : b ∈ cC A
  ·obtain ⟨sl, q⟩ := F.slots b o hb eb
   exact ⟨_, q, hn⟩
  ·exact ⟨o, F.stay b o (hideAll_get _ eb hb), hn⟩
theorem Fly.raised (B : Bas c A X h1) {outer : List Env} {L : Addr} (hA : A.frames = some (env :: outer)) (hL : env.frame = some L) (x : Heap.NewExc h1 h' e cls) : Fly c A env h1 e cls h' := by
 obtain ⟨o2, b2, f2⟩ := B.below
 have hA' := b2.stack
 rw [hA] at hA'
 cases hA'
 have hfrs : cC A = (env :: outer).filterMap (·.frame) := by unfold cC; rw [hA]
 refine ⟨⟨outer, L, hA, hL, ?_⟩, fun b o eb => x.keeps b o (of_hideAll _ eb), fun b o _ eb => ⟨o.slots, x.keeps b o eb⟩, x.new, .inl (let ⟨ob, t, a, b, d⟩ := x.there; ⟨ob, _, t, a, b, d, rfl, rfl⟩)⟩
 rw [hfrs]
 refine (funFrames_hide b2.frames fun env' he a ha => List.mem_filterMap.mpr ⟨env', he, ha⟩).of_keeps fun b o hb _ => ⟨o, x.keeps b o hb, rfl⟩
theorem Fly.Fp (B : Bas c A X h1) {outer : List Env} {L : Addr} (hA : A.frames = some (env :: outer)) (hL : env.frame = some L) (hk : ∀ b o, h1.get? b = some o -> h'.get? b = some o) (hn : h1.get? e = none) (hx : ∃ ob vs t, h'.get? e = some ob /\ ob.cls = .type cls /\ ob.data = .fields vs /\ vs[0]? = some t /\ vs[1]? = some Value.none) : Fly c A env h1 e cls h' := by
 obtain ⟨o2, b2, f2⟩ := B.below
 have hA' := b2.stack
 rw [hA] at hA'
 cases hA'
 have hfrs : cC A = (env :: outer).filterMap (·.frame) := by unfold cC; rw [hA]
 refine ⟨⟨outer, L, hA, hL, ?_⟩, fun b o eb => hk b o (of_hideAll _ eb), fun b o _ eb => ⟨o.slots, hk b o eb⟩, hn, .inl hx⟩
 rw [hfrs]
 refine (funFrames_hide b2.frames fun env' he a ha => List.mem_filterMap.mpr ⟨env', he, ha⟩).of_keeps fun b o hb _ => ⟨o, hk b o hb, rfl⟩
theorem uW {B : Heap} {l : List Env} (hl : h.FunFrames B l) (hs : h.UpToSlots h'') {b : Addr} (hb : b ∈ l.filterMap (·.frame)) {o : Obj} (e : h.get? b = some o) : ∃ sl, h''.get? b = some { o with slots := sl } := by
 obtain ⟨_, o', e', n⟩ := hl.mem hb
 rw [e] at e'; cases e'
 exact hs b o e n
theorem Fly.step (F : Fly c A env h1 e cls h') {h'' : Heap} {outer : List Env} (hA : A.frames = some (env :: outer)) (h1' : (hideAll h1 (cC A)).StaysIn h'') (h2 : h''.FunFrames (hideAll h1 (cC A)) (env :: outer)) (h3 : h'.UpToSlots h'') (h4 : ExcAt (hideAll h1 (cC A)) e cls h'') : Fly c A env h1 e cls h'' := by
 obtain ⟨outer', L, hA', hL, hf⟩ := F.fr
 rw [hA] at hA'
 cases hA'
 have hfrs : cC A = (env :: outer).filterMap (·.frame) := by unfold cC; rw [hA]
 refine ⟨⟨outer, L, hA, hL, h2⟩, h1', fun b o hb eb => ?_, F.new, h4⟩
 obtain ⟨sl, q⟩ := F.slots b o hb eb
 rw [hfrs] at hb
 obtain ⟨sl2, q2⟩ := uW hf h3 hb q
 exact ⟨sl2, q2⟩
inductive TrI (h base : Heap) (e : Addr) (cls a0 fl : Value) : Prop
 | mk (oe : Obj) (vs : Array Value) (T : Addr) (oT : Obj) (ts : Array Value) (he : h.get? e = some oe) (hc : oe.cls = cls) (h0 : vs[0]? = some a0) (hd : oe.data = .fields vs) (hv : vs[1]? = some (.ref T)) (hn : base.get? T = none) (hT : T ≠ e) (ht : h.get? T = some oT) (hdT : oT.data = .fields ts) (h3 : ts[3]? = some fl)
theorem uX {base : Heap} {e : Addr} {cls a0 fl : Value} (x : h.TracedAtW base e cls a0 fl) : TrI h base e cls a0 fl := by
 obtain ⟨oe, vs, T, oT, ts, he, ⟨hc, h0⟩, r⟩ := x
 exact ⟨oe, vs, T, oT, ts, he, hc, h0, r.1, r.2.1, r.2.2.1, r.2.2.2.1, r.2.2.2.2.1, r.2.2.2.2.2.1, r.2.2.2.2.2.2⟩
theorem Fly.note (F : Fly c A env h1 e cls s.heap) {M : Model} {Q : Unit -> Shared -> Prop} (k : ∀ h'', Fly c A env h1 e cls h'' -> (∃ L a0, env.frame = some L /\ h''.TracedAtW (hideAll h1 (cC A)) e (.type cls) a0 (rawInt L)) -> Q () { s with heap := h'' }) : wpAny M A (noteFrame (.ref e) env) Q E s := by
 obtain ⟨outer, L, hA, hL, hf⟩ := F.fr
 rcases F.exc with ⟨ob, vs, t, he, hc, hd, hv0, hv1⟩ | ⟨a0, fl, ht⟩
 ·unfold noteFrame
  simp only [hL]
  refine wB (wpAny_field he hd (x := .none) hv1 ?_)
  rw [if_neg (show ¬ ((Value.none != Value.none) = true) from by decide)]
  refine wpAny_entryW hA hf hL he F.stay (iK F.new) hd (Array.getElem?_eq_some_iff.mp hv1).1 (a0 := t) hv0 fun h'' hN => ?_
  obtain ⟨n1, n2, n3, n4⟩ := hN
  rw [hc] at n3
  exact k h'' (F.step hA n1 n2 n4 (.inr ⟨_, _, n3⟩)) ⟨L, _, hL, n3⟩
 ·obtain ⟨oe, vs, T, oT, ts, he, hcls, h0, hd, hv1, hnT, hTe, hT, hdT, h3⟩ := uX ht
  unfold noteFrame
  simp only [hL]
  refine wB (wpAny_field he hd hv1 ?_)
  rw [if_pos (show (Value.ref T != Value.none) = true from by simp)]
  refine wB (wpAny_field hT hdT h3 ?_)
  by_cases hfl : (fl == rawInt L) = true
  ·rw [if_pos hfl]
   have : fl = rawInt L := eq_of_beq hfl
   subst this
   exact wP (k s.heap F ⟨L, a0, hL, ht⟩)
  ·rw [if_neg hfl]
   refine wB (wpAny_setField hT hdT (Array.getElem?_eq_some_iff.mp h3).1 ?_)
   have other : ∀ b, b ≠ T -> (s.heap.update T (Obj.mapFields (·.setIfInBounds 3 Value.none))).get? b = s.heap.get? b := fun b hb => Heap.get?_update_other _ _ (Ne.symm hb)
   have noRecord : ∀ b o, s.heap.get? b = some o -> (∀ vs, o.data ≠ .fields vs) -> b ≠ T := fun b o hb hnf q => by
    rw [q, hT] at hb; injection hb with hb; subst hb; exact hnf ts hdT
   refine wpAny_entryW hA (hf.of_keeps fun b o hb hnf => ⟨o, (other b (noRecord b o hb hnf)).trans hb, rfl⟩) hL ((other e (Ne.symm hTe)).trans he)
    (fun b o hbo => (other b fun q => by rw [q, hnT] at hbo; cases hbo).trans (F.stay b o hbo)) (iK F.new) hd (Array.getElem?_eq_some_iff.mp hv1).1 h0 fun h'' hN => ?_
   obtain ⟨n1, n2, n3, n4⟩ := hN
   rw [hcls] at n3
   exact k h'' (F.step hA n1 n2 (fun b o hb hnf => n4 b o ((other b (noRecord b o hb hnf)).trans hb) hnf) (.inr ⟨_, _, n3⟩)) ⟨L, _, hL, n3⟩
theorem Fly.flight (F : Fly c A env h1 e cls s.heap) {M : Model} {A' : Around} {Q : Unit -> Shared -> Prop} {fo : Option Addr} (ht : ∃ a0 fl, s.heap.TracedAtW (hideAll h1 (cC A)) e (.type cls) a0 fl) (k : ∀ h'', Fly c A env h1 e cls h'' -> (∃ a0 fl, h''.TracedAtW (hideAll h1 (cC A)) e (.type cls) a0 fl) -> Q () { s with heap := h'' }) : wpAny M A' (setFlight (.ref e) fo) Q E s := by
 obtain ⟨outer, L, hA, hL, hf⟩ := F.fr
 obtain ⟨a0, fl, ht⟩ := ht
 obtain ⟨oe, vs, T, oT, ts, he, hcls, h0, hd, hv1, hnT, hTe, hT, hdT, h3⟩ := uX ht
 have hsz3 : 3 < ts.size := (Array.getElem?_eq_some_iff.mp h3).1
 have other : ∀ b, b ≠ T -> (s.heap.update T (Obj.mapFields (·.setIfInBounds 3 (fo.elim Value.none fun f => rawInt f)))).get? b = s.heap.get? b := fun b hb => Heap.get?_update_other _ _ (Ne.symm hb)
 have noRecord : ∀ b o, s.heap.get? b = some o -> (∀ vs, o.data ≠ .fields vs) -> b ≠ T := fun b o hb hnf q => by
  rw [q, hT] at hb; injection hb with hb; subst hb; exact hnf ts hdT
 unfold setFlight
 refine wB (wpAny_field he hd hv1 ?_)
 rw [if_pos (show (Value.ref T != Value.none) = true from by simp)]
 have tr : (s.heap.update T (Obj.mapFields (·.setIfInBounds 3 (fo.elim Value.none fun f => rawInt f)))).TracedAtW (hideAll h1 (cC A)) e (.type cls) a0 (fo.elim Value.none fun f => rawInt f) :=
  ⟨oe, vs, T, _, _, (other e (Ne.symm hTe)).trans he, ⟨hcls, h0⟩, hd, hv1, hnT, hTe, Heap.get?_update_self _ hT (Obj.isFreed_of_fields (Obj.data_mapFields hdT _)), Obj.data_mapFields hdT _, by simp [hsz3]⟩
 exact wpAny_setField hT hdT hsz3 (k _ (F.step hA (fun b o hbo => (other b fun q => by rw [q, hnT] at hbo; cases hbo).trans (F.stay b o hbo)) (hf.of_keeps fun b o hb hnf => ⟨o, (other b (noRecord b o hb hnf)).trans hb, rfl⟩)
  (fun b o hb hnf => ⟨o.slots, (other b (noRecord b o hb hnf)).trans hb⟩) (.inr ⟨a0, _, tr⟩)) ⟨a0, _, tr⟩)
end
inductive jG (K : Act) (A : Around) (s0 : Shared) (cls : String) (P : Gam -> Ros -> Del K -> Prop) : Value -> Shared -> Prop
 | mk (e : Addr) (s1 : Shared) (X : List Addr) (Γ : Gam) (R : Ros) (Δ : Del K) (h' : Heap) (tk : Nat) (hP : P Γ R Δ) (S : Sat K X Γ R Δ A s0 s1) (F : Fly K.c A K.env s1.heap e cls h') : jG K A s0 cls P (.ref e) { s1 with heap := h', toks := tk }
section
variable {cls : String} {P : Gam -> Ros -> Del K -> Prop} {E : Err} 
theorem jG.passes : PassesOwn K.c.M A K.env (jG K A s0 cls P) := fun x s' h => by
 obtain ⟨e, s1, X, Γ, R, Δ, h', tk, hP, S, F⟩ := h
 refine F.note (s := { s1 with heap := h', toks := tk }) fun h2 F2 ht => ?_
 obtain ⟨L, a0, hL, ht⟩ := ht
 obtain ⟨oe, vs, T, oT, ts, he, hcls, h0, hd, hv1, hnT, hTe, hT, hdT, h3⟩ := uX ht
 refine wB (wpAny_field he hd hv1 ?_)
 rw [if_neg (by simp)]
 exact F2.flight (s := { s1 with heap := h2, toks := tk }) ⟨a0, _, ht⟩ fun h3 F3 _ => ⟨e, s1, X, Γ, R, Δ, h3, tk, hP, S, F3⟩
theorem ExcAt.typeIs {B : Heap} {e : Addr} (x : ExcAt B e cls s.heap) : s.TypeIs (.ref e) cls := by
 rcases x with ⟨ob, vs, t, he, hc, _⟩ | ⟨a0, fl, ht⟩
 ·exact ⟨ob, he, hc⟩
 ·exact ht.there
theorem Ex1.try {T : String} {x : Str} {hpos : Pos} {suite : List Stmt} {b0 : Stmt} (hg : Glb K.c x (.type T)) (hk : K.env.kindOf x = some .globalImplicit)
  (hexc : isSubtype (.type T) (.type "BaseException") = pure true) (hnt : isSubtype (.type ((Manifest.find? T).elim "type" fun x => x.metatype)) (.type "tuple") = pure false) (hsub : isSubtype (.type cls) (.type T) = pure true)
  (hbody : Ex K A s0 (jG K A s0 cls P) Γ R Δ body O)
  (hh : ∀ e s1 X Γ R Δ, P Γ R Δ -> Sat K X Γ R Δ A s0 s1 -> wpAny K.c.M (A.mark (some (.ref e))) (execs (b0 :: suite) K.env) (Post K A s0 O) NoE s1) (hd : autoParam ((x == ("__debug__" : Str)) = false) aK) :
  Ex1 K A s0 E Γ R Δ (.Try body [.ExceptHandler (some (.Name x np)) none (b0 :: suite) hpos] [] [] pos) O := fun s X S => by
 refine wpAny_Try_except (wM (hbody s X S) (fun f s1 hp => ?_) fun y s1 hp => ?_)
 ·cases f with
  | next => exact wpAny_execs_nil hp
  | brk => exact hp
  | cont => exact hp
  | ret v => exact hp
 ·obtain ⟨e, s1, X, Γ, R, Δ, h', tk, hP, S1, F⟩ := hp
  refine F.note (s := { s1 with heap := h', toks := tk }) fun h2 F2 ht => ?_
  obtain ⟨L, a0, hL, ht⟩ := ht
  refine F2.flight (s := { s1 with heap := h2, toks := tk }) ⟨a0, _, ht⟩ fun h3 F3 tr => ?_
  have S3 : Sat K X Γ R Δ A s0 { s1 with heap := h3, toks := tk } := S1.pst ⟨h3, tk, F3.hx S1.good.bas⟩
  refine wpAny_handleBy_builtin (b := true) hexc hnt hsub (wpAny_Name (hg _ _ _ _ _ S3.good.bas.stays S3.good.globals S3.good.builtins S3.good.kind hk ⟨rfl, F3.exc.typeIs (s := { s1 with heap := h3, toks := tk }), ?_⟩) hd)
  rw [if_pos rfl]
  refine F3.flight (s := { s1 with heap := h3, toks := tk }) tr fun h4 F4 _ => ?_
  exact bk (hh e _ X Γ R Δ hP (S1.pst ⟨h4, tk, F4.hx S1.good.bas⟩))
end
section
open PySem PySem.Spec PySem.Calls PyProof.Rows PySem.W PySem.SeqAt
open MeetsSeq
theorem uY (l : Addr) (items : Array Value) (n : Nat) (x : Value) (e : Nat -> Bool) (j : Nat) (hj : j < items.size) (hit : e j = true) (k : Nat) (hs1 : items.size <= sizeLine) :
  ∀ i : Nat, j - i = k -> i <= j -> (∀ m (hm : m < items.size), i <= m -> m < j -> e m = false) -> Meets (Builtin.«list.remove.loop» ⟨[.ref l, x, rawInt i], []⟩)
   (fun A R s => s.heap.get? l = some { cls := .type "list", dict := none, data := .seq items n, slots := #[] } /\ (∀ i (hi : i < items.size), EqAt A.in1 s items[i] x (e i)) /\ R (.ok (.ret .none)) { s with heap := s.heap.update l (Obj.mapSeq fun xs => xs.eraseIdxIfInBounds j) }) := by
 induction k with
 | zero =>
  intro i hk hij hno prog w A R s h
  obtain ⟨hp, g, d, tk, os⟩ := s; obtain ⟨hl, he, h⟩ := h
  have hij' : i = j := by omega
  subst hij'
  wp_walk using AutoSeq1.wpAny_loadPart' hl
  have hi : items[((i : Nat) : Int).toNat]? = some items[i] := by simp [hj]
  rw [hi]
  refine wB (he _ hj prog w _ _ ?_)
  rw [hit]
  have hz' : (items.eraseIdxIfInBounds i).size <= sizeLine + 1 := Nat.le_trans (size_erased items _) (Nat.le_succ_of_le hs1)
  wp_walk using (wpAny_updateSeq hl rfl (hz := hs1) (_hz' := hz')), AutoSeq1.wpAny_loadPart' hl
  simpa using h
 | succ k ih =>
  intro i hk hij hno prog w A R s h
  obtain ⟨hp, g, d, tk, os⟩ := s; obtain ⟨hl, he, h⟩ := h
  have hlt : i < items.size := by omega
  wp_walk using AutoSeq1.wpAny_loadPart' hl
  have hi : items[((i : Nat) : Int).toNat]? = some items[i] := by simp [hlt]
  have hc : ((i : Int) + 1) = ((i + 1 : Nat) : Int) := by push_cast; rfl
  rw [hi]
  refine wB (he _ hlt prog w _ _ ?_)
  rw [hno i hlt (Nat.le_refl _) (by omega)]
  wp_walk
  rw [hc]
  exact ⟨plainId_quiet plain_remove_loop _, codeAny_builtin entry_remove_loop (by
   rw [Around.under_plainId plain_remove_loop _]
   exact ih (i + 1) (by omega) (by omega) (fun m hm h1 h2 => hno m hm (by omega) h2) prog w A R _ ⟨hl, he, h⟩)⟩
theorem uZ (l : Addr) (items : Array Value) (n : Nat) (x : Value) (e : Nat -> Bool) (j : Nat) (hj : j < items.size) (hit : e j = true) (hno : ∀ m (hm : m < items.size), m < j -> e m = false) (hs1 : items.size <= sizeLine) :
  Meets (Builtin.«list.remove» ⟨[.ref l, x], []⟩)
   (fun A R s => s.heap.get? l = some { cls := .type "list", dict := none, data := .seq items n, slots := #[] } /\ (∀ i (hi : i < items.size), EqAt A.in1 s items[i] x (e i)) /\ R (.ok (.ret .none)) { s with heap := s.heap.update l (Obj.mapSeq fun xs => xs.eraseIdxIfInBounds j) }) := by
 intro prog w A R s h
 obtain ⟨hp, g, d, tk, os⟩ := s; obtain ⟨hl, he, h⟩ := h
 wp_walk using AutoSeq1.wpAny_loadPart' hl
 exact ⟨plainId_quiet plain_remove_loop _, codeAny_builtin entry_remove_loop (by
  rw [Around.under_plainId plain_remove_loop _]
  exact uY l items n x e j hj hit _ hs1 0 rfl (Nat.zero_le _) (fun m hm _ h2 => hno m hm h2) prog w A R _ ⟨hl, he, h⟩)⟩
theorem u6 (l : Addr) (items : Array Value) (n : Nat) (x : Value) (k : Nat) :
  ∀ i : Nat, items.size - i = k -> Meets (Builtin.«list.remove.loop» ⟨[.ref l, x, rawInt i], []⟩)
   (fun A R s => s.heap.get? l = some { cls := .type "list", dict := none, data := .seq items n, slots := #[] } /\ (∀ i (hi : i < items.size), EqAt A.in1 s items[i] x false) /\ raisesNew "ValueError" A R s) := by
 induction k with
 | zero =>
  intro i hk prog w A R s h
  obtain ⟨hp, g, d, tk, os⟩ := s; obtain ⟨hl, he, h⟩ := h
  wp_walk using AutoSeq1.wpAny_loadPart' hl
  have hi : items[((i : Nat) : Int).toNat]? = none := by simp; omega
  rw [hi]
  wp_walk
  exact_raiseError plainExc_ValueError h.1 h.2
 | succ k ih =>
  intro i hk prog w A R s h
  obtain ⟨hp, g, d, tk, os⟩ := s; obtain ⟨hl, he, h⟩ := h
  have hlt : i < items.size := by omega
  wp_walk using AutoSeq1.wpAny_loadPart' hl
  have hi : items[((i : Nat) : Int).toNat]? = some items[i] := by simp [hlt]
  have hc : ((i : Int) + 1) = ((i + 1 : Nat) : Int) := by push_cast; rfl
  rw [hi]
  refine wB (he _ hlt prog w _ _ ?_)
  wp_walk
  rw [hc]
  exact ⟨plainId_quiet plain_remove_loop _, codeAny_builtin entry_remove_loop (by
   rw [Around.under_plainId plain_remove_loop _]
   exact ih (i + 1) (by omega) prog w A R _ ⟨hl, he, h⟩)⟩
theorem u9 (l : Addr) (items : Array Value) (n : Nat) (x : Value) :
  Meets (Builtin.«list.remove» ⟨[.ref l, x], []⟩)
   (fun A R s => s.heap.get? l = some { cls := .type "list", dict := none, data := .seq items n, slots := #[] } /\ (∀ i (hi : i < items.size), EqAt A.in1 s items[i] x false) /\ raisesNew "ValueError" A R s) := by
 intro prog w A R s h
 obtain ⟨hp, g, d, tk, os⟩ := s; obtain ⟨hl, he, h⟩ := h
 wp_walk using AutoSeq1.wpAny_loadPart' hl
 exact ⟨plainId_quiet plain_remove_loop _, codeAny_builtin entry_remove_loop (by
  rw [Around.under_plainId plain_remove_loop _]
  exact u6 l items n x _ 0 rfl prog w A R _ ⟨hl, he, h⟩)⟩
noncomputable def lX (d : PyData) : List PyData -> List PyData
 | [] => []
 | y :: ys => if PyData.eqv y d then ys else y :: lX d ys
theorem Aq (d : PyData) {ds : List PyData} :  (ds.any fun y => PyData.eqv y d) = true -> ∃ j, ∃ hj : j < ds.length, PyData.eqv ds[j] d = true /\ (∀ m (hm : m < ds.length), m < j -> PyData.eqv ds[m] d = false) /\ lX d ds = ds.eraseIdx j := by
 induction ds with
 | nil =>
  intro h
  simp at h
 | cons y ys ih =>
  intro h
  unfold lX
  by_cases hy : PyData.eqv y d = true
  ·exact ⟨0, by simp, hy, fun m _ hm => absurd hm (Nat.not_lt_zero _), by rw [if_pos hy]; rfl⟩
  ·rw [List.any_cons, Bool.eq_false_iff.mpr hy, Bool.false_or] at h
   obtain ⟨j, hj, h1, h2, h3⟩ := ih h
   refine ⟨j + 1, by simp; omega, by simpa using h1, fun m hm hlt => ?_, by rw [if_neg hy, h3]; rfl⟩
   cases m with
   | zero => simpa using hy
   | succ m => simpa using h2 m (by simpa using hm) (by omega)
theorem RdL.eraseIdx (r : RdL w X h vs ds) (i : Nat) : RdL w X h (vs.eraseIdx i) (ds.eraseIdx i) :=
 r.ind (P := fun vs ds => ∀ i : Nat, RdL w X h (vs.eraseIdx i) (ds.eraseIdx i)) (fun i => .nil) (fun _ _ _ _ a r q i => by
  cases i with
  | zero => exact r
  | succ i => exact .cons a (q i)) i
theorem RdL.at (r : RdL w X h vs ds) (i : Nat) (hv : i < vs.length) (hd : i < ds.length) : Rd w X h vs[i] ds[i] := by
 obtain ⟨v, e, q⟩ := r.get i (List.getElem?_eq_getElem hd)
 rw [List.getElem?_eq_getElem hv] at e
 rw [Option.some.inj e]; exact q
theorem in1_units (A : Around) : A.in1.units <= A.units + 1 := by first | exact Nat.le_refl _ | exact Nat.le_succ _
section
variable {E : Err} 
theorem HW (hu : A.units <= 580) (r : RdL c.w X s.heap vs ds) (rv : Rd c.w X s.heap v d) (h1 : ∀ y ∈ ds, y.canLay0 = true) (h2 : d.canLay0 = true) (h3 : d.depth <= 1000) (i : Nat) (hi : i < vs.length) (hd : i < ds.length) : EqAt A.in1 s vs[i] v (PyData.eqv ds[i] d) := by
 obtain ⟨_, q1⟩ := (r.at i hi hd).reads (h1 _ (List.getElem_mem hd))
 obtain ⟨_, q2⟩ := rv.reads h2
 refine eqAt_reads _ _ _ _ _ _ _ _ q1 q2 (h1 _ (List.getElem_mem hd)) h2 ?_
 have := in1_units A
 rw [mR]; omega
theorem Ex1.Ar {x : Str} (hx : (x, D) ∈ R) (h : EvS K A s0 E Γ R (bL K.c D (.list ds) :: Δ) e d) (hz : ds.length <= 10 ^ 6) (h1 : ∀ y ∈ ds, y.canLay0 = true) (h2 : d.canLay0 = true) (h3 : d.depth <= 1000) (hany : (ds.any fun y => PyData.eqv y d) = true)
  (hd : autoParam ((x == ("__debug__" : Str)) = false) aK) (hline : autoParam ((apos.endLine == cpos.line) = true) aR) (hs : autoParam (starEach [e] K.env = [(false, eval e K.env)]) aR) (hi : autoParam (interactive K.env = false) aR) (hsw : autoParam (swapsWith (.Call (.Attribute (.Name x np) "remove" apos) [e] [] cpos) none pos.line K.env = pure false) aR)
  (hbase : autoParam (attributeBase (.Name x np) "remove" K.env (eval (.Name x np) K.env) = eval (.Name x np) K.env) aR) :
  Ex1 K A s0 E Γ R (bL K.c D (.list ds) :: Δ) (.Expr (.Call (.Attribute (.Name x np) "remove" apos) [e] [] cpos) pos) (bY Γ R (bL K.c D (.list (lX d ds)) :: Δ)) := fun s X S => by
 refine wpAny_Expr ?_ hi hsw
 have hl0 : oK K.c.w X s.heap D ds := S.res _ (.head _)
 obtain ⟨vs0, n0, e0, r0⟩ := hl0
 refine gV PySem.F.plainAttrs_list PySem.F.slot_list_remove PySem.F.type_list_remove (wu S hx ⟨⟨_, e0, rfl⟩, fun a ha => ⟨_, (by cases ha; exact e0), rfl⟩, wK (h s X S) (fun v s1 q => ?_)⟩ hd) hbase hline hs
 obtain ⟨S1, r1⟩ := q
 have hl1 : oK K.c.w X s1.heap D ds := S1.res _ (.head _)
 obtain ⟨vs, n, e1, r⟩ := hl1
 have fq := S1.fps _ (.head _) D (.head _)
 obtain ⟨j, hj, ht, hno, hr⟩ := Aq d hany
 have hlen := r.length
 refine call_meets PySem.F.slot_list_remove ⟨_, e1, rfl⟩ PySem.F.entry_list_remove (PySem.F.args_list_remove_2 _ _) (uZ D vs.toArray n v (fun i => (ds[i]?.map fun y => PyData.eqv y d).getD false) j (by simp [hlen]; exact hj) (by simp [hj, ht]) (fun m hm hlt => ?_) (by simp [hlen, sizeLine_eq]; omega)) ⟨e1, fun i hi => ?_, ?_⟩
 ·have hm' : m < ds.length := by simpa [hlen] using hm
  simp [hm', hno m hm' hlt]
 ·have hi' : i < vs.length := by simpa using hi
  have hd' : i < ds.length := by omega
  have := HW (A := A) (s := s1) S1.lev.units r r1 h1 h2 h3 i hi' hd'
  simpa [hd'] using this
 ·have u : IsL (s1.heap.update D (Obj.mapSeq fun xs => xs.eraseIdxIfInBounds j)) D _ _ := IsL.update (n := n) (items := vs.toArray) e1 (fun xs => xs.eraseIdxIfInBounds j)
  have hs' : Heap.SameBut D s1.heap (s1.heap.update D (Obj.mapSeq fun xs => xs.eraseIdxIfInBounds j)) := Heap.SameBut.update ..
  have q : HX K.c [D] s1.heap (s1.heap.update D (Obj.mapSeq fun xs => xs.eraseIdxIfInBounds j)) := .sameBut hs' (S1.base D fq.2.1) fq.2.2.2
  have hY : ∀ y ∈ [D], y ∈ X := fun y hy => lS hy ▸ fq.1
  have e' : vs.toArray.eraseIdxIfInBounds j = (vs.eraseIdx j).toArray := by
   have hj' : j < vs.length := by omega
   simp [Array.eraseIdxIfInBounds, hj']
  exact ⟨X, _, _, _, rfl, S1.changed hs' ⟨vs.eraseIdx j, _, by rw [u, e'], by rw [hr]; exact (r.eraseIdx j).hx q S1.good.bas.frs hY⟩⟩
theorem Ex1.Av {x : Str} {P : Gam -> Ros -> Del K -> Prop} (hx : (x, D) ∈ R) (h : ∀ E, EvS K A s0 E Γ R (bL K.c D (.list ds) :: Δ) e d) (h1 : ∀ y ∈ ds, y.canLay0 = true) (h2 : d.canLay0 = true) (h3 : d.depth <= 1000) (hany : (ds.any fun y => PyData.eqv y d) = false) (hP : P Γ R (bL K.c D (.list ds) :: Δ))
  (hd : autoParam ((x == ("__debug__" : Str)) = false) aK) (hline : autoParam ((apos.endLine == cpos.line) = true) aR) (hs : autoParam (starEach [e] K.env = [(false, eval e K.env)]) aR) (hi : autoParam (interactive K.env = false) aR) (hsw : autoParam (swapsWith (.Call (.Attribute (.Name x np) "remove" apos) [e] [] cpos) none pos.line K.env = pure false) aR)
  (hbase : autoParam (attributeBase (.Name x np) "remove" K.env (eval (.Name x np) K.env) = eval (.Name x np) K.env) aR) (hfr : autoParam (∃ L, K.env.frame = some L) aF) (hst : ∃ outer, A.frames = some (K.env :: outer)) :
  Ex1 K A s0 (jG K A s0 "ValueError" P) Γ R (bL K.c D (.list ds) :: Δ) (.Expr (.Call (.Attribute (.Name x np) "remove" apos) [e] [] cpos) pos) O := fun s X S => by
 refine wpAny_Expr ?_ hi hsw
 have hl0 : oK K.c.w X s.heap D ds := S.res _ (.head _)
 obtain ⟨vs0, n0, e0, r0⟩ := hl0
 refine gV PySem.F.plainAttrs_list PySem.F.slot_list_remove PySem.F.type_list_remove (wu S hx ⟨⟨_, e0, rfl⟩, fun a ha => ⟨_, (by cases ha; exact e0), rfl⟩, wK (h _ s X S) (fun v s1 q => ?_)⟩ hd) hbase hline hs
 obtain ⟨S1, r1⟩ := q
 have hl1 : oK K.c.w X s1.heap D ds := S1.res _ (.head _)
 obtain ⟨vs, n, e1, r⟩ := hl1
 have hlen := r.length
 refine call_meets PySem.F.slot_list_remove ⟨_, e1, rfl⟩ PySem.F.entry_list_remove (PySem.F.args_list_remove_2 _ _) (u9 D vs.toArray n v) ⟨e1, fun i hi => ?_, S1.good.bas.handled, fun h' tk e hx => ?_⟩
 ·have hi' : i < vs.length := by simpa using hi
  have hd' : i < ds.length := by omega
  have := HW (A := A) (s := s1) S1.lev.units r r1 h1 h2 h3 i hi' hd'
  rw [show PyData.eqv ds[i] d = false from by simpa using List.any_eq_false.mp hany _ (List.getElem_mem hd')] at this
  simpa using this
 ·obtain ⟨outer, hA⟩ := hst
  obtain ⟨L, hL⟩ := hfr
  exact ⟨e, s1, X, Γ, R, _, h', tk, hP, S1, Fly.raised S1.good.bas hA hL hx⟩
theorem EvF.listOf {f : Str} (g : Glb c f (.type "list")) (h : Ev c l X env Γ e (.list ds)) (hz : ds.length <= 10 ^ 6) (hf : autoParam (env.kindOf f = some .globalImplicit) aK)
  (hd : autoParam ((f == ("__debug__" : Str)) = false) aK) (he : autoParam (starEach [e] env = (false, eval e env) :: starEach [] env) aR) : EvF c l X env Γ (.Call (.Name f np) [e] [] pos) (.list ds) := fun A s L G => by
 refine wpAny_Call_ofName (wpAny_Name (g A _ s env _ G.bas.stays G.globals G.builtins G.kind hf ?_) hd)
 have a := EvA.cons (pos := pos) h .nil he A s L G
 show wpAny c.M A (callWith pos (.type "list") [] (backTo pos (starEach [e] env)) []) _ _ s
 rw [he] at a ⊢
 refine callWith_of (P := fun h => c.base.StaysIn h) rfl dJ (evalArgs_plain (wK a (fun vs s1 q => ?_)))
 obtain ⟨p1, q⟩ := q
 have G1 := G.hx0 p1.hx
 refine ⟨G1.bas.stays, ?_⟩
 have hz := q.bO; clear q; obtain ⟨_, r⟩ := hz
 have hz := r.aQ; clear r; obtain ⟨a, vs, n, ha, ea, q⟩ := hz
 refine call_list_seq a (.inl rfl) ea rfl rfl (fun h' k hk e' => ?_) (by simp [q.length, sizeLine_eq]; omega)
 have q1 : HX c [] s1.heap h' := .cP hk
 have hD : s1.heap.get? s1.heap.objs.size = none := ak (Nat.le_refl _)
 exact ⟨p1.trans ⟨h', s1.toks, q1⟩, _, p1.hx.none_of (fun z => nomatch z) hD, vs, k, e', (q.wide fun a ha => (lC ha).elim (fun e => .inr (e ▸ hD)) .inl).hx0 q1 fun a ha => .tail _ (G1.bas.frs a ha)⟩
end
end
noncomputable def dh (L : List α) : List (Nat × α) := L.zipIdx.map fun p => (p.2, p.1)
theorem yF (L : List α) (g : α -> PyData) : mV (L.map g) = (dh L).map fun z => .tuple [.int (z.1 : Nat), g z.2] := by
 unfold mV dh
 rw [List.zipIdx_map, List.map_map, List.map_map]
 rfl
theorem eV (L : List α) : (dh L).length = L.length := by simp [dh]
theorem eX {L : List α} {a : α} (h : (dh L)[i]? = some (j, a)) : j = i /\ L[i]? = some a := by
 unfold dh at h
 rw [List.getElem?_map, List.getElem?_zipIdx] at h
 cases hx : L[i]? with
 | none => rw [hx] at h; cases h
 | some x =>
  rw [hx] at h
  simp at h
  exact ⟨h.1.symm, by rw [h.2]⟩
theorem pL {L : List α} {a : α} (h : (j, a) ∈ dh L) : L[j]? = some a := by
 obtain ⟨i, hi⟩ := List.getElem?_of_mem h
 obtain ⟨rfl, q⟩ := eX hi
 exact q
theorem EvI.enum {L : List α} {g : α -> PyData} {f : Str} (hg : Glb c f (.type "enumerate")) (h : Ev c l X env Γ e (.list (L.map g))) (hf : autoParam (env.kindOf f = some .globalImplicit) aK)
  (hd : autoParam ((f == ("__debug__" : Str)) = false) aK) (he : autoParam (starEach [e] env = (false, eval e env) :: starEach [] env) aR) : EvI c l X env Γ true (.Call (.Name f np) [e] [] pos) ((dh L).map fun z => .tuple [.int (z.1 : Nat), g z.2]) :=
 (EvI.IV hg hf h hd he).as (yF L g)
theorem EvC.nmD {K : Type} [DecidableEq K] (dk : bh c.w K) (k0 : K) {L : List α} {g : α -> PyData} {x : Str} {p : Pos} {kx vx iter : Expr} {scope : Scope} {pos : Pos} (kf : α -> K) (f : α -> PyData) (hg : ∀ a b, g a = g b -> a = b) (hI : EvI c l X env Γ false iter (L.map g)) (hc : Cap env scope Γ Γc)
  (hk : ∀ cs C XL, ∀ a ∈ L, Ev c l XL (aq scope cs C env) ((x, g a) :: Γc) kx (dk.enc (kf a))) (he : ∀ cs C XL, ∀ a ∈ L, Ev c l XL (aq scope cs C env) ((x, g a) :: Γc) vx (f a)) (hz : L.length <= 10 ^ 6) (hn : (L.map kf).Nodup) (hs : autoParam (scB env scope = true) aK)
  (ht : autoParam (tgB scope [x] = true) aK) (ho : autoParam (offB [x] (Γc.map (·.1)) = true) aK) (hd : autoParam ((x == ("__debug__" : Str)) = false) aK) (hfold : autoParam (∀ x, foldedSetIterable iter env x = pure x) aI) :
  EvC c l X env Γ (.DictComp kx vx [⟨.Name x p, iter, [], 0⟩] scope pos) (.dict (L.map fun a => (dk.enc (kf a), f a))) :=
 (EvC.KH dk k0 (fun _ => true) kf f (TB.name hg hd) hI (fY.of hs) hc (lJ ht) (bC ho) (fun _ _ _ _ _ => .nil) (fun cs C XL a ha _ => hk cs C XL a ha) (fun cs C XL a ha _ => he cs C XL a ha) hz (by rw [filter_true]; exact hn) hfold).as (by rw [filter_true])
theorem Ev.item {i : Int} (h1 : Ev c l X env Γ value (.list ds)) (h2 : Ev c l X env Γ slice (.int i)) (h0 : 0 <= i) (hi : i < 2 ^ 63) (hx : ds[i.toNat]? = some d) (hs : autoParam (∀ o i, subscripted slice false o i = operate [o, i] (getItem o i)) aU) : Ev c l X env Γ (.Subscript value slice pos) d :=
 Ev.sub h1 h2 (P2.item h0 hi hx hs)
section
open PySem PySem.Spec PySem.Calls PyProof.Rows PySem.W Builtin Builtin.ObjectAttr Builtin.Getset_descriptor
section
variable {E : Err} 
end
section
variable {E : Err} {K : Frag} {x : Addr} {ox : Obj} {n : Nat} {name : Str}
theorem KN {attr : Option Value} (X : K.In s.heap) (I : InstAt s.heap x ox C (some (dictOf es n))) (hg : plainGet K C name = true) (hh : hasDictIn K C = true) (ha : findIn K (.ref C) name = some attr) (hn : noGet K attr = true)
  (hl : getL name es = some (some v)) (hv : handedIn v = true) (h : Q v { s with toks := s.toks + 1 }) : wpAny (model prog w) A (getAttr (.ref x) name expr) Q E s :=
 get_value X I (plainGet_of hg).1 (findObj_own hh ha hn (by rw [lookIn_dict, hl])) hv h
theorem sy (name : Str) (hsh : Int) (key v : Value) : ∀ es : List DictEntry, (putL name hsh key v es).length <= es.length + 1
 | [] => by simp [putL]
 | a :: r => by
  unfold putL
  split
  ·simp
  ·simpa using sy name hsh key v r
theorem setA {Q : Unit -> Shared -> Prop} (X : K.In s.heap) (I : InstAt s.heap x ox C (some (dictOf es n))) (hd : ox.dict = some dx) (hp : plainOver K C = true) (ht : takerIn K C name = some none) (hh : hasDictIn K C = true)
  (hs : findIn K (.ref C) "__setattr__" = some (some (.builtin "object.__setattr__"))) (hl : (getL name es).isSome = true) (hz : es.length <= 900)
  (h : ∀ h' tk tk0, Heap.SameBut dx s.heap h' -> h'.get? dx = some (dictOf (putL name (PyData.keyHash w.params name) (.str name tk0) v es) (putN name es n)) -> Q () { s with heap := h', toks := tk }) :
  wpAny (model prog w) A (setAttr (.ref x) name v) Q E s := by
 refine set_plain X I hs (osa_open (s := { s with toks := s.toks + 1 }) X I hp ht fun b => ?_)
 obtain ⟨cd, hc, hd'⟩ := any_some hh
 have D : s.heap.get? dx = some (dictOf es n) := by
  have := I.dict
  rw [hd] at this
  exact this
 obtain ⟨hx, hcl, hn, -⟩ := I
 obtain ⟨oc, odi, oda, osl⟩ := ox
 dsimp only at hcl hd
 subst hcl hd
 refine wB (wP (wB (wB (wpAny_loadPart hx (wB (Looks.here (s := { s with toks := s.toks + 1 }) (looks_clsIn X hc) ?_))))))
 rw [hd']
 refine wP (a := some dx) (wB (wP (wB ?_)))
 unfold nsSet
 refine wB (wB (wpAny_askSetting (wP (wB (wpAny_mkText (wB (wpAny_loadPart D ?_)))))))
 dsimp only
 have c : (!es.toArray.any (·.key.isStr name) && es.toArray.any (·.refKey)) = false := by
  rw [<- Array.any_toList, <- Array.any_toList]
  unfold getL at hl
  split at hl
  ·rename_i en he
   rw [List.any_eq_true.mpr ⟨en, List.mem_of_find?_eq_some he, List.find?_some he⟩]; rfl
  ·split at hl
   ·cases hl
   ·rename_i z; rw [Bool.not_eq_true] at z; rw [z, Bool.and_false]
 rw [aRefKeyMayBeTheName_at, c]
 have e1 : Obj.putName name (PyData.keyHash w.params name) (.str name (s.toks + 1)) v (dictOf es n) = dictOf (putL name (PyData.keyHash w.params name) (.str name (s.toks + 1)) v es) (putN name es n) := putName_dict ..
 have D' : (s.heap.update dx (Obj.putName name (PyData.keyHash w.params name) (.str name (s.toks + 1)) v)).get? dx = some (dictOf (putL name (PyData.keyHash w.params name) (.str name (s.toks + 1)) v es) (putN name es n)) := by
  rw [Heap.get?_update_self _ D (by rw [e1]; rfl), e1]
 refine wpAny_updatePart D ?_
 have hlen := sy name (PyData.keyHash w.params name) (.str name (s.toks + 1)) v es
 refine wB (wpAny_lookBehind D' (pastItsLine_dict (by rw [List.size_toArray, sizeLine_eq]; omega)) ?_)
 exact wP (h _ _ _ (Heap.SameBut.update ..) D')
theorem KQ {p : Addr} (X : K.In s.heap) (I : InstAt s.heap x ox C (some od)) (hg : plainGet K C name = true) (hc : (clsIn K C).isSome = true) (ha : findIn K (.ref C) name = some (some (.ref p)))
  (hgt : specialIn K (.ref p) "__get__" = some (some (.builtin "member_descriptor.__get__"))) (ht : takesIn K (.ref p) = some true) (hp : slotIn K p C = some i) (hv : (ox.slots[i]?).join = some v) (hh : handedIn v = true) (h : Q v { s with toks := s.toks + 1 }) :
  wpAny (model prog w) A (getAttr (.ref x) name expr) Q E s := by
 refine get_bind X I (plainGet_of hg).1 (findObj_data hc ha hgt ht) (plainGet_of hg).2 (wpAny_call (slot_get (s := { s with toks := s.toks + 1 }) X I hp hv ?_))
 show wpAny _ _ (handedOut v) _ _ _
 rw [handedOut_of hh]
 exact wP h
theorem Fq {Q : Unit -> Shared -> Prop} {p : Addr} (X : K.In s.heap) (I : InstAt s.heap x ox C (some od)) (hs : findIn K (.ref C) "__setattr__" = some (some (.builtin "object.__setattr__"))) (hpl : plainOver K C = true) (ht : takerIn K C name = some (some (.ref p)))
  (hT : typeIn K (.ref p) = some (.type "member_descriptor")) (hp : slotIn K p C = some i) (hi : i < 1000) (hf : ∀ sl, ({ ox with slots := sl } : Obj).isFreed = false)
  (h : ∀ h' tk, Heap.SameBut x s.heap h' -> h'.get? x = some { ox with slots := (ox.slots ++ Array.replicate (i + 1 - ox.slots.size) none).setIfInBounds i (some v) } -> Q () { s with heap := h', toks := tk }) :
  wpAny (model prog w) A (setAttr (.ref x) name v) Q E s := by
 refine set_plain X I hs (osa_descr (s := { s with toks := s.toks + 1 }) KF.slot_mset X I hpl ht hT ?_)
 obtain ⟨n, tn, owner, behind, tb, d, sl, cd, ho, hc, hm, hb, rfl⟩ := slot_of X hp
 have L0 := I.type (M := model prog w)
 have L1 := looks_mroIn (M := model prog w) X hm
 have L2 : Looks (model prog w) s.heap (Slots.slotNamesOf (.ref C)) cd.slotNames := (looks_clsIn X hc).andThen .now
 have hx := I.at_
 obtain ⟨hh, g, dr, t, os⟩ := s
 dsimp only at ho hx L0 L1 L2
 have f0 := looks_field (M := model prog w) ho 0 (v := .str n tn) rfl
 have f1 := looks_field (M := model prog w) ho 1 (v := owner) rfl
 have f3 := looks_field (M := model prog w) ho 3 (v := .builtin "proto.slot#set") rfl
 have f4 := looks_field (M := model prog w) ho 4 (v := .int behind tb) rfl
 refine codeAny_call_builtin KF.slot_mset.plain KF.entry_mset (KF.slot_mset.check _ _ _ _ _ _ _ _ ⟨_, ho, rfl⟩ (KF.args_mset _ _ _) ?_)
 unfold Builtin.«member_descriptor.__set__» descrSet descrStoreThrough descrCheckInstance descrNameAndClass isInstance
 have f5 : Looks (model prog w) hh (descrItself (.ref p)) [.ref p] := ((Looks.ld (part := none) ho).andThen .now).andThen (Looks.of_pure (by kernel_rfl))
 repeat lk
 refine ⟨Code.quiet_builtin _ (by decide +kernel), codeAny_builtin KF.entry_slotset ?_⟩
 unfold Builtin.«proto.slot#set» Slots.target
 repeat lk
 rw [if_neg hb]
 refine wP (wB ?_)
 unfold setSlotAt
 dsimp only
 rw [if_neg (by rw [sizeLine_eq]; omega)]
 refine wpAny_updatePart hx (wP (h _ _ (Heap.SameBut.update ..) ?_))
 exact Heap.get?_update_self _ hx (hf _)
end
end
noncomputable def KR (f : Flow) : Value := match f with | .ret v => v | _ => .none
noncomputable def yG (Q : Value -> Shared -> Prop) : Result -> Shared -> Prop
 | .ok (.ret v), s' => Q v s'
 | _, _ => False
theorem pN {f : Value} (h : codeAny c.M A (.call f ⟨vs, []⟩) (yG Q) s) : wpAny c.M A (call f vs) Q NoE s := by
 refine wpAny_call (codeAny_mono h fun r s' hr => ?_)
 rcases r with e | f
 ·exact hr.elim
 ·cases f <;> exact hr
theorem Aw {ps : List Str} {args : Args} (F : FnAt c a fd body) (hok : fG fd.scope ps = true) (LA : Lev l A) (B : Bas c A X s.heap)
  (hbind : wpAny c.M A.in1 (bindArgs fd args) (fun binds s1 => Pst c s s1 /\ ∃ vs : List Value, binds = ps.zip vs /\ vs.length = ps.length /\ ∀ s2, InCallC s1 (callEnvC fd s1.heap.objs.size a).locals (bindL (callEnvC fd s1.heap.objs.size a).kindOf (ps.zip vs) fun _ => none) (callEnvC fd s1.heap.objs.size a).cells (bindC (callEnvC fd s1.heap.objs.size a).kindOf (ps.zip vs) fun _ => none) s2 ->
   wpAny c.M (A.deeper (callEnvC fd s1.heap.objs.size a)) (execs body (callEnvC fd s1.heap.objs.size a)) (fun f s' => Q (KR f) s') NoE s2) NoE s) : codeAny c.M A (.call (.ref a) args) (yG Q) s := by
 obtain ⟨o, ho, hd⟩ := F.at_
 obtain ⟨h1, h2, h3, h4, h5, h6, h7⟩ := jC hok
 have st := B.stays
 refine codeAny_call_function (by have := LA.depth; show A.depth < 1000; omega) (st a o ho) hd h6 h7 F.body (F.code.keeps st) (bk (wK hbind (fun binds s1 hb => ?_)))
 obtain ⟨p1, vs, rfl, hvl, hk⟩ := hb
 have st1 := (B.hx0 p1.hx).stays
 rw [F.clo]
 refine wpAny_newFunctionEnv_cells h5 (fun y hy => ?_) fun env he s2 x => ?_
 ·have hy' : y.1 ∈ ps := by
   have := lM (f := (·.1)) hy
   rw [List.map_fst_zip (by omega)] at this
   exact this
  rcases j7 (h3 _ hy') with hk | hk
  ·exact .inl (mem_lookup h1 hk)
  ·obtain ⟨b, e, _⟩ := gR (h := s1.heap.push { cls := .type "frame", data := .dict #[] }) (acc := []) h1 hk
   rw [Heap.size_push] at e
   exact .inr ⟨mem_lookup h1 hk, by rw [e]; rfl⟩
 ·subst he
  refine ⟨(F.lim.keeps st1).keeps x.toInCall.keep, codeAny_func (wM (hk s2 x) (fun f s' hq => ?_) fun _ _ f => f.elim)⟩
  cases f <;> exact hq
noncomputable def I6 (c : Cfg) (l : Nat) (fd : FuncData) (L a : Addr) (X0 : List Addr) (post : PyData -> List (Res (c.push L)) -> Prop) : Act := { cQ c l fd L a X0 with post := post }
noncomputable def I7 (s : Shared) (fp : List Addr) : Shared := { s with heap := hideAll s.heap fp }
noncomputable def okA (F : Frag) (C : Addr) (name : Str) : Bool :=
 plainGet F C name && hasDictIn F C && findIn F (.ref C) name == some none && plainOver F C && takerIn F C name == some none && findIn F (.ref C) "__setattr__" == some (some (.builtin "object.__setattr__"))
noncomputable def qN (F : Frag) (C : Addr) (name : Str) (p : Addr) (i : Nat) : Bool :=
 plainGet F C name && (clsIn F C).isSome && findIn F (.ref C) name == some (some (.ref p)) && specialIn F (.ref p) "__get__" == some (some (.builtin "member_descriptor.__get__")) && takesIn F (.ref p) == some true && slotIn F p C == some i &&
  plainOver F C && takerIn F C name == some (some (.ref p)) && typeIn F (.ref p) == some (.type "member_descriptor") && findIn F (.ref C) "__setattr__" == some (some (.builtin "object.__setattr__")) && decide (i < 1000)
noncomputable def okM (F : Frag) (C : Addr) (name : Str) (f : Addr) : Bool :=
 plainGet F C name && findIn F (.ref C) name == some (some (.ref f)) && typeIn F (.ref f) == some (.type "function")
inductive OkAI (F : Frag) (C : Addr) (name : Str) : Prop
 | mk (k1 : plainGet F C name = true) (k2 : hasDictIn F C = true) (k3 : findIn F (.ref C) name = some none) (k4 : plainOver F C = true) (k5 : takerIn F C name = some none) (k6 : findIn F (.ref C) "__setattr__" = some (some (.builtin "object.__setattr__")))
theorem qO {name : Str} (h : okA F C name = true) : OkAI F C name := by
 unfold okA at h
 simp only [Bool.and_eq_true, beq_iff_eq] at h
 obtain ⟨⟨⟨⟨⟨k1, k2⟩, k3⟩, k4⟩, k5⟩, k6⟩ := h
 exact ⟨k1, k2, k3, k4, k5, k6⟩
inductive OkSI (F : Frag) (C : Addr) (name : Str) (p : Addr) (i : Nat) : Prop
 | mk (k1 : plainGet F C name = true) (k2 : (clsIn F C).isSome = true) (k3 : findIn F (.ref C) name = some (some (.ref p))) (k4 : specialIn F (.ref p) "__get__" = some (some (.builtin "member_descriptor.__get__"))) (k5 : takesIn F (.ref p) = some true) (k6 : slotIn F p C = some i)
  (k7 : plainOver F C = true) (k8 : takerIn F C name = some (some (.ref p))) (k9 : typeIn F (.ref p) = some (.type "member_descriptor")) (k10 : findIn F (.ref C) "__setattr__" = some (some (.builtin "object.__setattr__"))) (k11 : i < 1000)
theorem mZ {name : Str} {p : Addr} (h : qN F C name p i = true) : OkSI F C name p i := by
 unfold qN at h
 simp only [Bool.and_eq_true, beq_iff_eq, decide_eq_true_eq] at h
 obtain ⟨⟨⟨⟨⟨⟨⟨⟨⟨⟨k1, k2⟩, k3⟩, k4⟩, k5⟩, k6⟩, k7⟩, k8⟩, k9⟩, k10⟩, k11⟩ := h
 exact ⟨k1, k2, k3, k4, k5, k6, k7, k8, k9, k10, k11⟩
inductive OkMI (F : Frag) (C : Addr) (name : Str) (f : Addr) : Prop
 | mk (k1 : plainGet F C name = true) (k2 : findIn F (.ref C) name = some (some (.ref f))) (k3 : typeIn F (.ref f) = some (.type "function"))
theorem Ft {name : Str} {f : Addr} (h : okM F C name f = true) : OkMI F C name f := by
 unfold okM at h
 simp only [Bool.and_eq_true, beq_iff_eq] at h
 exact ⟨h.1.1, h.1.2, h.2⟩
theorem fC {x : Addr} (h1 : h.get? x = some (mO C dx sl)) (h2 : h.get? dx = some od) : InstAt h x (mO C dx sl) C (some od) := ⟨h1, rfl, rfl, h2⟩
section
variable {E : Err} 
theorem Sat.vd (S : Sat K X Γ R Δ A s0 s) (hF : F.In K.c.base) : F.In s.heap := fun a o e => S.good.bas.inBase (hF a o e)
end
noncomputable def wz : PyData -> Bool
 | .tuple ds => ds.all flat
 | d => flat d
theorem sE : ∀ {vs : List Value} {ds : List PyData}, RdL w X h vs ds -> ds.all flat = true -> RdL w X' h' vs ds
 | _, _, .nil, _ => .nil
 | _, _, .cons a r, hf => by
  simp only [List.all_cons, Bool.and_eq_true] at hf
  exact .cons (a.flat hf.1) (sE r hf.2)
theorem Rd.safe (r : Rd w X h v d) (hs : wz d = true) (ht : ∀ a vs n, h.get? a = some (jx vs n) -> a ∈ X' -> a ∈ X) : Rd w X' h v d := by
 cases r with
 | tuple ha e q => exact .tuple (fun z => ha (ht _ _ _ e z)) e (sE q hs)
 | none => exact .none
 | bool b => exact .bool b
 | int i t => exact .int i t
 | str x t => exact .str x t
 | list => exact absurd (show false = true from hs) Bool.false_ne_true
 | opq a => exact .opq a
 | tys => exact .tys
 | inst ha hd e e2 k q1 q2 => exact Rd.flat (.inst ha hd e e2 k q1 q2) hs
 | dict ha e k n q => exact Rd.flat (.dict ha e k n q) hs
theorem I8 {fp : List Addr} (q : HX c [] (hideAll h fp) h') (hb : ∀ a ∈ fp, c.base.get? a = none) (hf : ∀ a ∈ fp, a ∉ c.fr) : HX c fp h h' :=
 ⟨fun b o hn e => q.up b o (fun z => nomatch z) (hideAll_get _ e hn), fun st => q.st fun b o e => hideAll_get _ (st b o e) fun z => (by rw [hb b z] at e; cases e), fun b o hbf e n => q.lv b o hbf (hideAll_get _ e fun z => hf b z hbf) n⟩
section
variable {E : Err} {os : Obs} 
theorem yH {name : Str} 
  (h : wpAny c.M A (eval o env) (fun ov s1 => ∀ pl, wpAny c.M A (getMethod ov name pl) (fun fm s2 => wpAny c.M A (callWith pos fm.1 fm.2 (backTo pos (starEach args env)) []) Q E s2) E s1) E s)
  (hbase : autoParam (attributeBase o name env (eval o env) = eval o env) aR)
  (hfew : autoParam (methodCallForm (args.length + ([] : List Keyword).length) (backTo pos (starEach args env)) (backToKw pos (keywordEach [] env)) = true) aR)
  (hline : autoParam ((apos.endLine == pos.line) = true) aR) : wpAny c.M A (eval (.Call (.Attribute o name apos) args [] pos) env) Q E s := by
 rw [arm_eval_Call, hbase]
 refine wB (wM h (fun ov s₁ h₁ => ?_) fun _ _ e => e)
 refine wB (wpAny_standAt ?_)
 have hpos : methodCallPos true o env apos pos = pure pos := by unfold methodCallPos; simp [hline]
 unfold methodCall
 rw [hfew]
 refine wB (wpAny_holding (wM (h₁ _) (fun fm s2 h2 => ?_) fun _ _ e => e))
 exact wB (wpAny_of_eq hpos h2)
end
set_option genInjectivity true in
inductive cV where
 | data (d : PyData)
 | inst (C dx : Addr) (ns : List Str) (fs : List (Str × PyData)) (gs : List (Nat × PyData))
theorem iM (r : Rd w X h v d) : handedIn v = true := by cases r <;> rfl
inductive HY (w : World) (X : List Addr) (h : Heap) (a C dx : Addr) (ns : List Str) (fs : List (Str × PyData)) (gs : List (Nat × PyData)) : Prop
 | mk (sl : Array (Option Value)) (es : List DictEntry) (n : Nat) (e : h.get? a = some (mO C dx sl)) (e2 : h.get? dx = some (dictOf es n)) (ks : KeysAre w es (ns.map .str)) (hf : ∀ p ∈ fs, ∃ v, getL p.1 es = some (some v) /\ Rd w X h v p.2) (hg : ∀ p ∈ gs, ∃ v, (sl[p.1]?).join = some v /\ Rd w X h v p.2)
noncomputable def resN (c : Cfg) (a C dx : Addr) (ns : List Str) (fs : List (Str × PyData)) (gs : List (Nat × PyData)) : Res c where
 fp := [a, dx]
 P := fun X h => HY c.w X h a C dx ns fs gs
 alive := fun X h H b hb => by
  obtain ⟨sl, es, n, e1, e2, _⟩ := H
  rcases lC hb with rfl | hb
  ·exact ⟨_, e1⟩
  ·rw [lS hb]; exact ⟨_, e2⟩
 keep := fun X h h' Y H q hF hy => by
  obtain ⟨sl, es, n, e1, e2, k, f, g⟩ := H
  have hY : ∀ y ∈ Y, y ∈ X := fun y hy' => (hy y hy').1
  have hF' : ∀ a ∈ c.fr, a ∈ X := fun a ha => (hF a ha).1
  have m1 : a ∈ [a, dx] := .head _
  have m2 : dx ∈ [a, dx] := .tail _ (.head _)
  refine ⟨sl, es, n, q.exact (fun z => (hy _ z).2 m1) (fun z => (hF _ z).2 m1) e1, q.exact (fun z => (hy _ z).2 m2) (fun z => (hF _ z).2 m2) e2, k, fun p hp => ?_, fun p hp => ?_⟩
  ·obtain ⟨v, hv, r⟩ := f p hp; exact ⟨v, hv, r.hx q hF' hY⟩
  ·obtain ⟨v, hv, r⟩ := g p hp; exact ⟨v, hv, r.hx q hF' hY⟩
 wide := fun X X' h H hs => by
  obtain ⟨sl, es, n, e1, e2, k, f, g⟩ := H
  refine ⟨sl, es, n, e1, e2, k, fun p hp => ?_, fun p hp => ?_⟩
  ·obtain ⟨v, hv, r⟩ := f p hp; exact ⟨v, hv, r.wide hs⟩
  ·obtain ⟨v, hv, r⟩ := g p hp; exact ⟨v, hv, r.wide hs⟩
noncomputable def cN (c : Cfg) (a : Addr) : cV -> Res c
 | .data d => bL c a d
 | .inst C dx ns fs gs => resN c a C dx ns fs gs
noncomputable abbrev aP := List (Addr × cV)
noncomputable abbrev aj (c : Cfg) (L : aP) : List (Res c) := L.map fun p => cN c p.1 p.2
noncomputable def cV.fp (a : Addr) : cV -> List Addr
 | .data _ => [a]
 | .inst _ dx _ _ _ => [a, dx]
noncomputable def fpA (L : aP) : List Addr := L.flatMap fun p => p.2.fp p.1
theorem bD {D : cV} : (cN c a D).fp = D.fp a := by cases D <;> rfl
theorem dj {L : aP} : a ∈ fpA L ↔ ∃ r ∈ aj c L, a ∈ r.fp := by
 unfold fpA aj
 simp only [List.mem_flatMap, List.mem_map]
 constructor
 ·rintro ⟨p, hp, ha⟩
  exact ⟨_, ⟨p, hp, rfl⟩, by rw [bD]; exact ha⟩
 ·rintro ⟨_, ⟨p, hp, rfl⟩, ha⟩
  exact ⟨p, hp, by rw [bD] at ha; exact ha⟩
theorem pO {L : Addr} {D : cV} : (cN (c.push L) a D).P X h ↔ (cN c a D).P X h := by
 cases D with
 | data d => cases d <;> exact Iff.rfl
 | inst => exact Iff.rfl
structure pP (c : Cfg) (X : List Addr) (h : Heap) (L : aP) : Prop where
 at_ : ∀ r ∈ aj c L, r.P X h
 off : ∀ a ∈ fpA L, a ∈ X /\ c.base.get? a = none /\ a ∉ c.fr
 apart : (aj c L).Pairwise fun r r' => ∀ a ∈ r.fp, a ∉ r'.fp
inductive sG (c : Cfg) (X : List Addr) (s : Shared) (L : aP) (P : PyData -> aP -> Prop) (v : Value) (s' : Shared) : Prop
 | mk (h' : Heap) (tk : Nat) (d : PyData) (L' : aP) (e : s' = { s with heap := h', toks := tk }) (hP : P d L') (q : HX c (fpA L) s.heap h') (res : ∀ r ∈ aj c L', r.P (fpA L' ++ X) h') (new : ∀ a ∈ fpA L', a ∈ fpA L \/ s.heap.get? a = none) (old : ∀ a ∈ fpA L, a ∈ fpA L') (ap : (aj c L').Pairwise fun r r' => ∀ a ∈ r.fp, a ∉ r'.fp) (r : Rd c.w (fpA L' ++ X) h' v d)
noncomputable def FnA (c : Cfg) (l : Nat) (f : Addr) (ds : List PyData) (L : aP) (P : PyData -> aP -> Prop) : Prop :=
 ∀ A X s vs, Lev l A -> Bas c A X s.heap -> RdL c.w X s.heap vs ds -> pP c X s.heap L -> codeAny c.M A (.call (.ref f) ⟨vs, []⟩) (yG (sG c X s L P)) s
theorem lK {L M : aP} : aj c (L ++ M) = aj c L ++ aj c M := List.map_append
section
variable {E : Err} {L : aP}
theorem Sat.sH (S : Sat K X Γ R (aj K.c L ++ Δ) A s0 s) : pP K.c X s.heap L :=
 ⟨fun r hr => S.res r (lL _ hr), fun a ha => by
  obtain ⟨r, hr, ha⟩ := (dj (c := K.c)).mp ha
  have fq := S.fps r (lL _ hr) a ha
  exact ⟨fq.1, S.base _ fq.2.1, fq.2.2.2⟩, (List.pairwise_append.mp S.apart).1⟩
theorem Sat.H6 {P : PyData -> aP -> Prop} (S : Sat K X Γ R (aj K.c L ++ Δ) A s0 s) (b : sG K.c X s L P v s') :
  ∃ L' d X', P d L' /\ Sat K X' Γ R (aj K.c L' ++ Δ) A s0 s' /\ Rd K.c.w X' s'.heap v d := by
 obtain ⟨h', tk, d, L', rfl, hP, q, hos, hnew, hall, hap, hv⟩ := b
 have hf : ∀ a ∈ fpA L, a ∈ X /\ s0.heap.get? a = none /\ a ∉ K.N /\ a ∉ K.c.fr := fun a ha => by
  obtain ⟨r, hr, ha⟩ := (dj (c := K.c)).mp ha
  exact S.fps r (lL _ hr) a ha
 have hout : ∀ r2 ∈ Δ, ∀ y ∈ fpA L, y ∉ r2.fp := fun r2 hr2 y hy => by
  obtain ⟨r, hr, ha⟩ := (dj (c := K.c)).mp hy
  exact (List.pairwise_append.mp S.apart).2.2 r hr r2 hr2 y ha
 have hloc : K.env.locals ∉ fpA L := fun z => (hf _ z).2.2.1 S.env.1
 have hcel : ∀ x a, K.env.cells.lookup x = some a -> a ∉ fpA L := fun x a e z => (hf _ z).2.2.1 (S.env.2 x a e)
 have hX' : ∀ a ∈ fpA L' ++ X, a ∈ X \/ s.heap.get? a = none := fun a ha => (lA ha).elim (fun z => (hnew a z).imp_left fun w => (hf a w).1) .inl
 have hYX : ∀ y ∈ fpA L, y ∈ fpA L' ++ X := fun y hy => lR _ (hf y hy).1
 have hF : ∀ a ∈ K.c.fr, a ∈ fpA L' ++ X := fun a ha => lR _ (S.good.bas.frs a ha)
 have alive' : ∀ a ∈ fpA L', ∃ o, h'.get? a = some o := fun a ha => by
  obtain ⟨r, hr, ha⟩ := (dj (c := K.c)).mp ha
  exact r.alive _ _ (hos r hr) a ha
 refine ⟨L', d, fpA L' ++ X, hP, ?_, hv⟩
 exact
 {same := S.same.to
  hx := S.hx.young q fun a ha => (hf a ha).2.1
  sub := fun a ha => lR _ (S.sub a ha)
  own := fun a ha => ⟨lR _ (S.own a ha).1, (S.own a ha).2⟩
  env := S.env
  good :=
  {bas := ⟨S.good.bas.handled, let ⟨o, b, f⟩ := S.good.bas.below; ⟨o, q.below f b, f⟩, fun a ha => (by
    by_cases hz : a ∈ fpA L'
    ·exact alive' a hz
    ·exact q.alive (fun z => hz (hall a z)) (S.good.bas.alloc a ((lA ha).elim (fun z => absurd z hz) id))), hF⟩
   kind := S.good.kind
   globals := S.good.globals
   builtins := S.good.builtins
   cells := S.good.cells
   inj := S.good.inj
   cal := fun x a e => let ⟨v, i⟩ := S.good.cal x a e; ⟨v, q.cell (hcel _ _ e) i⟩
   vars := fun p hp => (by
    obtain ⟨u, Hu, ru⟩ := S.good.vars p hp
    refine ⟨u, ?_, (ru.wide hX').hx q hF hYX⟩
    cases Hu with
    | loc kk n e => exact .loc kk (q.ns hloc n) e
    | cell kk l i => exact .cell kk l (q.cell (hcel _ _ l) i)
    | free kk l i dd => exact .free kk l (q.cell (hcel _ _ l) i) dd) }
  tg := S.tg.hx q hloc fun t ht z => (hf t z).2.2.1 ht
  names := fun p hp => (by
   cases S.names p hp with
   | loc k n e => exact .loc k (q.ns hloc n) e
   | cell k l i => exact .cell k l (q.cell (hcel _ _ l) i)
   | free k l i d => exact .free k l (q.cell (hcel _ _ l) i) d)
  res := fun r2 hr => (lA hr).elim (hos r2) fun hr => r2.keep _ _ _ _ (r2.wide _ _ _ (S.res r2 (lR _ hr)) hX') q (fun a ha => ⟨hF a ha, fun z => (S.fps r2 (lR _ hr) a z).2.2.2 ha⟩) fun y hy => ⟨hYX y hy, hout r2 hr y hy⟩
  fps := fun r2 hr a ha => (by
   rcases lA hr with hr | hr
   ·have ha' : a ∈ fpA L' := (dj (c := K.c)).mpr ⟨r2, hr, ha⟩
    refine ⟨lL _ ha', ?_⟩
    rcases hnew a ha' with z | z
    ·exact (hf a z).2
    ·have fq := S.off z
     exact ⟨fq.2.1, fq.2.2.1, fq.2.2.2.1⟩
   ·have t := S.fps r2 (lR _ hr) a ha
    exact ⟨lR _ t.1, t.2⟩)
  apart := List.pairwise_append.mpr ⟨hap, (List.pairwise_append.mp S.apart).2.1, fun r1 h1 r2 h2 a ha => (hnew a ((dj (c := K.c)).mpr ⟨r1, h1, ha⟩)).elim (fun z => hout r2 h2 a z) fun z => (S.off z).2.2.2.2 r2 (lR _ h2)⟩
  base := S.base
  lev := S.lev }
end
variable {D' : cV} {L L' L1 La : aP} {P : PyData -> aP -> Prop} {fp : List Addr}
theorem I9 {ps : List Str} {post : PyData -> List (Res (c.push s.heap.objs.size)) -> Prop} (F : FnAt c a fd body) (hok : fG fd.scope ps = true) (hl : l < 60) (LA : Lev l A) (B : Bas c A X s.heap) (hvl : vs.length = ps.length)
  (hΓ : ∀ p ∈ Γ, ∃ v, (p.1, v) ∈ ps.zip vs /\ Rd c.w X s.heap v p.2) (hR : ∀ p ∈ R, (p.1, Value.ref p.2) ∈ ps.zip vs) (Ln : pP c X s.heap La)
  (x : InCallC s (callEnvC fd s.heap.objs.size a).locals (bindL (callEnvC fd s.heap.objs.size a).kindOf (ps.zip vs) fun _ => none) (callEnvC fd s.heap.objs.size a).cells (bindC (callEnvC fd s.heap.objs.size a).kindOf (ps.zip vs) fun _ => none) s1) :
  Sat (I6 c l fd s.heap.objs.size a (X.filter (· ∉ fpA La)) post) ((I6 c l fd s.heap.objs.size a (X.filter (· ∉ fpA La)) post).N ++ X) Γ R (aj _ La) (A.deeper (callEnvC fd s.heap.objs.size a)) (I7 s (fpA La)) s1 := by
 obtain ⟨h1, h2, h3, h4, h5, h6, h7⟩ := jC hok
 have hfr : (callEnvC fd s.heap.objs.size a).frame = some s.heap.objs.size := rfl
 have hks : ∀ y, (callEnvC fd s.heap.objs.size a).kindOf y = fd.scope.names.lookup y := fun y => rfl
 obtain ⟨hh, tk, rfl⟩ := x.toInCall.same
 have q0 : HX c [] s.heap hh := .cP x.toInCall.keep
 have qh : HX (c.push s.heap.objs.size) [] (hideAll s.heap (fpA La)) hh := .cP fun b o e => x.toInCall.keep b o (of_hideAll _ e)
 have hN : ∀ b ∈ (s.heap.objs.size :: fd.scope.names.filterMap (fun p => if p.2 = .cell then (callEnvC fd s.heap.objs.size a).cells.lookup p.1 else none) : List Addr), s.heap.get? b = none := fun b hb => by
  rcases lC hb with rfl | hb
  ·exact ak (Nat.le_refl _)
  ·obtain ⟨p, hp, e⟩ := List.mem_filterMap.mp hb
   split at e
   ·exact ak (Nat.le_of_lt (x.above p.1 b (PySem.mem_of_lookup e)))
   ·cases e
 have hbase : ∀ b, s.heap.get? b = none -> c.base.get? b = none := fun b e => by
  cases e' : c.base.get? b with
  | none => rfl
  | some o => rw [B.inBase e'] at e; cases e
 have hcl : ∀ y, (y, NameKind.cell) ∈ fd.scope.names -> ∃ b, (callEnvC fd s.heap.objs.size a).cells.lookup y = some b := fun y hy => by
  obtain ⟨b, e, _⟩ := gR (h := s.heap.push { cls := .type "frame", data := .dict #[] }) (acc := []) h1 hy
  rw [Heap.size_push] at e
  exact ⟨b, e⟩
 have hmem : ∀ y b, (callEnvC fd s.heap.objs.size a).cells.lookup y = some b -> (y, b) ∈ (callEnvC fd s.heap.objs.size a).cells := fun y b e => PySem.mem_of_lookup e
 have alive : ∀ b ∈ (s.heap.objs.size :: fd.scope.names.filterMap (fun p => if p.2 = .cell then (callEnvC fd s.heap.objs.size a).cells.lookup p.1 else none) : List Addr), ∃ o, hh.get? b = some o := fun b hb => by
  rcases lC hb with rfl | hb
  ·obtain ⟨o, e, _⟩ := gQ x.toInCall.ns
   exact ⟨o, e⟩
  ·obtain ⟨p, hp, e⟩ := List.mem_filterMap.mp hb
   split at e
   ·obtain ⟨o, e, _⟩ := cU (x.cell _ _ e)
    exact ⟨o, e⟩
   ·cases e
 have hin : ∀ y b, (callEnvC fd s.heap.objs.size a).cells.lookup y = some b -> b ∈ (s.heap.objs.size :: fd.scope.names.filterMap (fun p => if p.2 = .cell then (callEnvC fd s.heap.objs.size a).cells.lookup p.1 else none) : List Addr) := fun y b e => by
  by_cases hm : (y, NameKind.cell) ∈ fd.scope.names
  ·exact .tail _ (List.mem_filterMap.mpr ⟨(y, .cell), hm, by simpa using e⟩)
  ·have e' : (cellsFrom (s.heap.objs.size + 1) fd.scope.names []).lookup y = some b := e
   rw [eU hm] at e'
   cases e'
 have hnd : ((ps.zip vs).map (·.1)).Nodup := by rw [List.map_fst_zip (by omega)]; exact h4
 have hps : ∀ y v, (y, v) ∈ ps.zip vs -> y ∈ ps := fun y v hm => by
  have := lM (f := (·.1)) hm
  rw [List.map_fst_zip (by omega)] at this
  exact this
 have has : ∀ y v, (y, v) ∈ ps.zip vs -> Has (callEnvC fd s.heap.objs.size a) hh y v := fun y v hm => by
  rcases j7 (h3 y (hps y v hm)) with hk | hk
  ·have hk' := (hks y).trans (mem_lookup h1 hk)
   exact .loc hk' x.toInCall.ns (pH hk' hnd hm)
  ·have hk' := (hks y).trans (mem_lookup h1 hk)
   obtain ⟨b, e⟩ := hcl y hk
   have := x.cell _ _ e
   rw [pI (by rw [hk']; decide) hnd hm] at this
   exact .cell hk' e this
 exact
 {same := ⟨hh, tk⟩
  hx := qh
  sub := fun b hb => lR _ (List.mem_filter.mp hb).1
  own := fun b hb => ⟨lL _ hb, iK (hN b hb)⟩
  env := ⟨.head _, hin⟩
  good := {
   bas := {
    handled := B.handled
    below := by
     obtain ⟨outer, b, f⟩ := B.below
     refine ⟨_, ⟨Around.frames_deeper b.stack, q0.st b.stays, ?_⟩, fun env he L hL => ?_⟩
     ·exact .cons (by show fd.scope.kind ≠ .module; rw [h5]; decide) hfr x.toInCall.ns (hbase _ (ak (Nat.le_refl _))) (q0.frames f b.frames)
     ·rcases lC he with rfl | he
      ·rw [hfr] at hL; cases hL; exact .head _
      ·exact .tail _ (f env he L hL)
    alloc := fun b hb => (lA hb).elim (alive b) fun z => q0.alive (fun z => nomatch z) (B.alloc b z)
    frs := fun b hb => (lC hb).elim (fun e => e ▸ .head _) fun z => lR _ (B.frs b z) }
   kind := h5
   globals := F.glob
   builtins := F.blt
   cells := fun y hy => by
    rcases hy with hy | hy
    ·exact hcl y (mem_of_lookup ((hks y).symm.trans hy))
    ·exact absurd rfl (h2 _ (mem_of_lookup ((hks y).symm.trans hy)))
   inj := fun y z b e1 e2 => name_of_addr x.apart (hmem _ _ e1) (hmem _ _ e2)
   cal := fun y b e => ⟨_, x.cell _ _ e⟩
   vars := fun p hp => by
    obtain ⟨v, hm, rv⟩ := hΓ p hp
    exact ⟨v, has _ _ hm, (rv.wide fun b hb => (lA hb).elim (fun z => .inr (hN b z)) .inl).hx0 q0 fun b hb => lR _ (B.frs b hb)⟩ }
  tg := ⟨⟨_, x.toInCall.ns⟩, fun y hy => by
   rcases j7 hy with hk | hk
   ·exact ⟨_, .head _, .loc ((hks y).trans (mem_lookup h1 hk)) rfl x.toInCall.ns⟩
   ·obtain ⟨b, e⟩ := hcl y hk
    exact ⟨b, hin y b e, .cell ((hks y).trans (mem_lookup h1 hk)) e (x.cell _ _ e)⟩⟩
  names := fun p hp => has _ _ (hR p hp)
  res := fun r hr => by
   obtain ⟨p, hp⟩ := bx hr
   refine pO.mpr ?_
   have h1 := Ln.at_ _ (lM (f := fun p => cN c p.1 p.2) hp)
   have hfp := fun b hb => Ln.off b (dj.mpr ⟨_, lM (f := fun p => cN c p.1 p.2) hp, hb⟩)
   refine (cN c p.1 p.2).keep _ _ _ [] ((cN c p.1 p.2).wide _ _ _ h1 fun b hb => (lA hb).elim (fun z => .inr (hN b z)) .inl) q0 (fun b hb => ⟨lR _ (B.frs b hb), fun z => (hfp b z).2.2 hb⟩) fun y hy => nomatch hy
  fps := fun r hr b hb => by
   obtain ⟨p, hp⟩ := bx hr
   have hb' : b ∈ (cN c p.1 p.2).fp := by rw [bD] at hb ⊢; exact hb
   have hm : b ∈ fpA La := dj.mpr ⟨_, lM (f := fun p => cN c p.1 p.2) hp, hb'⟩
   obtain ⟨ob, hob⟩ := (cN c p.1 p.2).alive _ _ (Ln.at_ _ (lM (f := fun p => cN c p.1 p.2) hp)) b hb'
   obtain ⟨e1, e2, e3⟩ := Ln.off b hm
   refine ⟨lR _ e1, hideAll_none _ hm, fun z => ?_, fun z => ?_⟩
   ·have := hN _ z
    rw [hob] at this; cases this
   ·rcases lC z with z | z
    ·have := hN b (z ▸ .head _)
     rw [hob] at this; cases this
    ·exact e3 z
  apart := by
   have := Ln.apart
   unfold aj at this ⊢
   rw [List.pairwise_map] at this ⊢
   refine this.imp fun {a b} hab x hx => ?_
   rw [bD] at hx ⊢
   have := hab x (by rw [bD]; exact hx)
   rw [bD] at this; exact this
  base := fun b hb => by
   by_cases hz : b ∈ fpA La
   ·exact (Ln.off b hz).2.1
   ·refine hbase b ?_
    cases e : s.heap.get? b with
    | none => rfl
    | some o =>
     have hb' : (hideAll s.heap (fpA La)).get? b = none := hb
     rw [hideAll_get _ e hz] at hb'; cases hb'
  lev := LA.deeper hl }
noncomputable def Ax (c : Cfg) (L : aP) (P : PyData -> aP -> Prop) : PyData -> List (Res c) -> Prop := fun d Δ => wz d = true /\ ∃ L', List.Sublist (aj c L') Δ /\ P d L' /\ (∀ a ∈ fpA L, a ∈ fpA L')
noncomputable abbrev Fv (c : Cfg) (l : Nat) (fd : FuncData) (ad a : Addr) (X0 : List Addr) (L : aP) (P : PyData -> aP -> Prop) : Act := I6 c l fd ad a X0 (Ax _ L P)
theorem ltup {n m : Nat} : bH vs n ≠ jx ws m := fun h => by have := congrArg Obj.cls h; simp at this
theorem KY {n m : Nat} : oH es n ≠ jx ws m := fun h => by have := congrArg Obj.cls h; simp at this
theorem itup {m : Nat} : mO C dx sl ≠ jx ws m := fun h => by have := congrArg Obj.cls h; simp at this
theorem Ay {p : Addr × cV} (hr : (cN c p.1 p.2).P X h) {b : Addr} (hb : b ∈ p.2.fp p.1) {vs : List Value} {n : Nat} (e : h.get? b = some (jx vs n)) : False := by
 obtain ⟨a, D⟩ := p
 cases D with
 | data d =>
  rw [lS hb] at e
  cases d with
  | list es => obtain ⟨vs, n, e', r⟩ := hr; rw [e'] at e; exact ltup (Option.some.inj e)
  | dict kvs => obtain ⟨es, n, e', _⟩ := hr; rw [e'] at e; exact KY (Option.some.inj e)
  | _ => exact hr.elim
 | inst C dx ns fs gs =>
  obtain ⟨sl, es, n, e1, e2, _⟩ := hr
  rcases lC hb with rfl | hb
  ·rw [e1] at e; exact itup (Option.some.inj e)
  ·rw [lS hb, e2] at e; exact KY (Option.some.inj e)
noncomputable def KZ (K : Act) : Out K -> Prop
 | .ret _ => True
 | .next _ _ Δ => K.post .none Δ
 | _ => False
theorem gj {ps : List Str} {es : List PyData} (F : FnAt c a fd body) (hok : fG fd.scope ps = true) (hl : l < 60) (hlen : ps.length = es.length)
  (hbind : ∀ (A : Around) (X : List Addr) (s : Shared) (vs : List Value), Bas c A X s.heap -> RdL c.w X s.heap vs ds -> wpAny c.M A.in1 (bindArgs fd ⟨vs, []⟩) (fun binds s1 => Pst c s s1 /\ ∃ us, binds = ps.zip us /\ RdL c.w X s1.heap us es) NoE s)
  (h : ∀ (A : Around) (s0 : Shared) (ad : Addr) (X0 : List Addr), dg (Fv c l fd ad a X0 La P) s0 -> (∃ outer, A.frames = some (callEnvC fd ad a :: outer)) -> Ex (Fv c l fd ad a X0 La P) A s0 NoE (ps.zip es) [] (aj _ La) body (KZ _)) :
  FnA c l a ds La P := fun A X s vs LA B r Ln => by
 refine Aw (args := ⟨vs, []⟩) F hok LA B (wK (hbind A X s vs B r) (fun binds s1 hb => ?_))
 obtain ⟨p1, us, rfl, ru⟩ := hb
 have hul : us.length = ps.length := by rw [ru.length, hlen]
 refine ⟨p1, us, rfl, hul, fun s2 x => ?_⟩
 have B1 := B.hx0 p1.hx
 have Ln1 : pP c X s1.heap La := ⟨fun r hr => r.keep _ _ _ [] (Ln.at_ r hr) p1.hx (fun b hb => ⟨B.frs b hb, fun z => (Ln.off b (dj.mpr ⟨r, hr, z⟩)).2.2 hb⟩) (fun _ z => nomatch z), Ln.off, Ln.apart⟩
 have S := I9 (post := Ax _ La P) (Γ := ps.zip es) (R := []) F hok hl LA B1 hul (fun p hp => ?_) (fun p hp => nomatch hp) Ln1 x
 ·have hX0 : dg (Fv c l fd s1.heap.objs.size a (X.filter (· ∉ fpA La)) La P) (I7 s1 (fpA La)) := fun b hb => by
   obtain ⟨hb1, hb2⟩ := List.mem_filter.mp hb
   obtain ⟨o, e⟩ := B1.alloc b hb1
   exact ⟨o, hideAll_get _ e (by simpa using hb2)⟩
  have hst : ∃ outer, (A.deeper (callEnvC fd s1.heap.objs.size a)).frames = some (callEnvC fd s1.heap.objs.size a :: outer) := let ⟨o, b, _⟩ := B.below; ⟨o, Around.frames_deeper b.stack⟩
  have hLn : (hideAll s1.heap (fpA La)).get? s1.heap.objs.size = none := iK (ak (Nat.le_refl _))
  refine wK (h _ _ s1.heap.objs.size _ hX0 hst s2 _ S) (fun f s' hp => ?_)
  have fin : ∀ v d X' Δ (Γ : Gam) (R : Ros), Ax _ La P d Δ -> Sat (Fv c l fd s1.heap.objs.size a (X.filter (· ∉ fpA La)) La P) X' Γ R Δ (A.deeper (callEnvC fd s1.heap.objs.size a)) (I7 s1 (fpA La)) s' -> Rd c.w (X.filter (· ∉ fpA La)) s'.heap v d -> sG c X s La P v s' := fun v d X' Δ Γ R hp S' rv => by
   obtain ⟨hsafe, L', hsub, hP, hall⟩ := hp
   obtain ⟨h', tk⟩ := S'.same
   obtain ⟨h1, tk1, q1⟩ := p1
   have q2 : HX c (fpA La) h1 h' := I8 (S'.hx.pop hLn) (fun b hb => (Ln.off b hb).2.1) fun b hb => (Ln.off b hb).2.2
   have hfp : ∀ b ∈ fpA L', b ∈ X' /\ (hideAll h1 (fpA La)).get? b = none := fun b hb => by
    obtain ⟨r, hr, hb⟩ := (dj (c := c.push h1.objs.size)).mp hb
    have := S'.fps r (hsub.subset hr) b hb
    exact ⟨this.1, this.2.1⟩
   have hwide : ∀ b ∈ fpA L' ++ X, b ∈ X' \/ h'.get? b = none := fun b hb => .inl (by
    by_cases hz : b ∈ fpA L'
    ·exact (hfp b hz).1
    ·have hbX : b ∈ X := (lA hb).elim (fun z => absurd z hz) id
     exact S'.sub b (List.mem_filter.mpr ⟨hbX, by simpa using fun z => hz (hall b z)⟩))
   refine ⟨h', tk, d, L', rfl, hP, (q1.mono fun _ z => nomatch z).trans q2, fun r hr => ?_, fun b hb => ?_, hall, ?_, rv.safe hsafe ?_⟩
   ·obtain ⟨p, hp⟩ := bx hr
    have := S'.res _ (hsub.subset (lM (f := fun p => cN (c.push h1.objs.size) p.1 p.2) hp))
    exact (cN c p.1 p.2).wide _ _ _ (pO.mp this) hwide
   ·by_cases hz : b ∈ fpA La
    ·exact .inl hz
    ·refine .inr (q1.none_of (fun z => nomatch z) ?_)
     cases e : h1.get? b with
     | none => rfl
     | some o =>
      have t := (hfp b hb).2
      rw [hideAll_get _ e hz] at t; cases t
   ·have := S'.apart.sublist hsub
    unfold aj at this ⊢
    rw [List.pairwise_map] at this ⊢
    refine this.imp fun {a b} hab x hx => ?_
    rw [bD] at hx ⊢
    have := hab x (by rw [bD]; exact hx)
    rw [bD] at this; exact this
   ·intro b ws n e hb
    have hn : b ∉ fpA L' := fun z => by
     unfold fpA at z
     obtain ⟨p, hp, hb⟩ := List.mem_flatMap.mp z
     have hr := S'.res _ (hsub.subset (lM (f := fun p => cN (c.push h1.objs.size) p.1 p.2) hp))
     exact Ay (c := c.push h1.objs.size) (p := p) hr hb e
    have hbX : b ∈ X := (lA hb).elim (fun z => absurd z hn) id
    exact List.mem_filter.mpr ⟨hbX, by simpa using fun z => hn (hall b z)⟩
  cases f with
  | next =>
   obtain ⟨X', Γ, R, Δ, o, S'⟩ := hp
   exact fin _ .none X' Δ Γ R o S' .none
  | brk => obtain ⟨X', Γ, R, Δ, o, S'⟩ := hp; exact o.elim
  | cont => obtain ⟨X', Γ, R, Δ, o, S'⟩ := hp; exact o.elim
  | ret v =>
   obtain ⟨d', o, ⟨X', Δ', S', hd1⟩, rv⟩ := hp
   exact fin _ d' X' Δ' [] [] hd1 S' rv
 ·obtain ⟨y, d'⟩ := p
  obtain ⟨i, hi⟩ := List.getElem?_of_mem hp
  obtain ⟨e1, e2⟩ := List.getElem?_zip_eq_some.mp hi
  obtain ⟨v, hv, rv⟩ := ru.get i e2
  exact ⟨v, lG (List.getElem?_zip_eq_some.mpr ⟨e1, hv⟩), rv⟩
theorem pQ {x y : Str} {t : Tok} : (Value.str x t).isStr y = true ↔ x = y := by simp [Value.isStr]
theorem j8 {e : DictEntry} {x : Str} (h : pC w e (.str x)) (y : Str) : e.key.isStr y = true ↔ x = y := by
 obtain ⟨⟨t, e1⟩, _⟩ := h
 rw [e1]; exact pQ
theorem Fw {e : DictEntry} {x : Str} (h : pC w e (.str x)) : e.refKey = false := by
 obtain ⟨⟨t, e1⟩, _⟩ := h
 simp [DictEntry.refKey, e1]
theorem wA {x : Str} {a : DictEntry} (h : a.key.isStr x = true) : (a :: es).find? (·.key.isStr x) = some a := List.find?_cons_of_pos (p := fun e : DictEntry => e.key.isStr x) h
theorem jH {x : Str} {a : DictEntry} (h : ¬ a.key.isStr x = true) : (a :: es).find? (·.key.isStr x) = es.find? (·.key.isStr x) := List.find?_cons_of_neg (p := fun e : DictEntry => e.key.isStr x) h
theorem yI : ∀ {ns : List Str}, KeysAre w es (ns.map .str) -> es.length = ns.length := by
 induction es with
 | nil =>
  intro ns h
  cases ns with
  | nil => rfl
  | cons n ns => cases h
 | cons e es ih =>
  intro ns h
  cases ns with
  | nil => cases h
  | cons n ns => rw [List.length_cons, List.length_cons, ih h.cons_inv.2]
theorem lN : ∀ {ns : List Str}, KeysAre w es (ns.map .str) -> es.any (·.refKey) = false := by
 induction es with
 | nil =>
  intro ns h
  rfl
 | cons e es ih =>
  intro ns h
  cases ns with
  | nil => cases h
  | cons n ns => rw [List.any_cons, ih h.cons_inv.2, Fw h.cons_inv.1]; rfl
theorem yJ {name : Str} : ∀ {ns : List Str}, KeysAre w es (ns.map .str) -> name ∉ ns -> es.find? (·.key.isStr name) = none := by
 induction es with
 | nil => exact fun _ _ => rfl
 | cons e es ih =>
  intro ns h hn
  cases ns with
  | nil => cases h
  | cons n ns =>
   have h := h.cons_inv
   rw [jH fun z => hn ((j8 h.1 name).mp z ▸ .head _)]
   exact ih h.2 fun z => hn (.tail _ z)
theorem wC {name : Str} {ns : List Str} (h : KeysAre w es (ns.map .str)) (hn : name ∉ ns) : getL name es = some none := by
 unfold getL
 rw [yJ h hn]
 show (if es.any (·.refKey) then none else some none) = some none
 rw [lN h]; rfl
theorem yK {name : Str} {ns : List Str} (h : KeysAre w es (ns.map .str)) : (getL name es).isSome = true := by
 unfold getL
 split
 ·rfl
 ·rw [lN h]; rfl
noncomputable def jf (name : Str) (ns : List Str) : List Str := if name ∈ ns then ns else ns ++ [name]
theorem vf {name n : Str} {ns : List Str} (hne : n ≠ name) : jf name (n :: ns) = n :: jf name ns := by
 unfold jf
 have : (name ∈ n :: ns) ↔ name ∈ ns := by simp [Ne.symm hne]
 by_cases hm : name ∈ ns
 ·rw [if_pos (this.mpr hm), if_pos hm]
 ·rw [if_neg (fun z => hm (this.mp z)), if_neg hm]; rfl
theorem yL {name : Str} {tk : Tok} : ∀ {ns : List Str}, KeysAre w es (ns.map .str) -> KeysAre w (putL name (PyData.keyHash w.params name) (.str name tk) v es) ((jf name ns).map .str) := by
 induction es with
 | nil =>
  intro ns h
  cases ns with
  | nil => exact .cons ⟨⟨tk, rfl⟩, rfl⟩ .nil
  | cons n ns => cases h
 | cons e es ih =>
  intro ns h
  cases ns with
  | nil => cases h
  | cons n ns =>
   have h := h.cons_inv
   unfold putL
   by_cases z : e.key.isStr name = true
   ·have hn := (j8 h.1 name).mp z
    rw [if_pos z, show jf name (n :: ns) = n :: ns from if_pos (hn ▸ .head _)]
    exact .cons ⟨h.1.1, h.1.2⟩ h.2
   ·rw [if_neg z, vf fun q => z ((j8 h.1 name).mpr q)]
    exact .cons h.1 (ih h.2)
theorem oO {name : Str} {tk : Tok} :  ∃ e, (putL name hsh (.str name tk) v es).find? (·.key.isStr name) = some e /\ e.val = v := by
 induction es with
 | nil =>
  exact ⟨⟨hsh, .str name tk, v⟩, by simp [putL, Value.isStr], rfl⟩
 | cons e es ih =>
  unfold putL
  by_cases z : e.key.isStr name = true
  ·rw [if_pos z, wA (by exact z)]; exact ⟨_, rfl, rfl⟩
  ·rw [if_neg z, jH z]; exact ih
theorem m7 {name x : Str} {tk : Tok} (hne : x ≠ name) {es : List DictEntry} : ∀ {e : DictEntry}, es.find? (·.key.isStr x) = some e -> (∀ e ∈ es, ∃ y t, e.key = .str y t) -> (putL name hsh (.str name tk) v es).find? (·.key.isStr x) = some e := by
 induction es with
 | nil => exact fun h => nomatch h
 | cons a es ih =>
  intro e h hk
  unfold putL
  obtain ⟨y, t, hy⟩ := hk a (.head _)
  by_cases z : a.key.isStr name = true
  ·rw [if_pos z]
   have : ¬ a.key.isStr x = true := fun q => by
    rw [hy, pQ] at z q
    exact hne (q.symm.trans z)
   rw [jH this] at h
   rw [jH (by exact this)]; exact h
  ·rw [if_neg z]
   by_cases q : a.key.isStr x = true
   ·rw [wA q] at h ⊢; exact h
   ·rw [jH q] at h ⊢
    exact ih h fun e he => hk e (.tail _ he)
theorem yM {x : Str} (h : getL x es = some (some v)) : ∃ e, es.find? (·.key.isStr x) = some e /\ e.val = v := by
 unfold getL at h
 split at h
 ·rename_i e he; cases h; exact ⟨e, he, rfl⟩
 ·split at h <;> cases h
theorem wD {x : Str} (h : ∃ e, es.find? (·.key.isStr x) = some e /\ e.val = v) : getL x es = some (some v) := by
 obtain ⟨e, he, rfl⟩ := h
 unfold getL; rw [he]
theorem yN : ∀ {ns : List Str}, KeysAre w es (ns.map .str) -> ∀ e ∈ es, ∃ y t, e.key = .str y t := by
 induction es with
 | nil => exact fun _ _ h => nomatch h
 | cons e es ih =>
  intro ns h e' he
  cases ns with
  | nil => cases h
  | cons n ns => exact (lC he).elim (fun z => z ▸ ⟨n, h.cons_inv.1.1⟩) (ih h.cons_inv.2 e')
noncomputable def bf (L : aP) (a : Addr) (D' : cV) : aP := L.map fun p => if p.1 = a then (a, D') else p
theorem dX {D : cV} (h : (a, D) ∈ L) : (a, D') ∈ bf L a D' := List.mem_map.mpr ⟨_, h, by simp⟩
theorem aL {b : Addr} {D : cV} (h : (b, D) ∈ L) (hne : b ≠ a) : (b, D) ∈ bf L a D' := List.mem_map.mpr ⟨_, h, by simp [hne]⟩
theorem pR (h : ∀ p ∈ L, p.1 ≠ a) : bf L a D' = L := by
 unfold bf
 conv => rhs; rw [<- List.map_id L]
 exact List.map_congr_left fun p hp => by rw [if_neg (h p hp)]; rfl
theorem fD {D : cV} : a ∈ D.fp a := by cases D <;> exact .head _
section
variable {E : Err} 
theorem Sat.split (S : Sat K X Γ R (aj K.c L ++ Δ) A s0 s) {a : Addr} {D : cV} (h : (a, D) ∈ L) : ∃ L1 L2, L = L1 ++ (a, D) :: L2 /\ ∀ D', bf L a D' = L1 ++ (a, D') :: L2 := by
 obtain ⟨L1, L2, rfl⟩ := List.append_of_mem h
 refine ⟨L1, L2, rfl, fun D' => ?_⟩
 have ap := (List.pairwise_append.mp S.apart).1
 unfold aj at ap
 rw [List.pairwise_map, List.pairwise_append] at ap
 obtain ⟨_, a2, a3⟩ := ap
 have n1 : ∀ p ∈ L1, p.1 ≠ a := fun p hp e => by
  have := a3 p hp (a, D) (.head _) a
  rw [bD, bD] at this
  exact this (e ▸ fD) fD
 have n2 : ∀ p ∈ L2, p.1 ≠ a := fun p hp e => by
  have := (List.pairwise_cons.mp a2).1 p hp a
  rw [bD, bD] at this
  exact this fD (e ▸ fD)
 have e1 := pR (D' := D') n1
 have e2 := pR (D' := D') n2
 unfold bf at e1 e2 ⊢
 rw [List.map_append, List.map_cons, e1, e2, if_pos rfl]
theorem Sat.bf (S : Sat K X Γ R (aj K.c L ++ Δ) A s0 s) {a : Addr} {D D' : cV} {h' : Heap} {tk : Nat} {Y : List Addr} (h : (a, D) ∈ L) (hf : D'.fp a = D.fp a) (hY : ∀ y ∈ Y, y ∈ D.fp a) (q : HX K.c Y s.heap h') (hP : (cN K.c a D').P X h') :
  Sat K X Γ R (aj K.c (Mine.bf L a D') ++ Δ) A s0 { s with heap := h', toks := tk } := by
 obtain ⟨L1, L2, e, he⟩ := S.split h
 rw [he D']
 subst e
 have p1 : ∀ D : cV, List.Perm (aj K.c (L1 ++ (a, D) :: L2) ++ Δ) (cN K.c a D :: (aj K.c L1 ++ aj K.c L2 ++ Δ)) := fun D => by
  rw [lK, List.append_assoc, List.append_assoc]
  exact List.perm_middle
 have S1 := (S.perm (p1 D)).change (r' := cN K.c a D') (tk := tk) (by rw [bD, bD, hf]) (q.mono fun y hy => by rw [bD]; exact hY y hy) hP
 exact S1.perm (p1 D').symm
end
section
variable {E : Err} 
theorem Sat.obj (S : Sat K X Γ R (aj K.c L ++ Δ) A s0 s) {a C dx : Addr} {ns : List Str} {fs : List (Str × PyData)} {gs : List (Nat × PyData)} (h : (a, .inst C dx ns fs gs) ∈ L) : HY K.c.w X s.heap a C dx ns fs gs :=
 S.res _ (lL _ (lM (f := fun p => cN K.c p.1 p.2) h))
theorem Sat.lst (S : Sat K X Γ R (aj K.c L ++ Δ) A s0 s) {a : Addr} {ds : List PyData} (h : (a, .data (.list ds)) ∈ L) : oK K.c.w X s.heap a ds :=
 S.res _ (lL _ (lM (f := fun p => cN K.c p.1 p.2) h))
theorem K3 {name : Str} {ns : List Str} {fs : List (Str × PyData)} (hF : F.In K.c.base) (S : Sat K X Γ R (aj K.c L ++ Δ) A s0 s) (h : (a, .inst C dx ns fs gs) ∈ L) (hk : okA F C name = true) (hd : (name, d) ∈ fs)
  (k : ∀ v s', Sat K X Γ R (aj K.c L ++ Δ) A s0 s' -> Rd K.c.w X s'.heap v d -> Q v s') : wpAny K.c.M A (getAttr (.ref a) name true) Q E s := by
 obtain ⟨sl, es, n, e1, e2, hn, f, g⟩ := S.obj h
 obtain ⟨v, hv, r⟩ := f _ hd
 obtain ⟨k1, k2, k3, k4, k5, k6⟩ := qO hk
 exact KN (S.vd hF) (fC e1 e2) k1 k2 k3 rfl hv (iM r) (k v _ (S.pst .tk) r)
theorem K4 {name : Str} {p : Addr} {ns : List Str} {fs : List (Str × PyData)} (hF : F.In K.c.base) (S : Sat K X Γ R (aj K.c L ++ Δ) A s0 s) (h : (a, .inst C dx ns fs gs) ∈ L) (hk : qN F C name p i = true) (hd : (i, d) ∈ gs)
  (k : ∀ v s', Sat K X Γ R (aj K.c L ++ Δ) A s0 s' -> Rd K.c.w X s'.heap v d -> Q v s') : wpAny K.c.M A (getAttr (.ref a) name true) Q E s := by
 obtain ⟨sl, es, n, e1, e2, hn, f, g⟩ := S.obj h
 obtain ⟨v, hv, r⟩ := g _ hd
 obtain ⟨k1, k2, k3, k4, k5, k6, k7, k8, k9, k10, k11⟩ := mZ hk
 exact KQ (S.vd hF) (fC e1 e2) k1 k2 k3 k4 k5 k6 hv (iM r) (k v _ (S.pst .tk) r)
noncomputable def jo (name : Str) (ds : List PyData) (fs : List (Str × PyData)) : List (Str × PyData) := ds.map (fun d => (name, d)) ++ fs.filter fun p => p.1 != name
noncomputable def vg (i : Nat) (ds : List PyData) (gs : List (Nat × PyData)) : List (Nat × PyData) := ds.map (fun d => (i, d)) ++ gs.filter fun p => p.1 != i
theorem sI {name : Str} {ns : List Str} {fs : List (Str × PyData)} {Q : Unit -> Shared -> Prop} (hF : F.In K.c.base) (S : Sat K X Γ R (aj K.c L ++ Δ) A s0 s) (h : (a, .inst C dx ns fs gs) ∈ L) (hk : okA F C name = true) (hz : ns.length <= 100) (r : ∀ d ∈ ds, Rd K.c.w X s.heap v d)
  (k : ∀ s', Sat K X Γ R (aj K.c (bf L a (.inst C dx (jf name ns) (jo name ds fs) gs)) ++ Δ) A s0 s' -> Q () s') : wpAny K.c.M A (setAttr (.ref a) name v) Q E s := by
 obtain ⟨sl, es, n, e1, e2, hn, f, g⟩ := S.obj h
 obtain ⟨k1, k2, k3, k4, k5, k6⟩ := qO hk
 have hfp := fun b hb => S.fps _ (lL _ (lM (f := fun p => cN K.c p.1 p.2) h)) b hb
 have hdx := hfp dx (.tail _ (.head _))
 refine setA (S.vd hF) (fC e1 e2) rfl k4 k5 k2 k6 (yK hn) (by rw [yI hn]; omega) fun h' tk tk0 hs e => k _ ?_
 have q : HX K.c [dx] s.heap h' := .sameBut hs (S.base dx hdx.2.1) hdx.2.2.2
 have hY : ∀ y ∈ [dx], y ∈ X := fun y hy => lS hy ▸ hdx.1
 have hne : a ≠ dx := fun z => by
  rw [z, e2] at e1
  have := congrArg Obj.cls (Option.some.inj e1)
  simp at this
 refine S.bf h (Y := [dx]) rfl (fun y hy => .tail _ hy) q ⟨sl, _, _, (hs.2 a hne).trans e1, e, yL hn, fun p hp => ?_, fun p hp => ?_⟩
 ·unfold jo at hp
  rcases lA hp with hp | hp
  ·obtain ⟨d, hd⟩ := bx hp
   exact ⟨v, wD oO, (r d hd).hx q S.good.bas.frs hY⟩
  ·obtain ⟨hp, hpn⟩ := List.mem_filter.mp hp
   obtain ⟨u, hu, ru⟩ := f p hp
   obtain ⟨en, he, rfl⟩ := yM hu
   exact ⟨_, wD ⟨en, m7 (by simpa using hpn) he (yN hn), rfl⟩, ru.hx q S.good.bas.frs hY⟩
 ·obtain ⟨u, hu, ru⟩ := g p hp
  exact ⟨u, hu, ru.hx q S.good.bas.frs hY⟩
theorem setG {name : Str} {p : Addr} {ns : List Str} {fs : List (Str × PyData)} {Q : Unit -> Shared -> Prop} (hF : F.In K.c.base) (S : Sat K X Γ R (aj K.c L ++ Δ) A s0 s) (h : (a, .inst C dx ns fs gs) ∈ L) (hk : qN F C name p i = true) (r : ∀ d ∈ ds, Rd K.c.w X s.heap v d)
  (k : ∀ s', Sat K X Γ R (aj K.c (bf L a (.inst C dx ns fs (vg i ds gs))) ++ Δ) A s0 s' -> Q () s') : wpAny K.c.M A (setAttr (.ref a) name v) Q E s := by
 obtain ⟨sl, es, n, e1, e2, hn, f, g⟩ := S.obj h
 obtain ⟨k1, k2, k3, k4, k5, k6, k7, k8, k9, k10, k11⟩ := mZ hk
 have hfp := fun b hb => S.fps _ (lL _ (lM (f := fun p => cN K.c p.1 p.2) h)) b hb
 have ha := hfp a (.head _)
 refine Fq (S.vd hF) (fC e1 e2) k10 k7 k8 k9 k6 k11 (fun _ => rfl) fun h' tk hs e => k _ ?_
 have q : HX K.c [a] s.heap h' := .sameBut hs (S.base a ha.2.1) ha.2.2.2
 have hY : ∀ y ∈ [a], y ∈ X := fun y hy => lS hy ▸ ha.1
 have hne : dx ≠ a := fun z => by
  rw [<- z, e2] at e1
  have := congrArg Obj.cls (Option.some.inj e1)
  simp at this
 refine S.bf h (Y := [a]) rfl (fun y hy => lS hy ▸ .head _) q ⟨_, es, n, e, (hs.2 dx hne).trans e2, hn, fun p hp => ?_, fun p hp => ?_⟩
 ·obtain ⟨u, hu, ru⟩ := f p hp
  exact ⟨u, hu, ru.hx q S.good.bas.frs hY⟩
 ·unfold vg at hp
  rcases lA hp with hp | hp
  ·obtain ⟨d, hd⟩ := bx hp
   refine ⟨v, ?_, (r d hd).hx q S.good.bas.frs hY⟩
   rw [Array.getElem?_setIfInBounds_self_of_lt (by rw [Array.size_append, Array.size_replicate]; omega)]
   rfl
  ·obtain ⟨hp, hpn⟩ := List.mem_filter.mp hp
   obtain ⟨u, hu, ru⟩ := g p hp
   refine ⟨u, ?_, ru.hx q S.good.bas.frs hY⟩
   have hpn' : i ≠ p.1 := (bne_iff_ne.mp hpn).symm
   rw [Array.getElem?_setIfInBounds_ne hpn']
   have hlt : p.1 < sl.size := by
    rcases Nat.lt_or_ge p.1 sl.size with z | z
    ·exact z
    ·rw [Array.getElem?_eq_none z] at hu; cases hu
   rw [Array.getElem?_append_left hlt]; exact hu
end
theorem gn (r : Rd w X h v (opq a)) : v = .ref a := by
 have hz : RdD w X h [(.none, .int (a : Int))] v := r.inv
 cases hz with
 | dict _ _ _ _ _ k => exact (mQ k rfl).elim
 | opq b e => rw [Int.ofNat.inj (PyData.int.inj (Prod.mk.inj (List.cons.inj e).1).2)]
 | tys e => exact nomatch (Prod.mk.inj (List.cons.inj e).1).2
 | inst _ _ _ _ _ _ _ _ _ _ _ _ e => exact nomatch (Prod.mk.inj (List.cons.inj e).1).2
section
variable {E : Err} 
theorem EvS.ref (h : EvS K A s0 E Γ R Δ e (opq D)) (S : Sat K X Γ R Δ A s0 s) {Q : Value -> Shared -> Prop} (k : ∀ s', Sat K X Γ R Δ A s0 s' -> Q (.ref D) s') : wpAny K.c.M A (eval e K.env) Q E s := h.go S fun _ s' S' r => gn r ▸ k s' S'
noncomputable abbrev m8 (env : Env) (value : Expr) (attr : Str) (pos : Pos) : Prop := eval (.Attribute value attr pos) env = (do
   let o <- eval value env
   standAt pos.atName
   let r <- holding [o] (getAttr o attr true)
   letTemporaryGo value o r
   pure r)
theorem EvS.fld {name : Str} {ns : List Str} {fs : List (Str × PyData)} (hF : F.In K.c.base) (he : EvS K A s0 E Γ R (aj K.c L ++ Δ) e (opq a)) (h : (a, .inst C dx ns fs gs) ∈ L) (hd : (name, d) ∈ fs) (hk : okA F C name = true)
  (hn : autoParam (m8 K.env e name pos) aU) : EvS K A s0 E Γ R (aj K.c L ++ Δ) (.Attribute e name pos) d := fun s X S =>
 Attribute_any_ (he.ref S fun s1 S1 => K3 hF S1 h hk hd fun v s2 S2 r2 => ⟨S2, r2⟩) hn
theorem EvS.slt {name : Str} {p : Addr} {ns : List Str} {fs : List (Str × PyData)} (hF : F.In K.c.base) (he : EvS K A s0 E Γ R (aj K.c L ++ Δ) e (opq a)) (h : (a, .inst C dx ns fs gs) ∈ L) (hd : (i, d) ∈ gs) (hk : qN F C name p i = true)
  (hn : autoParam (m8 K.env e name pos) aU) : EvS K A s0 E Γ R (aj K.c L ++ Δ) (.Attribute e name pos) d := fun s X S =>
 Attribute_any_ (he.ref S fun s1 S1 => K4 hF S1 h hk hd fun v s2 S2 r2 => ⟨S2, r2⟩) hn
theorem Ex1.sI {name : Str} {ns : List Str} {fs : List (Str × PyData)} (hF : F.In K.c.base) (hv : EvS K A s0 E Γ R (aj K.c L ++ Δ) e d) (ho : EvS K A s0 E Γ R (aj K.c L ++ Δ) o (opq a)) (hf : flat d = true) (h : (a, .inst C dx ns fs gs) ∈ L) (hk : okA F C name = true) (hz : ns.length <= 100)
  (hs : autoParam (swapsWith e (some (.Attribute o name np)) pos.line K.env = pure false) aR) : Ex1 K A s0 E Γ R (aj K.c L ++ Δ) (.Assign [.Attribute o name np] e pos) (bY Γ R (aj K.c (bf L a (.inst C dx (jf name ns) (jo name [d] fs) gs)) ++ Δ)) := fun s X S =>
 plainObj_wpAny_Assign_Attribute (hv.go S fun v s1 S1 r => ho.ref S1 fun s2 S2 => Mine.sI hF S2 h hk hz (ds := [d]) (fun d' hd' => lS hd' ▸ r.flat hf) fun s3 S3 => ⟨X, _, _, _, rfl, S3⟩) hs
theorem Ex1.setG {name : Str} {p : Addr} {ns : List Str} {fs : List (Str × PyData)} (hF : F.In K.c.base) (hv : EvS K A s0 E Γ R (aj K.c L ++ Δ) e d) (ho : EvS K A s0 E Γ R (aj K.c L ++ Δ) o (opq a)) (hf : flat d = true) (h : (a, .inst C dx ns fs gs) ∈ L) (hk : qN F C name p i = true)
  (hs : autoParam (swapsWith e (some (.Attribute o name np)) pos.line K.env = pure false) aR) : Ex1 K A s0 E Γ R (aj K.c L ++ Δ) (.Assign [.Attribute o name np] e pos) (bY Γ R (aj K.c (bf L a (.inst C dx ns fs (vg i [d] gs))) ++ Δ)) := fun s X S =>
 plainObj_wpAny_Assign_Attribute (hv.go S fun v s1 S1 r => ho.ref S1 fun s2 S2 => Mine.setG hF S2 h hk (ds := [d]) (fun d' hd' => lS hd' ▸ r.flat hf) fun s3 S3 => ⟨X, _, _, _, rfl, S3⟩) hs
theorem Ex1.K5 {name : Str} {ns : List Str} {fs : List (Str × PyData)} (hF : F.In K.c.base) (ho : EvS K A s0 E Γ R (aj K.c L ++ Δ) o (opq a)) (hv : EvS K A s0 E Γ R (aj K.c L ++ Δ) e d2) (h : (a, .inst C dx ns fs gs) ∈ L) (hd : (name, d1) ∈ fs) (hp : P2 K.c (inplaceOp op) d1 d2 d) (hf1 : flat d1 = true) (hf : flat d = true) (hk : okA F C name = true) (hz : ns.length <= 100) :
  Ex1 K A s0 E Γ R (aj K.c L ++ Δ) (.AugAssign (.Attribute o name np) op e pos) (bY Γ R (aj K.c (bf L a (.inst C dx (jf name ns) (jo name [d] fs) gs)) ++ Δ)) := fun s X S =>
 wpAny_AugAssign_AttributeAny (ho.ref S fun s1 S1 => K3 hF S1 h hk hd fun v1 s2 S2 r1 => hv.go S2 fun v2 s3 S3 r2 => hp.at S3 (r1.flat hf1) r2 fun v s4 S4 r4 =>
  Mine.sI hF S4 h hk hz (ds := [d]) (fun d' hd' => lS hd' ▸ r4.flat hf) fun s5 S5 => ⟨X, _, _, _, rfl, S5⟩)
theorem Ex1.K6 {name : Str} {p : Addr} {ns : List Str} {fs : List (Str × PyData)} (hF : F.In K.c.base) (ho : EvS K A s0 E Γ R (aj K.c L ++ Δ) o (opq a)) (hv : EvS K A s0 E Γ R (aj K.c L ++ Δ) e d2) (h : (a, .inst C dx ns fs gs) ∈ L) (hd : (i, d1) ∈ gs) (hp : P2 K.c (inplaceOp op) d1 d2 d) (hf1 : flat d1 = true) (hf : flat d = true) (hk : qN F C name p i = true) :
  Ex1 K A s0 E Γ R (aj K.c L ++ Δ) (.AugAssign (.Attribute o name np) op e pos) (bY Γ R (aj K.c (bf L a (.inst C dx ns fs (vg i [d] gs))) ++ Δ)) := fun s X S =>
 wpAny_AugAssign_AttributeAny (ho.ref S fun s1 S1 => K4 hF S1 h hk hd fun v1 s2 S2 r1 => hv.go S2 fun v2 s3 S3 r2 => hp.at S3 (r1.flat hf1) r2 fun v s4 S4 r4 =>
  Mine.setG hF S4 h hk (ds := [d]) (fun d' hd' => lS hd' ▸ r4.flat hf) fun s5 S5 => ⟨X, _, _, _, rfl, S5⟩)
theorem Ex1.mF (ho : EvS K A s0 E Γ R (aj K.c L ++ Δ) o (opq D)) (h : EvS K A s0 E Γ R (aj K.c L ++ Δ) e d) (hf : flat d = true) (hD : (D, .data (.list ds)) ∈ L) (hz : ds.length <= 10 ^ 6)
  (hline : autoParam ((apos.endLine == cpos.line) = true) aR) (hs : autoParam (starEach [e] K.env = [(false, eval e K.env)]) aR) (hi : autoParam (interactive K.env = false) aR) (hsw : autoParam (swapsWith (.Call (.Attribute o "append" apos) [e] [] cpos) none pos.line K.env = pure false) aR)
  (hbase : autoParam (attributeBase o "append" K.env (eval o K.env) = eval o K.env) aR) :
  Ex1 K A s0 E Γ R (aj K.c L ++ Δ) (.Expr (.Call (.Attribute o "append" apos) [e] [] cpos) pos) (bY Γ R (aj K.c (bf L D (.data (.list (ds ++ [d])))) ++ Δ)) := fun s X S => by
 refine wpAny_Expr ?_ hi hsw
 refine gV PySem.F.plainAttrs_list slot_list_append (by first | exact type_list_append | rfl) (ho.ref S fun s1 S1 => ?_) hbase hline hs
 obtain ⟨vs0, n0, e0, r0⟩ := S1.lst hD
 refine ⟨⟨_, e0, rfl⟩, fun a ha => ⟨_, (by cases ha; exact e0), rfl⟩, h.go S1 fun v s2 S2 r2 => ?_⟩
 obtain ⟨vs, n, e1, r⟩ := S2.lst hD
 have fq := S2.fps _ (lL _ (lM (f := fun p => cN K.c p.1 p.2) hD)) D (.head _)
 refine append_at e1 (fun h' hs' e' => ?_) (by simp [r.length, sizeLine_eq]; omega)
 have q : HX K.c [D] s2.heap h' := .sameBut hs' (S2.base D fq.2.1) fq.2.2.2
 have hY : ∀ y ∈ [D], y ∈ X := fun y hy => lS hy ▸ fq.1
 exact ⟨X, _, _, _, rfl, S2.bf (tk := s2.toks) hD (Y := [D]) rfl (fun y hy => lS hy ▸ .head _) q ⟨vs ++ [v], n + 1, by rw [e']; simp [bH], (r.hx q S2.good.bas.frs hY).append (.cons (r2.flat hf) .nil)⟩⟩
end
section
variable {E : Err} 
inductive XpP (K : Act) (A : Around) (s0 : Shared) (Γ : Gam) (R : Ros) (Δ : Del K) (P : PyData -> aP -> Prop) (v : Value) (s' : Shared) : Prop
 | mk (X' : List Addr) (d : PyData) (L' : aP) (hP : P d L') (S : Sat K X' Γ R (aj K.c L' ++ Δ) A s0 s') (r : Rd K.c.w X' s'.heap v d)
theorem Sat.Az (S : Sat K X Γ R (aj K.c L ++ Δ) A s0 s) (b : sG K.c X s L P v s') : XpP K A s0 Γ R Δ P v s' :=
 let ⟨L', d, X', hP, S', r⟩ := S.H6 b
 ⟨X', d, L', hP, S', r⟩
noncomputable def EvX (K : Act) (A : Around) (s0 : Shared) (E : Err) (Γ : Gam) (R : Ros) (L : aP) (Δ : Del K) (e : Expr) (P : PyData -> aP -> Prop) : Prop :=
 ∀ s X, Sat K X Γ R (aj K.c L ++ Δ) A s0 s -> wpAny K.c.M A (eval e K.env) (XpP K A s0 Γ R Δ P) E s
noncomputable def m9 (K : Act) (A : Around) (s0 : Shared) (E : Err) (Γ : Gam) (R : Ros) (Δ : Del K) (f : Value) (pos : Pos) (args : List Expr) (ds : List PyData) : Prop :=
 ∀ s X Q, Sat K X Γ R Δ A s0 s -> (∀ vs s' X', (∀ a ∈ X, a ∈ X') -> Sat K X' Γ R Δ A s0 s' -> RdL K.c.w X' s'.heap vs ds -> Q ⟨vs, []⟩ s') -> wpAny K.c.M A (evalArgs f true (backTo pos (starEach args K.env)) []) Q E s
theorem m9.nil {f : Value} : m9 K A s0 E Γ R Δ f pos [] [] := fun s X Q S k => evalArgs_nil3 (k [] s X (fun _ h => h) S .nil)
theorem m9.one {f : Value} (h : EvS K A s0 E Γ R Δ e d) (he : autoParam (starEach [e] K.env = (false, eval e K.env) :: starEach [] K.env) aR) : m9 K A s0 E Γ R Δ f pos [e] [d] := fun s X Q S k => by
 rw [he]
 exact evalArgs_plain (Calls.spliced_cons (wK (h s X S) (fun v s1 q => Calls.spliced_nil (k [v] s1 X (fun _ h => h) q.1 (.cons q.2 .nil)))))
theorem EvX.meth {name : Str} {f : Addr} {ns : List Str} {fs : List (Str × PyData)} (hF : F.In K.c.base) (ho : EvS K A s0 E Γ R (aj K.c L ++ Δ) o (opq a)) (h : (a, .inst C dx ns fs gs) ∈ L) (hk : okM F C name f = true) (hns : name ∉ ns)
  (hkeep : gO K.c (.ref f)) (hm : FnA K.c K.l f (opq a :: ds) L P) (ha : m9 K A s0 E Γ R (aj K.c L ++ Δ) (.ref f) pos args ds)
  (hbase : autoParam (attributeBase o name K.env (eval o K.env) = eval o K.env) aR)
  (hfew : autoParam (methodCallForm (args.length + ([] : List Keyword).length) (backTo pos (starEach args K.env)) (backToKw pos (keywordEach [] K.env)) = true) aR)
  (hplain : autoParam (((backTo pos (starEach args K.env)).any (·.1) || ([] : List (Option Str × Sem Value)).any (·.1.isNone)) = false) aR)
  (hline : autoParam ((apos.endLine == pos.line) = true) aR) : EvX K A s0 E Γ R L Δ (.Call (.Attribute o name apos) args [] pos) P := fun s X S => by
 obtain ⟨k1, k2, k3⟩ := Ft hk
 refine yH (ho.ref S fun s1 S1 pl => ?_) hbase hfew hline
 obtain ⟨sl, es, n, e1, e2, hn, fg, gg⟩ := S1.obj h
 refine method_fn (S1.vd hF) (fC e1 e2) (plainGet_of k1).1 (plainGet_of k1).2 k2 k3 (by show (lookIn name (dictOf es n)).map _ = _; rw [lookIn_dict, wC hn hns]; rfl) ?_
 refine callWith_of (P := fun h => K.c.base.StaysIn h) hplain hkeep (ha _ _ _ S1 fun vs s2 X2 hX S2 r2 => ⟨S2.good.bas.stays, ?_⟩)
 refine bk (wK (pN (hm A X2 s2 (.ref a :: vs) S2.lev S2.good.bas (.cons (.opq a) r2) S2.sH)) (fun v s3 hb => ?_))
 exact S2.Az hb
theorem Ex1.Ba (h : EvX K A s0 E Γ R L Δ e P) (hN : ∀ d L', P d L' -> d = .none) (hi : autoParam (interactive K.env = false) aR) (hsw : autoParam (swapsWith e none pos.line K.env = pure false) aR) :
  Ex1 K A s0 E Γ R (aj K.c L ++ Δ) (.Expr e pos) (fun o => ∃ d L', P d L' /\ o = .next Γ R (aj K.c L' ++ Δ)) := fun s X S =>
 wpAny_Expr (wK (h s X S) (fun v s' q => by
  obtain ⟨X', d, L', hP, S', r⟩ := q
  have hd := hN d L' hP
  subst hd
  rw [r.none_inv]
  exact ⟨X', _, _, _, ⟨_, L', hP, rfl⟩, S'⟩)) hi hsw
theorem Ex1.Fx {x : Str} (h : EvX K A s0 E Γ R L Δ e P) (hx : x ∈ K.xs) (hR : ∀ p ∈ R, p.1 ≠ x) (hs : autoParam (swapsWith e (some (.Name x px)) pos.line K.env = pure false) aR) :
  Ex1 K A s0 E Γ R (aj K.c L ++ Δ) (.Assign [.Name x px] e pos) (fun o => ∃ d L', P d L' /\ o = .next ((x, d) :: Γ.filter fun p => p.1 != x) R (aj K.c L' ++ Δ)) := fun s X S =>
 wpAny_Assign_Name (wK (h s X S) (fun v s' q => let ⟨X', d, L', hP, S', r⟩ := q; S'.assign hx hR r fun s2 S2 => ⟨X', _, _, _, ⟨d, L', hP, rfl⟩, S2⟩)) hs
theorem Ex.j9 {st : Stmt} {O1 : Out K -> Prop} (h : Ex1 K A s0 E Γ R Δ st O1) (hn : ∀ o, O1 o -> ∃ Γ1 R1 Δ1, o = .next Γ1 R1 Δ1 /\ Ex K A s0 E Γ1 R1 Δ1 ss O) : Ex K A s0 E Γ R Δ (st :: ss) O :=
 .cons O1 h (fun _ _ _ e => by obtain ⟨Γ1, R1, Δ1, z, q⟩ := hn _ e; cases z; exact q) (fun _ _ _ e => by obtain ⟨_, _, _, z, _⟩ := hn _ e; cases z) (fun _ _ _ e => by obtain ⟨_, _, _, z, _⟩ := hn _ e; cases z) fun _ e => by obtain ⟨_, _, _, z, _⟩ := hn _ e; cases z
theorem Ex.Ja {st : Stmt} {R1 : Ros} (h : Ex1 K A s0 E Γ R Δ st (fun o => ∃ d L', P d L' /\ o = .next Γ1 R1 (aj K.c L' ++ Δ1))) (k : ∀ d L', P d L' -> Ex K A s0 E Γ1 R1 (aj K.c L' ++ Δ1) ss O) : Ex K A s0 E Γ R Δ (st :: ss) O :=
 .j9 h fun o hp => let ⟨d, L', hP, e⟩ := hp; ⟨_, _, _, e, k d L' hP⟩
end
noncomputable def dw : PyData -> Bool
 | .none => true
 | _ => false
theorem kj (r : Rd w X h v d) : plainIs v .none = true /\ (v == .none) = dw d := by
 exact Rd.casesOn (motive_1 := fun v d _ => plainIs v .none = true /\ (v == .none) = dw d) r ⟨rfl, rfl⟩ (fun _ => ⟨rfl, rfl⟩) (fun _ _ => ⟨rfl, rfl⟩) (fun _ _ => ⟨rfl, rfl⟩) (fun _ _ _ => ⟨rfl, rfl⟩) (fun _ _ _ => ⟨rfl, rfl⟩) (fun _ _ _ _ _ => ⟨rfl, rfl⟩) (fun _ => ⟨rfl, rfl⟩) ⟨rfl, rfl⟩ fun _ _ _ _ _ _ _ => ⟨rfl, rfl⟩
theorem P2.isNone : P2 c (compareOp .Is) d .none (.bool (dw d)) := fun l A X s v1 v2 L B r1 r2 => by
 obtain ⟨h1, h2⟩ := kj r1
 rw [r2.none_inv]
 exact wpAny_is_plain h1 (by rw [h2]; exact ⟨.refl, .bool _⟩)
theorem P2.isNotNone : P2 c (compareOp .IsNot) d .none (.bool (!dw d)) := fun l A X s v1 v2 L B r1 r2 => by
 obtain ⟨h1, h2⟩ := kj r1
 rw [r2.none_inv]
 exact wpAny_isNot_plain h1 (by rw [h2]; exact ⟨.refl, .bool _⟩)
section
variable {E : Err} 
theorem EvS.cmp {op : CmpOp} (h1 : EvS K A s0 E Γ R Δ e1 d1) (h2 : EvS K A s0 E Γ R Δ e2 d2) (hf : flat d1 = true) (h : P2 K.c (compareOp op) d1 d2 d) (hm : autoParam (behindInMarks op e2 = false) aU) :
  EvS K A s0 E Γ R Δ (.Compare e1 [op] [e2] pos) d := fun s X S =>
 wpAny_Compare1 (h1.go S fun v1 s1 S1 r1 => h2.go S1 fun v2 s2 S2 r2 => h.at S2 (r1.flat hf) r2 fun v s3 S3 r => ⟨S3, r⟩) hm
theorem EtS.val (h : EvS K A s0 E Γ R Δ e d) (t : Tru K.c d b) (he : autoParam (∀ whole, isTrue e K.env whole = (do let v <- whole; standAt e.pos; holding [v] (truthy v))) aI) : EtS K A s0 E Γ R Δ e b := fun s X S =>
 wpAny_isTrue_value (h.go S fun v s1 S1 r1 => bk (wK (t K.l A X s1 v S1.lev S1.good.bas r1) (fun r s2 q2 => ⟨q2.1, S1.pst q2.2⟩))) (he _)
theorem EtS.cmp {op : CmpOp} (h1 : EvS K A s0 E Γ R Δ e1 d1) (h2 : EvS K A s0 E Γ R Δ e2 d2) (hf : flat d1 = true) (h : P2 K.c (compareOp op) d1 d2 (.bool b)) (hm : autoParam (behindInMarks op e2 = false) aU) :
  EtS K A s0 E Γ R Δ (.Compare e1 [op] [e2] pos) b := fun s X S =>
 wpAny_isTrue_Compare1 (h1.go S fun v1 s1 S1 r1 => h2.go S1 fun v2 s2 S2 r2 => h.at S2 (r1.flat hf) r2 fun v s3 S3 r => r.yc ⟨rfl, S3⟩) hm
theorem EtS.isNone {k : Nat} (h1 : EvS K A s0 E Γ R Δ e1 d1) (hm : autoParam (behindInMarks .Is (.Constant .none k np) = false) aU) :
  EtS K A s0 E Γ R Δ (.Compare e1 [.Is] [.Constant .none k np] pos) (dw d1) := fun s X S =>
 wpAny_isTrue_Compare1 (h1.go S fun v1 s1 S1 r1 => wpAny_Constant_none (P2.isNone.at S1 r1 .none fun v s3 S3 r => r.yc ⟨rfl, S3⟩)) hm
theorem EtS.isNotNone {k : Nat} (h1 : EvS K A s0 E Γ R Δ e1 d1) (hm : autoParam (behindInMarks .IsNot (.Constant .none k np) = false) aU) :
  EtS K A s0 E Γ R Δ (.Compare e1 [.IsNot] [.Constant .none k np] pos) (!dw d1) := fun s X S =>
 wpAny_isTrue_Compare1 (h1.go S fun v1 s1 S1 r1 => wpAny_Constant_none (P2.isNotNone.at S1 r1 .none fun v s3 S3 r => r.yc ⟨rfl, S3⟩)) hm
theorem EvS.or2 {x y : Expr} {a : Bool} (h1 : EvS K A s0 E Γ R Δ x (.bool a)) (h2 : a = false -> EvS K A s0 E Γ R Δ y (.bool b)) : EvS K A s0 E Γ R Δ (.BoolOp .Or [x, y] pos) (.bool (a || b)) := fun s X S => by
 refine wpAny_Or2 (h1.go S fun v s1 S1 r1 => r1.yc ?_)
 cases a with
 | true => exact ⟨S1, r1⟩
 | false => exact h2 rfl s1 X S1
theorem EvS.H7 {f : Str} (h : Fn K.c K.l f [d1] d) (ha : EvS K A s0 E Γ R Δ e d1) (hf : autoParam (K.env.kindOf f = some .globalImplicit) aR)
  (hd : autoParam ((f == ("__debug__" : Str)) = false) aK) (he : autoParam (starEach [e] K.env = (false, eval e K.env) :: starEach [] K.env) aR) : EvS K A s0 E Γ R Δ (.Call (.Name f np) [e] [] pos) d := fun s X S => by
 obtain ⟨v, g, k, h⟩ := h
 refine wpAny_Call_ofName (wpAny_Name (g A _ s K.env _ S.good.bas.stays S.good.globals S.good.builtins S.good.kind hf ?_) hd)
 show wpAny K.c.M A (callWith pos v [] (backTo pos (starEach [e] K.env)) []) _ _ s
 rw [he]
 refine callWith_of (P := fun h => K.c.base.StaysIn h) rfl k (evalArgs_plain (Calls.spliced_cons (ha.go S fun u s1 S1 r1 => Calls.spliced_nil ⟨S1.good.bas.stays, ?_⟩)))
 exact bk (wK (h A X s1 [u] S1.lev S1.good.bas (.cons r1 .nil)) (fun w s2 r => ⟨S1.pst r.1, r.2⟩))
end
theorem lY (a : Addr) (vs : List Value) (n : Nat) (hz : vs.length <= 2 ^ 30) : Meets (Builtin.«bool.__new__» ⟨[.type "bool", .ref a], []⟩) (fun A R s => s.heap.get? a = some (bH vs n) /\ R (.ok (.ret (.bool (!vs.isEmpty)))) { s with toks := s.toks + 1 + 1 }) :=
 Meets.of_wp fun prog w A R s hs => by
  obtain ⟨hp, g, d, tk, os⟩ := s
  obtain ⟨hx, hs⟩ := hs
  have f1 := F.conv_sub_bool
  have ht : ∀ (A : Around) (E : Value -> Shared -> Prop) (Q : Bool -> Shared -> Prop), Q (!vs.isEmpty) ⟨hp, g, d, tk + 1 + 1, os⟩ -> wpAny (model prog w) A (truthy (.ref a)) Q E ⟨hp, g, d, tk, os⟩ := fun A E Q h => wpAny_truthy_list ⟨_, hx, rfl, _, rfl⟩ (by rw [List.size_toArray]; omega) (by rw [List.isEmpty_toArray]; exact h)
  unfold Builtin.«bool.__new__»
  repeat (any_goals (first | assumption | with_reducible apply ht | wp_step))
  all_goals exact ⟨_, rfl, hs⟩
theorem aO.K7 (hz : ds.length <= 2 ^ 30) : aO c l (.type "bool") [.list ds] (.bool (!ds.isEmpty)) := fun A X s vs L B r => by
 have hz := r.bO; clear r; obtain ⟨_, r1⟩ := hz
 have hz := r1.aQ; clear r1; obtain ⟨a, us, n, ha, e, q⟩ := hz
 have he : us.isEmpty = ds.isEmpty := by cases q <;> rfl
 refine call_bool_1 (lY a us n (by rw [q.length]; exact hz)) ⟨e, ?_⟩
 rw [he]
 exact ⟨rfl, .tk, .bool _⟩
section
variable {E : Err} 
theorem Sat.jq (S : Sat K X Γ R (aj K.c ((D, .data d) :: L) ++ Δ) A s0 s) : ∀ p ∈ L, p.1 ≠ D := fun p hp e => by
 have ap := (List.pairwise_cons.mp S.apart).1 (cN K.c p.1 p.2) (lL _ (lM (f := fun p => cN K.c p.1 p.2) hp)) D (.head _)
 rw [bD] at ap
 exact ap (e ▸ fD)
theorem kE {d : cV} (h : D ≠ a) : bf ((D, d) :: L) a D' = (D, d) :: bf L a D' := by
 unfold bf
 rw [List.map_cons, if_neg h]
theorem Ex1.K8 {name : Str} {ns : List Str} {fs : List (Str × PyData)} (hF : F.In K.c.base) (hv : ∀ X, EvF K.c K.l X K.env Γ e d) (ho : ∀ D, EvS K A s0 E Γ R (aj K.c ((D, .data d) :: L) ++ Δ) o (opq a)) (h : (a, .inst C dx ns fs gs) ∈ L) (hk : okA F C name = true) (hz : ns.length <= 100)
  (hs : autoParam (swapsWith e (some (.Attribute o name np)) pos.line K.env = pure false) aR) : Ex1 K A s0 E Γ R (aj K.c L ++ Δ) (.Assign [.Attribute o name np] e pos) (fun q => ∃ D, (∀ p ∈ L, p.1 ≠ D) /\ q = .next Γ R (aj K.c ((D, .data d) :: bf L a (.inst C dx (jf name ns) (jo name [opq D] fs) gs)) ++ Δ)) := fun s X S =>
 plainObj_wpAny_Assign_Attribute (wM (hv X A s S.lev S.good) (fun v s1 q => by
  obtain ⟨p, D, hD, od⟩ := q
  have S1 : Sat K (D :: X) Γ R (aj K.c ((D, .data d) :: L) ++ Δ) A s0 s1 := S.take p hD od
  exact (ho D).ref S1 fun s2 S2 => Mine.sI hF S2 (.tail _ h) hk hz (ds := [opq D]) (fun d' hd' => lS hd' ▸ .opq D) fun s3 S3 => ⟨_, _, _, _, ⟨D, S1.jq, rfl⟩, (kE (Ne.symm (S1.jq _ h))) ▸ S3⟩) fun _ _ f => f.elim) hs
theorem Ex1.K9 {name : Str} {p : Addr} {ns : List Str} {fs : List (Str × PyData)} (hF : F.In K.c.base) (hv : ∀ X, EvF K.c K.l X K.env Γ e d) (ho : ∀ D, EvS K A s0 E Γ R (aj K.c ((D, .data d) :: L) ++ Δ) o (opq a)) (h : (a, .inst C dx ns fs gs) ∈ L) (hk : qN F C name p i = true)
  (hs : autoParam (swapsWith e (some (.Attribute o name np)) pos.line K.env = pure false) aR) : Ex1 K A s0 E Γ R (aj K.c L ++ Δ) (.Assign [.Attribute o name np] e pos) (fun q => ∃ D, (∀ p ∈ L, p.1 ≠ D) /\ q = .next Γ R (aj K.c ((D, .data d) :: bf L a (.inst C dx ns fs (vg i [opq D] gs))) ++ Δ)) := fun s X S =>
 plainObj_wpAny_Assign_Attribute (wM (hv X A s S.lev S.good) (fun v s1 q => by
  obtain ⟨pp, D, hD, od⟩ := q
  have S1 : Sat K (D :: X) Γ R (aj K.c ((D, .data d) :: L) ++ Δ) A s0 s1 := S.take pp hD od
  exact (ho D).ref S1 fun s2 S2 => Mine.setG hF S2 (.tail _ h) hk (ds := [opq D]) (fun d' hd' => lS hd' ▸ .opq D) fun s3 S3 => ⟨_, _, _, _, ⟨D, S1.jq, rfl⟩, (kE (Ne.symm (S1.jq _ h))) ▸ S3⟩) fun _ _ f => f.elim) hs
end
noncomputable def gw (C : Addr) (vs : List Value) : Code := .builtin "type.__call__" ⟨.ref C :: vs, []⟩
theorem yO (L : Lev l A) (hl : l < 60) : Lev (l + 1) (A.under (gw C vs)) := by
 obtain ⟨h1, h2, h3⟩ := L
 have e1 : (gw C vs).weight <= 1 := Nat.le_trans (Nat.le_of_eq (show (gw C vs).weight = 1 by kernel_rfl)) (by omega)
 have e2 : (gw C vs).cUnits <= 8 := Nat.le_trans (Nat.le_of_eq (show (gw C vs).cUnits = 1 by kernel_rfl)) (by omega)
 refine ⟨?_, ?_, hl⟩
 ·show A.depth + (gw C vs).weight <= _; omega
 ·show A.units + (gw C vs).cUnits <= _; omega
theorem yP (B : Bas c A X h) : Bas c (A.under (gw C vs)) X h := by
 obtain ⟨o, b, f⟩ := B.below
 exact ⟨B.handled, ⟨o, ⟨b.stack, b.stays, b.frames⟩, f⟩, B.alloc, B.frs⟩
theorem H8 {fI : Addr} {P : Addr -> Addr -> aP -> Prop} (hF : F.In c.base) (hl : l < 59) (hm : makesIn F C = true) (hi : findIn F (.ref C) "__init__" = some (some (.ref fI))) (hf : typeIn F (.ref fI) = some (.type "function"))
  (h : ∀ x dx, FnA c (l + 1) fI (opq x :: ds) [(x, .inst C dx [] [] [])] (fun d L' => d = .none /\ P x dx L')) : FnA c l C ds [] (fun d L' => ∃ x dx, d = opq x /\ x ∈ fpA L' /\ P x dx L') := fun A X s vs LA B r _ => by
 obtain ⟨hh, g, dr, t, os⟩ := s
 have hin : F.In hh := fun a o e => B.inBase (hF a o e)
 refine make_core (makes_of hin hm) (looks_findIn hin hi) (fun self => bind_fn hin self hf) (.inl rfl) ?_
 have q1 : HX c [] hh ((hh.push emptyDict).push (instObj C hh.objs.size)) := (HX.push _ _).trans (HX.push _ _)
 have hdx : hh.get? hh.objs.size = none := ak (Nat.le_refl _)
 have hx0 : hh.get? (hh.objs.size + 1) = none := ak (Nat.le_succ _)
 have e1 : ((hh.push emptyDict).push (instObj C hh.objs.size)).get? hh.objs.size = some emptyDict := Heap.get?_push_of_some _ (hP _ rfl)
 have e2 : ((hh.push emptyDict).push (instObj C hh.objs.size)).get? (hh.objs.size + 1) = some (instObj C hh.objs.size) := by
  have := hP (hh.push emptyDict) (o := instObj C hh.objs.size) rfl
  rwa [Heap.size_push] at this
 have hwide : ∀ a ∈ (hh.objs.size + 1) :: hh.objs.size :: X, a ∈ X \/ hh.get? a = none := fun a ha => by
  rcases lC ha with rfl | ha
  ·exact .inr hx0
  ·rcases lC ha with rfl | ha
   ·exact .inr hdx
   ·exact .inl ha
 have B1 : Bas c A ((hh.objs.size + 1) :: hh.objs.size :: X) ((hh.push emptyDict).push (instObj C hh.objs.size)) :=
  ⟨B.handled, let ⟨o, b, f⟩ := B.below; ⟨o, q1.below f b, f⟩, fun a ha => (by
   rcases lC ha with rfl | ha
   ·exact ⟨_, e2⟩
   ·rcases lC ha with rfl | ha
    ·exact ⟨_, e1⟩
    ·exact q1.alive (fun z => nomatch z) (B.alloc a ha)), fun a ha => .tail _ (.tail _ (B.frs a ha))⟩
 have hbn : ∀ a, hh.get? a = none -> c.base.get? a = none /\ a ∉ c.fr := fun a e => by
  refine ⟨?_, fun z => ?_⟩
  ·cases e' : c.base.get? a with
   | none => rfl
   | some o => rw [B.inBase e'] at e; cases e
  ·obtain ⟨o, e'⟩ := B.alloc a (B.frs a z)
   rw [e] at e'; cases e'
 refine codeAny_mono (h (hh.objs.size + 1) hh.objs.size (A.under (gw C vs)) ((hh.objs.size + 1) :: hh.objs.size :: X) ⟨(hh.push emptyDict).push (instObj C hh.objs.size), g, dr, t, os⟩ (.ref (hh.objs.size + 1) :: vs) (yO LA (by omega)) (yP B1) (.cons (.opq _) ((r.wide hwide).hx0 q1 fun a ha => .tail _ (.tail _ (B.frs a ha))))
  ⟨fun r hr => ?_, fun a ha => ?_, List.pairwise_singleton ..⟩) fun r s' hr => ?_
 ·rw [lS hr]
  exact ⟨#[], [], 0, e2, e1, .nil, (fun _ z => nomatch z), (fun _ z => nomatch z)⟩
 ·have ha' : a ∈ [hh.objs.size + 1, hh.objs.size] := ha
  rcases lC ha' with rfl | ha'
  ·exact ⟨.head _, hbn _ hx0⟩
  ·rw [lS ha']
   exact ⟨.tail _ (.head _), hbn _ hdx⟩
 ·rcases r with e | f
  ·exact hr.elim
  ·cases f with
   | ret v =>
    obtain ⟨h', tk, d, L', rfl, ⟨rfl, hP⟩, q, hat, hnew, hall, hap, hv⟩ := hr
    rw [hv.none_inv]
    have hnew' : ∀ a ∈ fpA L', hh.get? a = none := fun a ha => by
     rcases hnew a ha with z | z
     ·have z' : a ∈ [hh.objs.size + 1, hh.objs.size] := z
      rcases lC z' with rfl | z'
      ·exact hx0
      ·rw [lS z']; exact hdx
     ·exact q1.none_of (fun z => nomatch z) z
    have hXw : ∀ a ∈ fpA L' ++ X, a ∈ fpA L' ++ (hh.objs.size + 1) :: hh.objs.size :: X := fun a ha => (lA ha).elim (lL _) fun z => lR _ (.tail _ (.tail _ z))
    refine ⟨rfl, h', tk, opq (hh.objs.size + 1), L', rfl, ⟨_, _, rfl, ?_, hP⟩, ?_, (fun r hr => r.wide _ _ _ (hat r hr) fun a ha => .inl (hXw a ha)), (fun a ha => .inr (hnew' a ha)), (fun a ha => nomatch ha), hap, .opq _⟩
    ·exact hall _ (.head _)
    ·exact q1.young q fun a ha => (by
      have z' : a ∈ [hh.objs.size + 1, hh.objs.size] := ha
      rcases lC z' with rfl | z'
      ·exact hx0
      ·rw [lS z']; exact hdx)
   | _ => exact hr.elim
section
variable {E : Err} 
theorem jr (hF : F.In c.base) (hk : keepIn F v = true) : gO c v := fun h st => keeps_K hk h fun a o e => st a o (hF a o e)
theorem EvX.cls {f : Str} (hg : Glb K.c f (.ref C)) (hk : gO K.c (.ref C)) (hm : FnA K.c K.l C ds [] P) (ha : m9 K A s0 E Γ R (aj K.c L ++ Δ) (.ref C) pos args ds) (hf : autoParam (K.env.kindOf f = some .globalImplicit) aR)
  (hd : autoParam ((f == ("__debug__" : Str)) = false) aK)
  (hplain : autoParam (((backTo pos (starEach args K.env)).any (·.1) || ([] : List (Option Str × Sem Value)).any (·.1.isNone)) = false) aR) : EvX K A s0 E Γ R L Δ (.Call (.Name f np) args [] pos) (fun d L' => ∃ L1, P d L1 /\ L' = L1 ++ L) := fun s X S => by
 refine wpAny_Call_ofName (wpAny_Name (hg A _ s K.env _ S.good.bas.stays S.good.globals S.good.builtins S.good.kind hf ?_) hd)
 show wpAny K.c.M A (callWith pos (.ref C) [] (backTo pos (starEach args K.env)) []) _ _ s
 refine callWith_of (P := fun h => K.c.base.StaysIn h) hplain hk (ha _ _ _ S fun vs s2 X2 hX S2 r2 => ⟨S2.good.bas.stays, ?_⟩)
 have S3 : Sat K X2 Γ R (aj K.c [] ++ (aj K.c L ++ Δ)) A s0 s2 := S2
 refine bk (wK (pN (hm A X2 s2 vs S2.lev S2.good.bas r2 S3.sH)) (fun v s3 hb => ?_))
 obtain ⟨L', d, X', hP, S4, rv⟩ := S3.H6 hb
 exact ⟨X', d, L' ++ L, ⟨L', hP, rfl⟩, by rw [lK, List.append_assoc]; exact S4, rv⟩
end
variable {cls : String}
noncomputable abbrev dD {K : Type} (enc : K -> PyData) (kvs : List (K × PyData)) : PyData := .dict (kvs.map fun p => (enc p.1, p.2))
theorem pU {K : Type} (enc : K -> PyData) (kvs : List (K × PyData)) : dD enc kvs = .dict (((kvs.map (·.1)).map enc).zip (kvs.map (·.2))) := by
 unfold dD
 congr 1
 induction kvs with
 | nil => rfl
 | cons p r ih => simp [ih]
section
variable {K : Type} [DecidableEq K] 
theorem bT.j6 (dk : bh c.w K) {ks : List K} {ds : List PyData} (hl : ks.length = ds.length) (o : bT c X h D (.dict ((ks.map dk.enc).zip ds))) : ∃ vs, h.DictOf (dk.knd c.prog) D (ks.zip vs) /\ RdL c.w X h vs ds /\ vs.length = ks.length := by
 have hl' : (ks.map dk.enc).length = ds.length := by simpa using hl
 have hk1 : ((ks.map dk.enc).zip ds).map (·.1) = ks.map dk.enc := List.map_fst_zip (Nat.le_of_eq hl')
 have hk2 : ((ks.map dk.enc).zip ds).map (·.2) = ds := List.map_snd_zip (Nat.le_of_eq hl'.symm)
 obtain ⟨es, n, e, k, nd, r⟩ := o
 rw [hk1] at k nd
 rw [hk2] at r
 obtain ⟨h1, h2⟩ := v9 dk k
 have hlen : (es.map (·.val)).length = ks.length := by rw [r.length, hl]
 refine ⟨es.map (·.val), ⟨_, es.toArray, n, e, ⟨rfl, rfl, rfl⟩, rfl, fun e he => h1 e (by simpa using he), by simpa using h2, ?_⟩, r, hlen⟩
 rw [List.map_fst_zip (Nat.le_of_eq hlen.symm)]
 exact jB nd
noncomputable def cj {K : Type} [DecidableEq K] (kvs : List (K × α)) (k : K) : Option α := (kvs.find? fun p => p.1 = k).map (·.2)
inductive sJ (w : World) (X : List Addr) (h : Heap) : Option PyData -> Option Value -> Prop
 | none : sJ w X h none none
 | got {d v : _} (r : Rd w X h v d) : sJ w X h (some d) (some v)
theorem sJ.two {a : Option PyData} {b : Option Value} (g : sJ w X h a b) : b.isSome = a.isSome /\ Rd w X h (b.getD .none) (a.getD .none) /\ ∀ d, a = some d -> ∃ v, b = some v /\ Rd w X h v d := by
 cases g with
 | none => exact ⟨rfl, .none, fun _ e => nomatch e⟩
 | got r => exact ⟨rfl, r, fun _ e => ⟨_, rfl, Option.some.inj e ▸ r⟩⟩
theorem jJ {k : K} {kvs : List (K × PyData)} : ∀ {vs : List Value}, RdL w X h vs (kvs.map (·.2)) -> sJ w X h (cj kvs k) (valueAt ((kvs.map (·.1)).zip vs) k) := by
 induction kvs with
 | nil => intro vs r; rw [r.nil_inv]; exact .none
 | cons p kvs ih =>
  intro vs r
  obtain ⟨v, vs, a, q⟩ := r.cons_inv
  have ih := ih q
  unfold cj valueAt at ih ⊢
  by_cases z : p.1 = k
  ·simp [z]; exact .got a
  ·simpa [z] using ih
theorem bT.toD (dk : bh c.w K) {kvs : List (K × PyData)} (o : bT c X h D (dD dk.enc kvs)) : ∃ vs, h.DictOf (dk.knd c.prog) D ((kvs.map (·.1)).zip vs) /\ RdL c.w X h vs (kvs.map (·.2)) /\ vs.length = (kvs.map (·.1)).length := by
 rw [pU] at o
 exact bT.j6 dk (by simp) o
theorem bT.ofD (dk : bh c.w K) {kvs : List (K × PyData)} {vs : List Value} (hd : h.DictOf (dk.knd c.prog) D ((kvs.map (·.1)).zip vs)) (r : RdL c.w X h vs (kvs.map (·.2))) : bT c X h D (dD dk.enc kvs) := by
 have hl : (kvs.map (·.1)).length = vs.length := by rw [r.length]; simp
 have := bT.Ae (ds := kvs.map (·.2)) dk hd (by rw [List.map_snd_zip (Nat.le_of_eq hl.symm)]; exact r)
 rw [List.map_fst_zip (Nat.le_of_eq hl)] at this
 rw [pU]; exact this
end
section
variable {E : Err} [DecidableEq κ]
theorem Sat.dct (dk : bh K.c.w κ) (S : Sat K X Γ R (aj K.c L ++ Δ) A s0 s) {D : Addr} {kvs : List (κ × PyData)} (h : (D, .data (dD dk.enc kvs)) ∈ L) : ∃ vs, s.heap.DictOf (dk.knd K.c.prog) D ((kvs.map (·.1)).zip vs) /\ RdL K.c.w X s.heap vs (kvs.map (·.2)) /\ vs.length = (kvs.map (·.1)).length :=
 bT.toD dk (S.res _ (lL _ (lM (f := fun p => cN K.c p.1 p.2) h)))
theorem Sat.Bb (S : Sat K X Γ R (aj K.c L ++ Δ) A s0 s) (hsys : sysModules ∈ K.c.fr) {D : Addr} {De : cV} (h : (D, De) ∈ L) : (D == sysModules) = false := by
 have := S.fps _ (lL _ (lM (f := fun p => cN K.c p.1 p.2) h)) D (by rw [bD]; exact fD)
 cases z : D == sysModules with
 | false => rfl
 | true => exact absurd ((eq_of_beq z) ▸ hsys) this.2.2.2
theorem EvS.Lb (dk : bh K.c.w κ) {o e : Expr} {apos pos : Pos} {D : Addr} {kvs : List (κ × PyData)} {k : κ} (hsys : sysModules ∈ K.c.fr) (ho : EvS K A s0 E Γ R (aj K.c L ++ Δ) o (opq D)) (he : EvS K A s0 E Γ R (aj K.c L ++ Δ) e (dk.enc k)) (hD : (D, .data (dD dk.enc kvs)) ∈ L)
  (hbase : autoParam (attributeBase o "get" K.env (eval o K.env) = eval o K.env) aR) (hline : autoParam ((apos.endLine == pos.line) = true) aR) (hs : autoParam (starEach [e] K.env = [(false, eval e K.env)]) aR) :
  EvS K A s0 E Γ R (aj K.c L ++ Δ) (.Call (.Attribute o "get" apos) [e] [] pos) ((cj kvs k).getD .none) := fun s X S => by
 refine gV PySem.F.plainAttrs_dict PySem.F.slot_dict_get PySem.F.type_dict_get (ho.ref S fun s1 S1 => ?_) hbase hline hs
 obtain ⟨vs0, d0, _⟩ := S1.dct dk hD
 refine ⟨d0.typeIs, fun a ha => by cases ha; exact d0.mapOf.noDict _ rfl, he.go S1 fun v s2 S2 r2 => ?_⟩
 obtain ⟨vs, d, r, _⟩ := S2.dct dk hD
 have g := jJ (k := k) r
 refine call_meetsIn PySem.F.slot_dict_get d.typeIs PySem.F.entry_dict_get (PySem.F.args_dict_get_2 _ _) (meets_dict_get (dk.knd K.c.prog) D (dk.dr K.c.prog k _ _ _ r2) (S2.Bb hsys hD)) ⟨_, d.mapOf, ?_⟩
 refine ⟨S2.pst .tk, ?_⟩
 exact g.two.2.1
end
section
variable {E : Err} [DecidableEq κ]
theorem qP (dk : bh K.c.w κ) {D : Addr} {kvs : List (κ × PyData)} {k : κ} {d : PyData} {kv v : Value} {Q : Unit -> Shared -> Prop} (S : Sat K X Γ R (aj K.c L ++ Δ) A s0 s) (hD : (D, .data (dD dk.enc kvs)) ∈ L) (rk : Rd K.c.w X s.heap kv (dk.enc k)) (rv : Rd K.c.w X s.heap v d) (hz : kvs.length <= 10 ^ 6) (hn : k ∉ kvs.map (·.1))
  (h : ∀ s', Sat K X Γ R (aj K.c (bf L D (.data (dD dk.enc (kvs ++ [(k, d)])))) ++ Δ) A s0 s' -> Q () s') : wpAny K.c.M A (setItem (.ref D) kv v) Q E s := by
 obtain ⟨vs, dd, r, hl⟩ := S.dct dk hD
 have fq := S.fps _ (lL _ (lM (f := fun p => cN K.c p.1 p.2) hD)) D (.head _)
 have hfst : ((kvs.map (·.1)).zip vs).map (·.1) = kvs.map (·.1) := List.map_fst_zip (Nat.le_of_eq hl.symm)
 refine wpAny_setItem_pairs (hsz := by rw [List.length_zip, hl, sizeLine_eq]; simp; omega) (dk.dr K.c.prog k _ _ _ rk) dd fun h' d' hs' => h _ ?_
 rw [stored_new (by rw [hfst]; exact hn)] at d'
 have q : HX K.c [D] s.heap h' := .sameBut hs' (S.base D fq.2.1) fq.2.2.2
 have hY : ∀ y ∈ [D], y ∈ X := fun y hy => lS hy ▸ fq.1
 refine S.bf hD (Y := [D]) rfl (fun y hy => lS hy ▸ .head _) q (bT.ofD dk (vs := vs ++ [v]) ?_ ?_)
 ·rw [List.map_append, List.zip_append hl.symm]
  exact d'
 ·rw [List.map_append]
  exact (r.hx q S.good.bas.frs hY).append (.cons (rv.hx q S.good.bas.frs hY) .nil)
end
section
variable {E : Err} [DecidableEq κ]
theorem Sat.asg {x : Str} {Q : Unit -> Shared -> Prop} (S : Sat K X Γ R Δ A s0 s) (hx : x ∈ K.xs) (hR : ∀ p ∈ R, p.1 ≠ x) (r : Rd K.c.w X s.heap v d)
  (k : ∀ s', Sat K X ((x, d) :: Γ.filter fun p => p.1 != x) R Δ A s0 s' -> Q () s') : wpAny K.c.M A (PySem.assign (Expr.Name x px) K.env v) Q E s :=
 wpAny_assign_Name (S.assign hx hR r k)
theorem Ex1.iteW {x : Str} {npos : Pos} {k : Nat} (h : EvS K A s0 E Γ R Δ e d) (hf : flat d = true) (hx : x ∈ K.xs) (hR : ∀ p ∈ R, p.1 ≠ x)
  (h1 : dw d = true -> Ex K A s0 E ((x, d) :: Γ.filter fun p => p.1 != x) R Δ body O) (h2 : dw d = false -> Ex K A s0 E ((x, d) :: Γ.filter fun p => p.1 != x) R Δ orelse O)
  (hm : autoParam (behindInMarks .Is (.Constant .none k np) = false) aU) :
  Ex1 K A s0 E Γ R Δ (.If (.Compare (.NamedExpr (.Name x px) e npos) [.Is] [.Constant .none k np] cpos) body orelse pos) O := fun s X S => by
 refine wpAny_If (wpAny_isTrue_Compare1 (wpAny_NamedExpr (wK (h s X S) (fun v s1 q => q.1.asg hx hR q.2 fun s2 S2 => wpAny_Constant_none ?_))) hm)
 obtain ⟨i1, i2⟩ := kj q.2
 refine wpAny_is_plain i1 (wpAny_truthy_bool ?_)
 rw [i2]
 cases z : dw d with
 | true => exact h1 z s2 X S2
 | false => exact h2 z s2 X S2
theorem Ex1.Bc (dk : bh K.c.w κ) {x : Str} {o i e : Expr} {px tpos pos : Pos} {D : Addr} {k : κ} {P : PyData -> aP -> Prop} (he : EvX K A s0 E Γ R L Δ e P) (hx : x ∈ K.xs) (hR : ∀ p ∈ R, p.1 ≠ x)
  (ho : ∀ d L', P d L' -> EvS K A s0 E Γ R (aj K.c L' ++ Δ) o (opq D)) (hi : ∀ d L', P d L' -> EvS K A s0 E Γ R (aj K.c L' ++ Δ) i (dk.enc k))
  (hD : ∀ d L', P d L' -> flat d = true /\ ∃ kvs : List (κ × PyData), (D, .data (dD dk.enc kvs)) ∈ L' /\ kvs.length <= 10 ^ 6 /\ k ∉ kvs.map (·.1))
  (he2 : autoParam ((assignEach [Expr.Subscript o i tpos, Expr.Name x px] K.env).map (·.2) = [PySem.assign (Expr.Subscript o i tpos) K.env, PySem.assign (Expr.Name x px) K.env]) aR)
  (hw : autoParam (swappedStores [Expr.Subscript o i tpos, Expr.Name x px] e K.env = pure none) aR) :
  Ex1 K A s0 E Γ R (aj K.c L ++ Δ) (.Assign [Expr.Subscript o i tpos, Expr.Name x px] e pos) (fun q => ∃ d L' kvs, P d L' /\ (D, .data (dD dk.enc kvs)) ∈ L' /\ q = .next ((x, d) :: Γ.filter fun p => p.1 != x) R (aj K.c (bf L' D (.data (dD dk.enc (kvs ++ [(k, d)])))) ++ Δ)) := fun s X S => by
 refine wpAny_Assign_two (wK (he s X S) (fun v s1 q => ?_)) he2 hw
 obtain ⟨X1, d, L', hP, S1, r1⟩ := q
 obtain ⟨hfl, kvs, hm, hz, hn⟩ := hD d L' hP
 rw [arm_assign_Subscript]
 refine wB (wpAny_holding ((ho d L' hP).ref S1 fun s2 S2 => ?_))
 refine wB (wpAny_holding ((hi d L' hP).go S2 fun iv s3 S3 r3 => ?_))
 refine wB (wpAny_standAt ?_)
 refine wB (wpAny_holding (qP dk S3 hm r3 (r1.flat hfl) hz hn fun s4 S4 => ?_))
 refine wpAny_release (S4.asg hx hR (r1.flat hfl) fun s5 S5 => ⟨X1, _, _, _, ⟨d, L', kvs, hP, hm, rfl⟩, S5⟩)
theorem Sat.Jb (S : Sat K X Γ R (aj K.c L ++ Δ) A s0 s) : (L.map (·.1)).Nodup := by
 have ap := (List.pairwise_append.mp S.apart).1
 unfold aj at ap
 rw [List.pairwise_map] at ap
 unfold List.Nodup
 rw [List.pairwise_map]
 refine ap.imp fun {p q} h e => ?_
 have := h p.1
 rw [bD, bD] at this
 exact this fD (e ▸ fD)
end
structure Nd (κ : Type) where
 k : κ
 x : Addr
 dx : Addr
 li : Addr
 np : Int
 su : List κ
structure St (κ : Type) where
 rn : Option (Addr × List κ)
 po : Int
 nf : Int
 nds : List (Nd κ)
structure SA where
 T : Addr
 N : Addr
 S : Addr
 Sx : Addr
 N2 : Addr
noncomputable def sN : List Str := ["_node2info", "_ready_nodes", "_npassedout", "_nfinished"]
section
variable [DecidableEq κ]
noncomputable def rnD : Option (Addr × List κ) -> PyData
 | none => .none
 | some p => opq p.1
noncomputable def rnA : Option (Addr × List κ) -> List Addr
 | none => []
 | some p => [p.1]
noncomputable def St.adr (a : SA) (st : St κ) : List Addr := a.S :: a.N2 :: (rnA st.rn ++ (st.nds.map (·.x) ++ st.nds.map (·.li)))
noncomputable def St.keys (st : St κ) : List κ := st.nds.map (·.k)
inductive NdI (a : SA) (enc : κ -> PyData) (n : Nd κ) (L : aP) : Prop
 | mk (gs : List (Nat × PyData)) (e : (n.x, .inst a.N n.dx [] [] gs) ∈ L) (q2 : ((0, enc n.k) : Nat × PyData) ∈ gs) (q3 : ((1, .int n.np) : Nat × PyData) ∈ gs) (q4 : ((2, opq n.li) : Nat × PyData) ∈ gs)
structure Fy (a : SA) (enc : κ -> PyData) (n : Nd κ) (L : aP) : Prop where
 at_ : NdI a enc n L
 lst : (n.li, .data (.list (n.su.map enc))) ∈ L
inductive Ld (a : SA) (st : St κ) (L : aP) : Prop
 | mk (fs : List (Str × PyData)) (s1 : (a.S, .inst a.T a.Sx sN fs []) ∈ L) (s2 : (("_node2info", opq a.N2) : Str × PyData) ∈ fs) (s3 : (("_ready_nodes", rnD st.rn) : Str × PyData) ∈ fs) (s4 : (("_npassedout", .int st.po) : Str × PyData) ∈ fs) (s5 : (("_nfinished", .int st.nf) : Str × PyData) ∈ fs)
structure Srt (a : SA) (enc : κ -> PyData) (st : St κ) (L : aP) : Prop where
 self : Ld a st L
 map : (a.N2, .data (dD enc (st.nds.map fun n => (n.k, opq n.x)))) ∈ L
 rdy : ∀ p, st.rn = some p -> (p.1, .data (.list (p.2.map enc))) ∈ L
 nd : ∀ n ∈ st.nds, Fy a enc n L
 nk : st.keys.Nodup
 adr : (st.adr a).Nodup
 nda : (L.map (·.1)).Nodup
noncomputable def gW (L L' : aP) : Prop := ∀ a ∈ fpA L, a ∈ fpA L'
theorem gW.refl : gW L L := fun _ h => h
theorem gW.trans {M N : aP} (h : gW L M) (g : gW M N) : gW L N := fun a z => g a (h a z)
theorem vh {f : α -> β} {l : List α} :  (l.map f).Nodup -> ∀ a ∈ l, ∀ b ∈ l, f a = f b -> a = b := by
 induction l with
 | nil =>
  intro _ _ h _ _ _
  exact nomatch h
 | cons c l ih =>
  intro hn a ha b hb e
  rw [List.map_cons, List.nodup_cons] at hn
  rcases lC ha with rfl | ha2 <;> rcases lC hb with rfl | hb2
  ·rfl
  ·exact absurd (List.mem_map.mpr ⟨b, hb2, e.symm⟩) hn.1
  ·exact absurd (List.mem_map.mpr ⟨a, ha2, e⟩) hn.1
  ·exact ih hn.2 a ha2 b hb2 e
theorem Bd (hn : (L.map (·.1)).Nodup) {a : Addr} {D D' : cV} (h : (a, D) ∈ L) (h' : (a, D') ∈ L) : D = D' := by
 have := vh hn _ h _ h' rfl
 exact (Prod.mk.inj this).2
theorem fM {D : cV} : (bf L a D).map (·.1) = L.map (·.1) := by
 unfold bf
 rw [List.map_map]
 refine List.map_congr_left fun p hp => ?_
 simp only [Function.comp]
 split <;> simp_all
theorem iQ {D : cV} (hn : (L.map (·.1)).Nodup) (h : (a, D) ∈ L) (hf : ∀ b ∈ D.fp a, b ∈ D'.fp a) : gW L (bf L a D') := fun b hb => by
 unfold fpA at hb ⊢
 obtain ⟨p, hp, hb⟩ := List.mem_flatMap.mp hb
 refine List.mem_flatMap.mpr ⟨if p.1 = a then (a, D') else p, List.mem_map.mpr ⟨p, hp, rfl⟩, ?_⟩
 split
 ·rename_i e
  obtain ⟨p1, p2⟩ := p
  have e' : p1 = a := e
  subst e'
  rw [Bd hn hp h] at hb
  exact hf b hb
 ·exact hb
theorem qQ {M : aP} : gW L (M ++ L) := fun b hb => by
 unfold fpA at hb ⊢
 rw [List.flatMap_append]
 exact lR _ hb
inductive NeI (a : SA) (st : St κ) : Prop
 | mk (n1 : a.S ≠ a.N2) (n2 : (∀ p, st.rn = some p -> a.S ≠ p.1 /\ a.N2 ≠ p.1 /\ ∀ n ∈ st.nds, p.1 ≠ n.x /\ p.1 ≠ n.li)) (n3 : (∀ n ∈ st.nds, a.S ≠ n.x /\ a.S ≠ n.li /\ a.N2 ≠ n.x /\ a.N2 ≠ n.li)) (n4 : (∀ n ∈ st.nds, ∀ m ∈ st.nds, n.x ≠ m.li)) (n5 : (∀ n ∈ st.nds, ∀ m ∈ st.nds, n.x = m.x -> n = m)) (n6 : (∀ n ∈ st.nds, ∀ m ∈ st.nds, n.li = m.li -> n = m))
namespace Srt
variable {a : SA} {st : St κ} 
theorem ne (h : Srt a enc st L) : NeI a st := by
 have q := h.adr
 unfold St.adr at q
 rw [List.nodup_cons, List.nodup_cons, List.nodup_append, List.nodup_append] at q
 obtain ⟨q1, q2, q3, ⟨q4, q5, q6⟩, q7⟩ := q
 simp only [List.mem_cons, List.mem_append, not_or] at q1 q2
 refine ⟨q1.1, fun p hp => ?_, fun n hn => ?_, fun n hn m hm => ?_, vh q4, vh q5⟩
 ·have hr : p.1 ∈ rnA st.rn := by rw [hp]; exact .head _
  refine ⟨fun e => q1.2.1 (e ▸ hr), fun e => q2.1 (e ▸ hr), fun n hn => ⟨q7 _ hr _ (lL _ (lM (f := (·.x)) hn)), q7 _ hr _ (lR _ (lM (f := (·.li)) hn))⟩⟩
 ·have h1 := lM (f := (·.x)) hn
  have h2 := lM (f := (·.li)) hn
  exact ⟨fun e => q1.2.2.1 (e ▸ h1), fun e => q1.2.2.2 (e ▸ h2), fun e => q2.2.1 (e ▸ h1), fun e => q2.2.2 (e ▸ h2)⟩
 ·exact q6 _ (lM (f := (·.x)) hn) _ (lM (f := (·.li)) hm)
theorem sO {n : Nd κ} {b : Addr} {D : cV} (h : Fy a enc n L) (h1 : n.x ≠ b) (h2 : n.li ≠ b) : Fy a enc n (bf L b D) := by
 obtain ⟨⟨gs, e1, e2, e4, e5⟩, e3⟩ := h
 exact ⟨⟨gs, aL e1 h1, e2, e4, e5⟩, aL e3 h2⟩
theorem Fq (h : Srt a enc st L) {fs' : List (Str × PyData)} {po nf : Int} (h1 : (("_node2info", opq a.N2) : Str × PyData) ∈ fs') (h2 : (("_ready_nodes", rnD st.rn) : Str × PyData) ∈ fs') (h3 : (("_npassedout", .int po) : Str × PyData) ∈ fs') (h4 : (("_nfinished", .int nf) : Str × PyData) ∈ fs') :
  Srt a enc { st with po := po, nf := nf } (bf L a.S (.inst a.T a.Sx sN fs' [])) /\ gW L (bf L a.S (.inst a.T a.Sx sN fs' [])) := by
 obtain ⟨n1, n2, n3, n4, n5, n6⟩ := h.ne
 obtain ⟨fs, s1, _, _, _, _⟩ := h.self
 refine ⟨⟨⟨fs', dX s1, h1, h2, h3, h4⟩, aL h.map n1.symm, fun p hp => aL (h.rdy p hp) (n2 p hp).1.symm, fun n hn => sO (h.nd n hn) (n3 n hn).1.symm (n3 n hn).2.1.symm, h.nk, h.adr, by rw [fM]; exact h.nda⟩, iQ h.nda s1 fun _ z => z⟩
theorem Fz (h : Srt a enc st L) {r : Addr} {ks ks' : List κ} (hr : st.rn = some (r, ks)) :
  Srt a enc { st with rn := some (r, ks') } (bf L r (.data (.list (ks'.map enc)))) /\ gW L (bf L r (.data (.list (ks'.map enc)))) := by
 obtain ⟨n1, n2, n3, n4, n5, n6⟩ := h.ne
 obtain ⟨fs, s1, s2, s3, s4, s5⟩ := h.self
 obtain ⟨r1, r2, r3⟩ := n2 _ hr
 refine ⟨⟨⟨fs, aL s1 r1, s2, by rw [hr] at s3; exact s3, s4, s5⟩, aL h.map r2, fun p hp => by cases hp; exact dX (h.rdy _ hr), fun n hn => sO (h.nd n hn) (r3 n hn).1.symm (r3 n hn).2.symm, h.nk, by
  have := h.adr
  unfold St.adr at this ⊢
  rw [hr] at this; exact this, by rw [fM]; exact h.nda⟩, iQ h.nda (h.rdy _ hr) fun _ z => z⟩
theorem setP (h : Srt a enc st L) {r : Addr} {ks : List κ} {fs' : List (Str × PyData)} (hn : st.rn = none) (hr : r ∉ L.map (·.1)) (h1 : (("_node2info", opq a.N2) : Str × PyData) ∈ fs') (h2 : (("_ready_nodes", opq r) : Str × PyData) ∈ fs') (h3 : (("_npassedout", .int st.po) : Str × PyData) ∈ fs') (h4 : (("_nfinished", .int st.nf) : Str × PyData) ∈ fs') :
  Srt a enc { st with rn := some (r, ks) } ((r, .data (.list (ks.map enc))) :: bf L a.S (.inst a.T a.Sx sN fs' [])) /\ gW L ((r, .data (.list (ks.map enc))) :: bf L a.S (.inst a.T a.Sx sN fs' [])) := by
 obtain ⟨n1, n2, n3, n4, n5, n6⟩ := h.ne
 obtain ⟨fs, s1, s2, s3, s4, s5⟩ := h.self
 refine ⟨⟨⟨fs', .tail _ (dX s1), h1, h2, h3, h4⟩, .tail _ (aL h.map n1.symm), fun p hp => by cases hp; exact .head _, fun n hn => ?_, h.nk, ?_, ?_⟩, (iQ (D' := .inst a.T a.Sx sN fs' []) h.nda s1 fun _ z => z).trans (qQ (M := [_]))⟩
 ·obtain ⟨⟨gs, e1, e2, e4, e5⟩, e3⟩ := sO (D := .inst a.T a.Sx sN fs' []) (h.nd n hn) (n3 n hn).1.symm (n3 n hn).2.1.symm
  exact ⟨⟨gs, .tail _ e1, e2, e4, e5⟩, .tail _ e3⟩
 ·have q := h.adr
  unfold St.adr at q ⊢
  rw [hn] at q
  rw [List.nodup_cons, List.nodup_cons] at q ⊢
  have hS : a.S ≠ r := fun e => hr (e ▸ lM (f := (·.1)) s1)
  have hN : a.N2 ≠ r := fun e => hr (e ▸ lM (f := (·.1)) h.map)
  have hx : r ∉ st.nds.map (·.x) ++ st.nds.map (·.li) := fun z => by
   rcases lA z with z | z
   ·obtain ⟨n, hn⟩ := bx z
    obtain ⟨gs, e1, _, _, _⟩ := (h.nd n hn).at_
    exact hr (lM (f := (·.1)) e1)
   ·obtain ⟨n, hn⟩ := bx z
    exact hr (lM (f := (·.1)) (h.nd n hn).lst)
  simp only [rnA, List.nil_append, List.cons_append, List.nodup_cons, List.mem_cons, not_or] at q ⊢
  exact ⟨⟨q.1.1, hS, q.1.2⟩, ⟨hN, q.2.1⟩, hx, q.2.2⟩
 ·rw [List.map_cons, List.nodup_cons, fM]
  exact ⟨hr, h.nda⟩
noncomputable def upK (st : St κ) (k : κ) (g : Nd κ -> Nd κ) : St κ := { st with nds := st.nds.map fun n => if n.k = k then g n else n }
theorem sS {g : Nd κ -> Nd κ} (hg : ∀ n, (g n).k = n.k) : (upK st k g).keys = st.keys := by
 unfold upK St.keys
 simp only [List.map_map]
 refine List.map_congr_left fun n _ => ?_
 simp only [Function.comp]
 split
 ·exact hg n
 ·rfl
theorem gA {g : Nd κ -> Nd κ} (f : Nd κ -> β) (hg : ∀ n, f (g n) = f n) : (upK st k g).nds.map f = st.nds.map f := by
 unfold upK
 simp only [List.map_map]
 refine List.map_congr_left fun n _ => ?_
 simp only [Function.comp]
 split
 ·exact hg n
 ·rfl
theorem wF (h : Srt a enc st L) {n : Nd κ} {gs : List (Nat × PyData)} {v : Int} (hn : n ∈ st.nds) (h0 : ((0, enc n.k) : Nat × PyData) ∈ gs) (h1 : ((1, .int v) : Nat × PyData) ∈ gs) (h2 : ((2, opq n.li) : Nat × PyData) ∈ gs) :
  Srt a enc (upK st n.k fun m => { m with np := v }) (bf L n.x (.inst a.N n.dx [] [] gs)) /\ gW L (bf L n.x (.inst a.N n.dx [] [] gs)) := by
 obtain ⟨n1, n2, n3, n4, n5, n6⟩ := h.ne
 obtain ⟨fs, s1, s2, s3, s4, s5⟩ := h.self
 obtain ⟨⟨gs0, e1, _, _, _⟩, e3⟩ := h.nd n hn
 refine ⟨⟨⟨fs, aL s1 (n3 n hn).1, s2, s3, s4, s5⟩, ?_, fun p hp => aL (h.rdy p hp) ((n2 p hp).2.2 n hn).1, fun m hm => ?_, ?_, ?_, by rw [fM]; exact h.nda⟩, iQ h.nda e1 fun _ z => z⟩
 ·have := gA (st := st) (k := n.k) (g := fun m => { m with np := v }) (fun n => (n.k, opq n.x)) fun _ => rfl
  rw [this]
  exact aL h.map (n3 n hn).2.2.1
 ·obtain ⟨m0, hm0⟩ := bx hm
  by_cases e : m0.k = n.k
  ·rw [if_pos e]
   have := vh h.nk _ hm0 _ hn e
   subst this
   exact ⟨⟨gs, dX e1, h0, h1, h2⟩, aL e3 (n4 _ hn _ hm0).symm⟩
  ·rw [if_neg e]
   exact sO (h.nd m0 hm0) (fun z => e (by rw [n5 _ hm0 _ hn z])) (n4 _ hn _ hm0).symm
 ·rw [sS (g := fun m => { m with np := v }) (fun _ => rfl)]; exact h.nk
 ·have q := h.adr
  unfold St.adr at q ⊢
  rw [gA (g := fun m => { m with np := v }) (·.x) (fun _ => rfl), gA (g := fun m => { m with np := v }) (·.li) (fun _ => rfl)]; exact q
theorem Le (h : Srt a enc st L) {n : Nd κ} {ks : List κ} (hn : n ∈ st.nds) :
  Srt a enc (upK st n.k fun m => { m with su := ks }) (bf L n.li (.data (.list (ks.map enc)))) /\ gW L (bf L n.li (.data (.list (ks.map enc)))) := by
 obtain ⟨n1, n2, n3, n4, n5, n6⟩ := h.ne
 obtain ⟨fs, s1, s2, s3, s4, s5⟩ := h.self
 obtain ⟨⟨gs0, e1, e2, e4, e5⟩, e3⟩ := h.nd n hn
 refine ⟨⟨⟨fs, aL s1 (n3 n hn).2.1, s2, s3, s4, s5⟩, ?_, fun p hp => aL (h.rdy p hp) ((n2 p hp).2.2 n hn).2, fun m hm => ?_, ?_, ?_, by rw [fM]; exact h.nda⟩, iQ h.nda e3 fun _ z => z⟩
 ·have := gA (st := st) (k := n.k) (g := fun m => { m with su := ks }) (fun n => (n.k, opq n.x)) fun _ => rfl
  rw [this]
  exact aL h.map (n3 n hn).2.2.2
 ·obtain ⟨m0, hm0⟩ := bx hm
  by_cases e : m0.k = n.k
  ·rw [if_pos e]
   have := vh h.nk _ hm0 _ hn e
   subst this
   exact ⟨⟨gs0, aL e1 (n4 _ hn _ hn), e2, e4, e5⟩, dX e3⟩
  ·rw [if_neg e]
   exact sO (h.nd m0 hm0) (n4 _ hm0 _ hn) (fun z => e (by rw [n6 _ hm0 _ hn z]))
 ·rw [sS (g := fun m => { m with su := ks }) (fun _ => rfl)]; exact h.nk
 ·have q := h.adr
  unfold St.adr at q ⊢
  rw [gA (g := fun m => { m with su := ks }) (·.x) (fun _ => rfl), gA (g := fun m => { m with su := ks }) (·.li) (fun _ => rfl)]; exact q
theorem addN (h : Srt a enc st L) {n : Nd κ} {L1 : aP} (hn : n.k ∉ st.keys) (hd : ((L1 ++ L).map (·.1)).Nodup) (h1 : Fy a enc n L1) (hxl : n.x ≠ n.li) :
  Srt a enc { st with nds := st.nds ++ [n] } (bf (L1 ++ L) a.N2 (.data (dD enc ((st.nds.map fun n => (n.k, opq n.x)) ++ [(n.k, opq n.x)])))) /\ gW L (bf (L1 ++ L) a.N2 (.data (dD enc ((st.nds.map fun n => (n.k, opq n.x)) ++ [(n.k, opq n.x)])))) := by
 obtain ⟨n1, n2, n3, n4, n5, n6⟩ := h.ne
 obtain ⟨fs, s1, s2, s3, s4, s5⟩ := h.self
 obtain ⟨⟨gs0, e1, e2, e4, e5⟩, e3⟩ := h1
 have hd' := hd
 rw [List.map_append, List.nodup_append] at hd'
 obtain ⟨d1, d2, d3⟩ := hd'
 have hm1 : ∀ {p : Addr × cV}, p ∈ L -> n.x ≠ p.1 /\ n.li ≠ p.1 := fun {p} hp => ⟨d3 _ (lM (f := (·.1)) e1) _ (lM (f := (·.1)) hp), d3 _ (lM (f := (·.1)) e3) _ (lM (f := (·.1)) hp)⟩
 have hr : ∀ {p : Addr × cV}, p ∈ L -> p ∈ L1 ++ L := fun hp => lR _ hp
 refine ⟨⟨⟨fs, aL (hr s1) n1, s2, s3, s4, s5⟩, ?_, fun p hp => aL (hr (h.rdy p hp)) (n2 p hp).2.1.symm, fun m hm => ?_, ?_, ?_, by rw [fM]; exact hd⟩, (qQ).trans (iQ hd (hr h.map) fun _ z => z)⟩
 ·rw [List.map_append]
  exact dX (hr h.map)
 ·rcases lA hm with hm | hm
  ·obtain ⟨⟨gs, f1, f2, f4, f5⟩, f3⟩ := h.nd m hm
   exact ⟨⟨gs, aL (hr f1) (n3 m hm).2.2.1.symm, f2, f4, f5⟩, aL (hr f3) (n3 m hm).2.2.2.symm⟩
  ·rw [lS hm]
   exact ⟨⟨gs0, aL (lL _ e1) (hm1 h.map).1, e2, e4, e5⟩, aL (lL _ e3) (hm1 h.map).2⟩
 ·unfold St.keys
  rw [List.map_append, List.nodup_append]
  exact ⟨h.nk, by simp, fun x hx y hy e => by
   have hy' : y = n.k := by simpa using hy
   exact hn (hy' ▸ e ▸ hx)⟩
 ·have q := h.adr
  unfold St.adr at q ⊢
  rw [List.map_append, List.map_append]
  have hx : ∀ m ∈ st.nds, m.x ≠ n.x /\ m.x ≠ n.li /\ m.li ≠ n.x /\ m.li ≠ n.li := fun m hm => by
   obtain ⟨⟨gs, f1, f2, f4, f5⟩, f3⟩ := h.nd m hm
   exact ⟨(hm1 f1).1.symm, (hm1 f1).2.symm, (hm1 f3).1.symm, (hm1 f3).2.symm⟩
  have hR : ∀ p, st.rn = some p -> p.1 ≠ n.x /\ p.1 ≠ n.li := fun p hp => ⟨(hm1 (h.rdy p hp)).1.symm, (hm1 (h.rdy p hp)).2.symm⟩
  have hR' : ∀ r ∈ rnA st.rn, r ≠ n.x /\ r ≠ n.li := fun r hr => by
   cases hz : st.rn with
   | none => rw [hz] at hr; cases hr
   | some p => rw [hz] at hr; rw [lS hr]; exact hR p hz
  have hS := hm1 s1
  have hN := hm1 h.map
  have hp : List.Perm (a.S :: a.N2 :: (rnA st.rn ++ ((st.nds.map (·.x) ++ [n].map (·.x)) ++ (st.nds.map (·.li) ++ [n].map (·.li))))) (n.x :: n.li :: (a.S :: a.N2 :: (rnA st.rn ++ (st.nds.map (·.x) ++ st.nds.map (·.li))))) := by
   refine List.perm_iff_count.mpr fun z => ?_
   simp only [List.count_cons, List.count_append, List.map_cons, List.map_nil, List.count_nil]
   omega
  rw [hp.nodup_iff, List.nodup_cons, List.nodup_cons]
  refine ⟨?_, ?_, q⟩
  ·simp only [List.mem_cons, List.mem_append, not_or, List.mem_map, not_exists, not_and]
   exact ⟨hxl, hS.1, hN.1, fun z => (hR' _ z).1 rfl, fun m hm e => (hx m hm).1 e, fun m hm e => (hx m hm).2.2.1 e⟩
  ·simp only [List.mem_cons, List.mem_append, not_or, List.mem_map, not_exists, not_and]
   exact ⟨hS.2, hN.2, fun z => (hR' _ z).2 rfl, fun m hm e => (hx m hm).2.1 e, fun m hm e => (hx m hm).2.2.2 e⟩
end Srt
end
variable {keys : List κ}
section
variable {E : Err} [DecidableEq κ]
theorem neR {x : Str} (hR : offB [x] (R.map (·.1)) = true) : ∀ p ∈ R, p.1 ≠ x := fun p hp e => by
 have := List.all_eq_true.mp hR p.1 (lM (f := (·.1)) hp)
 simp [e] at this
theorem Ex1.Lf {x : Str} {npos : Pos} {k : Nat} (h : EvS K A s0 E Γ R Δ e d) (hf : flat d = true)
  (h1 : dw d = true -> Ex K A s0 E ((x, d) :: Γ) R Δ body O) (h2 : dw d = false -> Ex K A s0 E ((x, d) :: Γ) R Δ orelse O)
  (hx : autoParam (decide (x ∈ K.xs) = true) aK) (hΓ : autoParam (offB [x] (Γ.map (·.1)) = true) aK) (hR : autoParam (offB [x] (R.map (·.1)) = true) aK)
  (hm : autoParam (behindInMarks .Is (.Constant .none k np) = false) aU) :
  Ex1 K A s0 E Γ R Δ (.If (.Compare (.NamedExpr (.Name x px) e npos) [.Is] [.Constant .none k np] cpos) body orelse pos) O := by
 have e1 : Γ.filter (fun p => p.1 != x) = Γ := bM fun p hp e => bC hΓ p hp (e ▸ .head _)
 exact Ex1.iteW h hf (of_decide_eq_true hx) (neR hR) (by rw [e1]; exact h1) (by rw [e1]; exact h2) hm
theorem Ex1.Bf (dk : bh K.c.w κ) {x : Str} {o i e : Expr} {px tpos pos : Pos} {D : Addr} {k : κ} {P : PyData -> aP -> Prop} (he : EvX K A s0 E Γ R L Δ e P)
  (ho : ∀ d L', P d L' -> EvS K A s0 E Γ R (aj K.c L' ++ Δ) o (opq D)) (hi : ∀ d L', P d L' -> EvS K A s0 E Γ R (aj K.c L' ++ Δ) i (dk.enc k))
  (hD : ∀ d L', P d L' -> flat d = true /\ ∃ kvs : List (κ × PyData), (D, .data (dD dk.enc kvs)) ∈ L' /\ kvs.length <= 10 ^ 6 /\ k ∉ kvs.map (·.1))
  (hx : autoParam (decide (x ∈ K.xs) = true) aK) (hΓ : autoParam (offB [x] (Γ.map (·.1)) = true) aK) (hR : autoParam (offB [x] (R.map (·.1)) = true) aK)
  (he2 : autoParam ((assignEach [Expr.Subscript o i tpos, Expr.Name x px] K.env).map (·.2) = [PySem.assign (Expr.Subscript o i tpos) K.env, PySem.assign (Expr.Name x px) K.env]) aR)
  (hw : autoParam (swappedStores [Expr.Subscript o i tpos, Expr.Name x px] e K.env = pure none) aR) :
  Ex1 K A s0 E Γ R (aj K.c L ++ Δ) (.Assign [Expr.Subscript o i tpos, Expr.Name x px] e pos) (fun q => ∃ d L' kvs, P d L' /\ (D, .data (dD dk.enc kvs)) ∈ L' /\ q = .next ((x, d) :: Γ) R (aj K.c (bf L' D (.data (dD dk.enc (kvs ++ [(k, d)])))) ++ Δ)) := by
 have e1 : Γ.filter (fun p => p.1 != x) = Γ := bM fun p hp e => bC hΓ p hp (e ▸ .head _)
 have := Ex1.Bc dk (pos := pos) (px := px) (tpos := tpos) he (of_decide_eq_true hx) (neR hR) ho hi hD he2 hw
 rw [e1] at this
 exact this
theorem EvX.know {φ : PyData -> aP -> Prop} (h : EvX K A s0 E Γ R L Δ e P) (k : ∀ d L' s X, P d L' -> Sat K X Γ R (aj K.c L' ++ Δ) A s0 s -> φ d L') : EvX K A s0 E Γ R L Δ e (fun d L' => P d L' /\ φ d L') := fun s X S =>
 wK (h s X S) (fun v s1 q => let ⟨X', d, L', hP, S', r⟩ := q; ⟨X', d, L', ⟨hP, k d L' s1 X' hP S'⟩, S', r⟩)
theorem EvX.of {Q : PyData -> aP -> Prop} (h : EvX K A s0 E Γ R L Δ e P) (k : ∀ d L', P d L' -> Q d L') : EvX K A s0 E Γ R L Δ e Q := fun s X S =>
 wK (h s X S) (fun v s1 q => let ⟨X', d, L', hP, S', r⟩ := q; ⟨X', d, L', k d L' hP, S', r⟩)
end
section
variable [DecidableEq κ]
theorem gC {st : St κ} : (k ∉ st.keys /\ (cj (st.nds.map fun n => (n.k, opq n.x)) k).getD .none = .none) \/ ∃ n ∈ st.nds, n.k = k /\ (cj (st.nds.map fun n => (n.k, opq n.x)) k).getD .none = opq n.x := by
 unfold cj
 cases e : (st.nds.map fun n => (n.k, opq n.x)).find? fun p => p.1 = k with
 | none =>
  refine .inl ⟨fun hk => ?_, rfl⟩
  obtain ⟨n, hn⟩ := bx hk
  have := List.find?_eq_none.mp e _ (lM (f := fun n : Nd κ => (n.k, opq n.x)) hn)
  simp at this
 | some p =>
  have h1 := List.mem_of_find?_eq_some e
  have h2 := List.find?_some e
  obtain ⟨n, hn⟩ := bx h1
  exact .inr ⟨n, hn, by simpa using h2, rfl⟩
end
noncomputable def qR (c : Cfg) (q : Addr) (o : Obj) : Res c where
 fp := [q]
 P := fun X h => h.get? q = some o
 alive := fun X h e a ha => by rw [lS ha]; exact ⟨_, e⟩
 keep := fun X h h' Y e x hF hy => x.exact (fun z => (hy _ z).2 (.head _)) (fun z => (hF _ z).2 (.head _)) e
 wide := fun X X' h e _ => e
noncomputable def okB (F : Frag) (C : Addr) (name : Str) (f : Addr) : Bool :=
 plainGet F C name && hasDictIn F C && findIn F (.ref C) name == some (some (.ref f)) && isFn F (.ref f) && specialIn F (.ref f) "__get__" == some (some (.builtin "function.__get__")) && takesIn F (.ref f) == some false && !(copiedNames.contains name) && fnIn F f
inductive OkBI (F : Frag) (C : Addr) (name : Str) (f : Addr) : Prop
 | mk (k1 : plainGet F C name = true) (k2 : hasDictIn F C = true) (k3 : findIn F (.ref C) name = some (some (.ref f))) (k4 : isFn F (.ref f) = true) (k5 : specialIn F (.ref f) "__get__" = some (some (.builtin "function.__get__"))) (k6 : takesIn F (.ref f) = some false) (k7 : copiedNames.contains name = false)
theorem FJ {name : Str} {f : Addr} (h : okB F C name f = true) : OkBI F C name f := by
 unfold okB at h
 simp only [Bool.and_eq_true, beq_iff_eq, Bool.not_eq_true'] at h
 obtain ⟨⟨⟨⟨⟨⟨⟨k1, k2⟩, k3⟩, k4⟩, k5⟩, k6⟩, k7⟩, _⟩ := h
 exact ⟨k1, k2, k3, k4, k5, k6, k7⟩
section
variable {E : Err} 
theorem Sat.FN (S : Sat K X Γ R Δ A s0 s) {s' : Shared} (p : Pst K.c s s') {D : Addr} {o : Obj} (hD : s.heap.get? D = none) (ho : s'.heap.get? D = some o) : Sat K (D :: X) Γ R (qR K.c D o :: Δ) A s0 s' := by
 have fq := S.off hD
 obtain ⟨h', tk, q⟩ := p
 have S' : Sat K (D :: X) Γ R Δ A s0 { s with heap := h', toks := tk } := S.grow (fun a ha => (lC ha).elim (fun e => .inr (e ▸ hD)) .inl) (fun a ha => .tail _ ha) q fun a ha => (lC ha).elim (fun e => e ▸ ⟨_, ho⟩) fun z => q.alive (fun z => nomatch z) (S.good.bas.alloc a z)
 exact S'.add (qR K.c D o) ho (fun a ha => by rw [lS ha]; exact ⟨.head _, fq.2.1, fq.2.2.1, fq.2.2.2.1⟩) fun r hr a ha => by rw [lS ha]; exact fq.2.2.2.2 r hr
theorem Bg {name : Str} {f : Addr} {ns : List Str} {fs : List (Str × PyData)} (hF : F.In K.c.base) (S : Sat K X Γ R (aj K.c L ++ Δ) A s0 s) (h : (a, .inst C dx ns fs gs) ∈ L) (hk : okB F C name f = true) (hns : name ∉ ns)
  (k : ∀ q s', Sat K (q :: X) Γ R (qR K.c q (methodObj (.ref f) (.ref a)) :: (aj K.c L ++ Δ)) A s0 s' -> Q (.ref q) s') : wpAny K.c.M A (getAttr (.ref a) name true) Q E s := by
 obtain ⟨sl, es, n, e1, e2, hn, f', g⟩ := S.obj h
 obtain ⟨k1, k2, k3, k4, k5, k6, k7⟩ := FJ hk
 have hX : F.In s.heap := S.vd hF
 refine get_bind hX (fC e1 e2) (plainGet_of k1).1 (findObj_fn k2 k3 k5 k6 k7 (by show lookIn name (dictOf es n) = _; rw [lookIn_dict, wC hn hns])) (plainGet_of k1).2
  (wpAny_call (fn_get (s := { s with toks := s.toks + 1 }) hX (beq_iff_eq.mp k4) (handed_on rfl (k s.heap.objs.size _ (S.FN (o := methodObj (.ref f) (.ref a)) ?_ (ak (Nat.le_refl _)) ?_)))))
 ·exact ⟨_, s.toks + 1, .push _ _⟩
 ·exact hP _ rfl
theorem EvX.H9 {name : Str} {f : Addr} {ns : List Str} {fs : List (Str × PyData)} (hF : F.In K.c.base) (ho : EvS K A s0 E Γ R (aj K.c L ++ Δ) o (opq a)) (h : (a, .inst C dx ns fs gs) ∈ L) (hk : okB F C name f = true) (hns : name ∉ ns)
  (hm : FnA K.c K.l f (opq a :: ds) L P) (ha : ∀ q Δ, m9 K A s0 E Γ R Δ (.ref q) pos args ds)
  (hbase : autoParam (attributeBase o name K.env (eval o K.env) = eval o K.env) aR)
  (hfew : autoParam (methodCallForm (args.length + ([] : List Keyword).length) (backTo pos (starEach args K.env)) (backToKw pos (keywordEach [] K.env)) = false) aR)
  (hst : autoParam ((backTo pos (starEach args K.env)).any (·.1) = true) aR) : EvX K A s0 E Γ R L Δ (.Call (.Attribute o name apos) args [] pos) P := fun s X S => by
 have k8 : fnIn F f = true := (Bool.and_eq_true_iff.mp hk).2
 rw [arm_eval_Call, hbase]
 refine wB (ho.ref S fun s1 S1 => ?_)
 refine wB (wpAny_standAt ?_)
 unfold methodCall
 rw [hfew]
 refine wB (wpAny_holding ?_)
 show wpAny K.c.M A (getAttr (.ref a) name true >>= fun v => pure (v, [])) _ _ s1
 refine wB (Bg hF S1 h hk hns fun q s2 S2 => wP ?_)
 show wpAny K.c.M A (pure pos >>= fun callPos => callWith callPos (.ref q) [] (backTo pos (starEach args K.env)) []) _ _ s2
 refine wB (wP ?_)
 refine ks_call (P := fun h => h.get? q = some (methodObj (.ref f) (.ref a)) /\ F.In h) hst (fun h hP => keeps_M k8 h hP) (ha q _ _ _ _ S2 fun vs s3 X3 hX3 S3 r3 => ?_)
 have hq : s3.heap.get? q = some (methodObj (.ref f) (.ref a)) := S3.res (qR K.c q (methodObj (.ref f) (.ref a))) (.head _)
 refine ⟨⟨hq, S3.vd hF⟩, ?_⟩
 have S4 : Sat K X3 Γ R (aj K.c L ++ Δ) A s0 s3 := S3.weak (fun _ h => h) (fun _ h => h) (List.sublist_cons_self ..)
 refine wpAny_call (method_call hq (codeAny_mono (hm A X3 s3 (.ref a :: vs) S4.lev S4.good.bas (.cons (.opq a) r3) S4.sH) fun r s' hr => ?_))
 rcases r with e | fl
 ·exact hr.elim
 ·cases fl with
  | ret v =>
   exact S4.Az hr
  | _ => exact hr.elim
noncomputable def sU : PyData -> Option (List PyData)
 | .list ds => some ds
 | .tuple ds => some ds
 | _ => none
theorem wH (h : sU d = some ds) : d = .list ds \/ d = .tuple ds := by
 cases d with
 | list => exact .inl (congrArg _ (Option.some.inj h))
 | tuple => exact .inr (congrArg _ (Option.some.inj h))
 | _ => cases h
theorem wI {Q : List Value -> Shared -> Prop} (r : Rd c.w X s.heap v d) (hd : sU d = some ds) (hz : ds.length <= 10 ^ 6) (hfr : ∀ a ∈ c.fr, a ∈ X) (h : ∀ vs s', Pst c s s' -> RdL c.w X s'.heap vs ds -> Q vs s') : StarOf c.M A E v Q s := by
 have main : ∀ (a : Addr) (T : String) (vs : List Value) (n : Nat) (o : Obj), s.heap.get? a = some o -> o.cls = .type T -> o.data = .seq vs.toArray n -> (T = "list" \/ T = "tuple") -> RdL c.w X s.heap vs ds -> StarOf c.M A E (.ref a) Q s := fun a T vs n o e hc hdat hT q => by
  have hT' : s.TypeIs (.ref a) T := ⟨o, e, hc⟩
  have z : wpAny c.M A (collect (.ref a)) Q E s := by
   refine wpAny_collect_seq a hT e hc hdat (fun h' hk => ?_) (by rw [List.size_toArray, q.length, sizeLine_eq]; omega)
   have x : HX c [] s.heap h' := .cP hk
   have := h vs { s with heap := h' } ⟨h', s.toks, x⟩ (q.hx0 x hfr)
   simpa using this
  unfold StarOf notIterableAtAll
  rcases hT with rfl | rfl
  ·exact wB (wpAny_specialOf hT' PySem.F.slot_list_iter.lookup (wP ⟨rfl, z⟩))
  ·exact wB (wpAny_specialOf hT' PySem.F.slot_tuple_iter.lookup (wP ⟨rfl, z⟩))
 rcases wH hd with rfl | rfl
 ·obtain ⟨a, vs, n, ha, e, q⟩ := r.aQ; exact main a "list" vs n _ e rfl rfl (.inl rfl) q
 ·obtain ⟨a, vs, n, ha, e, q⟩ := r.cX; exact main a "tuple" vs n _ e rfl rfl (.inr rfl) q
theorem m9.FP {f : Value} (h : EvS K A s0 E Γ R Δ e d) (hd : sU d = some ds) (hz : ds.length <= 10 ^ 6) (he : autoParam (starEach [.Starred e p] K.env = [(true, eval e K.env)]) aR) : m9 K A s0 E Γ R Δ f pos [.Starred e p] ds := fun s X Q S k => by
 rw [he]
 exact ks_lone (h.go S fun v s1 S1 r1 => wI r1 hd hz S1.good.bas.frs fun vs s2 p2 r2 => k vs s2 X (fun _ h => h) (S1.pst p2) r2)
theorem m9.FQ {f : Value} {e0 : Expr} {d0 : PyData} (h0 : EvS K A s0 E Γ R Δ e0 d0) (h : EvS K A s0 E Γ R Δ e d) (hf : flat d0 = true) (hd : sU d = some ds) (hz : ds.length <= 10 ^ 6)
  (he : autoParam (starEach [e0, .Starred e p] K.env = (false, eval e0 K.env) :: starEach [.Starred e p] K.env) aR) (he2 : autoParam (starEach [.Starred e p] K.env = (true, eval e K.env) :: starEach [] K.env) aR) : m9 K A s0 E Γ R Δ f pos [e0, .Starred e p] (d0 :: ds) := fun s X Q S k => by
 rw [he]
 refine evalArgs_plain (Calls.spliced_cons (h0.go S fun v0 s1 S1 r1 => items_star (h.go S1 fun v s2 S2 r2 => wI r2 hd hz S2.good.bas.frs fun vs s3 p3 r3 => Calls.spliced_nil ?_) he2))
 rw [List.append_nil]
 exact k (v0 :: vs) s3 X (fun _ h => h) (S2.pst p3) (.cons (r1.flat hf) r3)
theorem yQ {p q r : Str} (hz : ds.length <= 10 ^ 6) (h : ∀ a b (vs : List Value), bindArgs fd ⟨a :: b :: vs, []⟩ = (do let t <- newTuple vs; pure [(p, a), (q, b), (r, t)])) (A : Around) (X : List Addr) (s : Shared) (vs : List Value) (B : Bas c A X s.heap) (rr : RdL c.w X s.heap vs (d1 :: d2 :: ds)) :
  wpAny c.M A.in1 (bindArgs fd ⟨vs, []⟩) (fun binds s1 => Pst c s s1 /\ ∃ us, binds = [p, q, r].zip us /\ RdL c.w X s1.heap us [d1, d2, .tuple ds]) NoE s := by
 have hz := rr.cons_inv; clear rr; obtain ⟨_, _, r1, rr⟩ := hz
 have hz := rr.cons_inv; clear rr; obtain ⟨_, _, r2, r3⟩ := hz
 rw [h]
 have x : ∀ o, HX c [] s.heap (s.heap.push o) := fun o => .push _ _
 have hn : s.heap.get? s.heap.objs.size = none := ak (Nat.le_refl _)
 refine wB (wpAny_newTuple (wP ⟨.fH, _, rfl, .cons (r1.hx0 (x _) B.frs) (.cons (r2.hx0 (x _) B.frs) (.cons (.tuple (fun z => ?_) (hP _ rfl) (r3.hx0 (x _) B.frs)) .nil))⟩) (by rw [r3.length, sizeLine_eq]; omega))
 obtain ⟨o, e⟩ := B.alloc _ z
 rw [hn] at e; cases e
theorem pW {p r : Str} (hz : ds.length <= 10 ^ 6) (h : ∀ a (vs : List Value), bindArgs fd ⟨a :: vs, []⟩ = (do let t <- newTuple vs; pure [(p, a), (r, t)])) (A : Around) (X : List Addr) (s : Shared) (vs : List Value) (B : Bas c A X s.heap) (rr : RdL c.w X s.heap vs (d1 :: ds)) :
  wpAny c.M A.in1 (bindArgs fd ⟨vs, []⟩) (fun binds s1 => Pst c s s1 /\ ∃ us, binds = [p, r].zip us /\ RdL c.w X s1.heap us [d1, .tuple ds]) NoE s := by
 have hz := rr.cons_inv; clear rr; obtain ⟨_, _, r1, r3⟩ := hz
 rw [h]
 have x : ∀ o, HX c [] s.heap (s.heap.push o) := fun o => .push _ _
 have hn : s.heap.get? s.heap.objs.size = none := ak (Nat.le_refl _)
 refine wB (wpAny_newTuple (wP ⟨.fH, _, rfl, .cons (r1.hx0 (x _) B.frs) (.cons (.tuple (fun z => ?_) (hP _ rfl) (r3.hx0 (x _) B.frs)) .nil)⟩) (by rw [r3.length, sizeLine_eq]; omega))
 obtain ⟨o, e⟩ := B.alloc _ z
 rw [hn] at e; cases e
end
theorem P2.Bh {a b : Int} : P2 c (inplaceOp .Add) (.int a) (.int b) (.int (a + b)) := .eY fun l A X s ta tb _ _ => AutoIntOps.iadd_0 (by exact ⟨.tk, .int _ _⟩)
theorem P2.Lg {a b : Int} : P2 c (inplaceOp .Sub) (.int a) (.int b) (.int (a - b)) := .eY fun l A X s ta tb _ _ => AutoIntOps.isub_0 (by exact ⟨.tk, .int _ _⟩)
theorem aO.Lh (hz : ds.length <= 2 ^ 40) : aO c l (.builtin "len") [.tuple ds] (.int ds.length) := fun A X s vs L B r => by
 have hz := r.bO; clear r; obtain ⟨_, r⟩ := hz
 have hz := r.cX; clear r; obtain ⟨_, _, _, ha, e, q⟩ := hz
 refine len_tuple ⟨_, e, rfl, _, rfl⟩ (by simp [q.length]; omega) ?_
 refine ⟨.tk, ?_⟩
 simp only [List.size_toArray, q.length]
 exact .int _ _
theorem aO.listT (hz : ds.length <= 10 ^ 6) : aO c l (.type "list") [.tuple ds] (.list ds) := fun A X s vs L B r => by
 have hz := r.bO; clear r; obtain ⟨_, r⟩ := hz
 have hz := r.cX; clear r; obtain ⟨a, vs, n, ha, ea, q⟩ := hz
 refine call_list_seq a (.inr rfl) ea rfl rfl (fun h' k hk e' => ?_) (by simp [q.length, sizeLine_eq]; omega)
 have q1 : HX c [] s.heap h' := .cP hk
 exact ⟨⟨h', s.toks, q1⟩, .list (gP B.alloc) e' (q.hx0 q1 B.frs)⟩
theorem aO.Jc (hz : ds.length <= 10 ^ 6) : aO c l (.type "tuple") [.list ds] (.tuple ds) := fun A X s vs L B r => by
 have hz := r.bO; clear r; obtain ⟨_, r⟩ := hz
 have hz := r.aQ; clear r; obtain ⟨a, vs, n, ha, ea, q⟩ := hz
 refine call_tuple_list ⟨_, ea, rfl, _, rfl⟩ (fun h' hk => ?_) (by simp [q.length, sizeLine_eq]; omega)
 have q1 : HX c [] s.heap h' := .cP hk
 have q2 : ∀ o, HX c [] s.heap (h'.push o) := fun o => q1.trans (.push _ _)
 have hn : s.heap.get? h'.objs.size = none := by
  cases e : s.heap.get? h'.objs.size with
  | none => rfl
  | some o => exact absurd (Heap.lt_size (hk _ _ e)) (Nat.lt_irrefl _)
 refine ⟨⟨_, s.toks, q2 _⟩, .tuple (fun z => ?_) (hP _ rfl) (q.hx0 (q2 _) B.frs)⟩
 obtain ⟨o, e⟩ := B.alloc _ z
 rw [hn] at e; cases e
section
variable [DecidableEq κ]
noncomputable abbrev PN (κ : Type) := κ × Int × List κ
noncomputable def St.abs (st : St κ) : List (PN κ) := st.nds.map fun n => (n.k, n.np, n.su)
noncomputable def infoP (ns : List (PN κ)) (k : κ) : List (PN κ) := if k ∈ ns.map (·.1) then ns else ns ++ [(k, 0, [])]
noncomputable def upP (ns : List (PN κ)) (k : κ) (g : PN κ -> PN κ) : List (PN κ) := ns.map fun n => if n.1 = k then g n else n
noncomputable def pX (k : κ) (ns : List (PN κ)) (p : κ) : List (PN κ) := upP (infoP ns p) p fun n => (n.1, n.2.1, n.2.2 ++ [k])
noncomputable def kI (ns : List (PN κ)) (k : κ) (m : Nat) : List (PN κ) := upP (infoP ns k) k fun n => (n.1, n.2.1 + m, n.2.2)
noncomputable def lZ (ns : List (PN κ)) (k : κ) (ps : List κ) : List (PN κ) := ps.foldl (pX k) (kI ns k ps.length)
noncomputable def dK (N : Nat) (ns : List (PN κ)) : Prop := ns.length <= N /\ ∀ n ∈ ns, n.2.2.length <= N
theorem dK.mono {N M : Nat} {ns : List (PN κ)} (h : dK N ns) (hm : N <= M) : dK M ns := ⟨Nat.le_trans h.1 hm, fun n hn => Nat.le_trans (h.2 n hn) hm⟩
theorem dK.info {N : Nat} {ns : List (PN κ)} (h : dK N ns) : dK (N + 1) (infoP ns k) := by
 unfold infoP
 split
 ·exact h.mono (Nat.le_succ _)
 ·refine ⟨by rw [List.length_append]; have := h.1; simp; omega, fun n hn => ?_⟩
  rcases lA hn with hn | hn
  ·have := h.2 n hn; omega
  ·rw [lS hn]; simp
theorem qT {ns : List (PN κ)} {g : PN κ -> PN κ} {n : PN κ} (h : n ∈ upP ns k g) : ∃ m ∈ ns, n = if m.1 = k then g m else m := by
 obtain ⟨m, hm, e⟩ := List.mem_map.mp h
 exact ⟨m, hm, e.symm⟩
theorem Bj {ns : List (PN κ)} : ∀ n ∈ infoP ns k, n ∈ ns \/ n = (k, 0, []) := fun n hn => by
 unfold infoP at hn
 split at hn
 ·exact .inl hn
 ·rcases lA hn with hn | hn
  ·exact .inl hn
  ·exact .inr (lS hn)
theorem dK.pred {N : Nat} {ns : List (PN κ)} {p : κ} (h : dK N ns) : dK (N + 1) (pX k ns p) := by
 have hi := h.info (k := p)
 refine ⟨by unfold pX upP; rw [List.length_map]; exact hi.1, fun n hn => ?_⟩
 obtain ⟨m, hm, rfl⟩ := qT hn
 have hm' : m.2.2.length <= N := by
  rcases Bj m hm with h' | rfl
  ·exact h.2 m h'
  ·simp
 split
 ·simp; omega
 ·omega
theorem dK.kI {N m : Nat} {ns : List (PN κ)} (h : dK N ns) : dK (N + 1) (kI ns k m) := by
 have hi := h.info (k := k)
 refine ⟨by unfold Mine.kI upP; rw [List.length_map]; exact hi.1, fun n hn => ?_⟩
 obtain ⟨m, hm, rfl⟩ := qT hn
 have hm' := hi.2 m hm
 split <;> exact hm'
theorem dK.fold {k : κ} : ∀ {ps : List κ} {N : Nat} {ns : List (PN κ)}, dK N ns -> dK (N + ps.length) (ps.foldl (pX k) ns)
 | [], _, _, h => h
 | p :: ps, N, ns, h => by
  have := dK.fold (k := k) (ps := ps) (h.pred (k := k) (p := p))
  rw [List.foldl_cons, List.length_cons]
  exact this.mono (by omega)
theorem dK.lZ {N : Nat} {ns : List (PN κ)} {ps : List κ} (h : dK N ns) : dK (N + 1 + ps.length) (lZ ns k ps) := (h.kI).fold
theorem jK {st : St κ} : st.abs.length = st.nds.length := List.length_map _
theorem dz {st : St κ} : st.abs.map (·.1) = st.keys := by unfold St.abs St.keys; rw [List.map_map]; rfl
theorem qU {st : St κ} {g : Nd κ -> Nd κ} {g' : PN κ -> PN κ} (h : ∀ n, ((g n).k, (g n).np, (g n).su) = g' (n.k, n.np, n.su)) : (Srt.upK st k g).abs = upP st.abs k g' := by
 unfold Srt.upK St.abs upP
 simp only [List.map_map]
 refine List.map_congr_left fun n _ => ?_
 simp only [Function.comp]
 split
 ·exact h n
 ·rfl
end
variable {g' : PN κ -> PN κ}
section
variable {E : Err} 
theorem Ex.newX {x : Str} (h : EvX K A s0 E Γ R L Δ e P) (k : ∀ d L', P d L' -> Ex K A s0 E ((x, d) :: Γ) R (aj K.c L' ++ Δ) ss O)
  (hx : autoParam (decide (x ∈ K.xs) = true) aK) (hΓ : autoParam (offB [x] (Γ.map (·.1)) = true) aK) (hR : autoParam (offB [x] (R.map (·.1)) = true) aK) (hs : autoParam (swapsWith e (some (.Name x px)) pos.line K.env = pure false) aR) :
  Ex K A s0 E Γ R (aj K.c L ++ Δ) (.Assign [.Name x px] e pos :: ss) O := by
 have e1 : Γ.filter (fun p => p.1 != x) = Γ := bM fun p hp e => bC hΓ p hp (e ▸ .head _)
 refine Ex.j9 (Ex1.Fx h (of_decide_eq_true hx) (neR hR) hs) ?_
 rintro _ ⟨d, L', hP, rfl⟩
 refine ⟨_, _, _, rfl, ?_⟩
 rw [e1]
 exact k d L' hP
theorem cY {D : Del K} : List.Perm (r :: (D ++ Δ)) (D ++ r :: Δ) := List.perm_middle.symm
end
section
variable {K : Type} [DecidableEq K]
inductive StM (c : Cfg) (dk : bh c.w K) (I d : Addr) (ks : List K) (ds : List PyData) (X : List Addr) (i : Nat) (h : Heap) : Prop
 | mk (vs : List Value) (ep : Nat) (ok ov : Value) (it : IsItemIter h I d i (ks.zip vs).length ep ok ov) (off : d ∉ X) (at_ : h.DictAt (dk.knd c.prog) d (ks.zip vs) ep) (len : ks.length = vs.length) (r : RdL c.w X h vs ds)
noncomputable def wJ (enc : K -> PyData) (ks : List K) (ds : List PyData) : List PyData := (ks.zip ds).map fun p => .tuple [enc p.1, p.2]
theorem DictAt.hx {d ep} {kvs : List (K × Value)} {knd : PySem.KeyKind c.prog c.w K} (q : HX c Y h h') (h2 : d ∉ X) (hy : ∀ y ∈ Y, y ∈ X) (hF : ∀ a ∈ c.fr, a ∈ X) (x : h.DictAt knd d kvs ep) : h'.DictAt knd d kvs ep := by
 obtain ⟨o2, es, e2, r2⟩ := x
 exact ⟨o2, es, q.exact (fun z => h2 (hy _ z)) (fun z => h2 (hF _ z)) e2, r2⟩
theorem qW : entryFor table "dict_itemiterator.__iter__" = some Builtin.«dict_keyiterator.__iter__» := entryFor_alias (id' := "dict_keyiterator.__iter__") (by kernel_rfl) rfl (by decide +kernel) (by kernel_rfl)
theorem yR {dk : bh c.w K} {d : Addr} {ks : List K} (hl : ks.length = ds.length) : ItS c true I [I] (wJ dk.enc ks ds) (StM c dk I d ks ds) where
 alive := fun X i h st a ha => by
  obtain ⟨vs, ep, ok, ov, e, _⟩ := st
  rw [lS ha]
  exact ⟨_, e⟩
 keep := fun X i h h' Y st q hF hy => by
  obtain ⟨vs, ep, ok, ov, e, h2, h3, h4, h5⟩ := st
  exact ⟨vs, ep, ok, ov, q.exact (fun z => (hy _ z).2 (.head _)) (fun z => (hF _ z).2 (.head _)) e, h2, DictAt.hx q h2 (fun y z => (hy y z).1) (fun a z => (hF a z).1) h3, h4, h5.hx q (fun a z => (hF a z).1) fun y z => (hy y z).1⟩
 wide := fun X X' i h st hy => by
  obtain ⟨vs, ep, ok, ov, h1, h2, h3, h4, h5⟩ := st
  obtain ⟨o2, es, e2, r2⟩ := id h3
  exact ⟨vs, ep, ok, ov, h1, fun z => (hy _ z).elim h2 fun e => (by rw [e] at e2; cases e2), h3, h4, h5.wide hy⟩
 item := fun A s X i dd tg hh ht st hf hF hd => by
  obtain ⟨vs, ep, ok, ov, h1, h2, h3, h4, h5⟩ := st
  obtain ⟨⟨k0, d0⟩, hk⟩ := dO hd
  obtain ⟨hk1, hk2⟩ := List.getElem?_zip_eq_some.mp hk
  obtain ⟨v, hv, rv⟩ := h5.get _ hk2
  have hz : (ks.zip vs)[i]? = some (k0, v) := List.getElem?_zip_eq_some.mpr ⟨hk1, hv⟩
  obtain ⟨hI, hIb, hIf⟩ := hf I (.head _)
  obtain ⟨es, k, p⟩ := mU ht
  refine wpAny_pyNext_items_item h1 h3 hz fun key h' hkey hit' htup hsz hs' => ⟨_, rfl, wpAny_letOwnedTupleGo_items hit' fun h'' b1 b2 => ?_⟩
  have q1 : HX c [I] s.heap h' := .of_keep (fun b o hb eb => hs' b o (fun z => hb (z ▸ .head _)) eb) (fun y hy => (hf y hy).2.1) fun y hy => (hf y hy).2.2
  have q2 : HX c [I] h' h'' := .sameBut b2 hIb hIf
  have q : HX c [I] s.heap h'' := q1.trans q2
  have hY : ∀ y ∈ [I], y ∈ X := fun y hy => lS hy ▸ hI
  have hT : s.heap.objs.size ≠ I := Nat.ne_of_gt (Heap.lt_size h1)
  have hT' : h''.get? s.heap.objs.size = some { cls := .type "tuple", data := .seq #[key, v] } := (b2.2 _ hT).trans htup
  refine ⟨h'', s.toks, q, ⟨vs, ep, _, _, b1, h2, DictAt.hx q h2 hY hF h3, h4, h5.hx q hF hY⟩, ?_⟩
  exact ⟨s.heap.objs.size, [key, v], _, ⟨_, hT', rfl, _, rfl⟩, .cons (dk.rd c.prog k0 key hkey X h'') (.cons (rv.hx q hF hY) .nil)⟩
 done := fun A s X hh st hf => by
  obtain ⟨vs, ep, ok, ov, h1, h2, h3, h4, h5⟩ := st
  refine wpAny_pyNext_items_end hh h1 h3 (by simp [wJ, h4, <- h5.length, hl]) fun h' he' => ⟨h', s.toks, ItS.off hf he'⟩
 self := fun A s X i st => by
  obtain ⟨vs, ep, ok, ov, h1, _⟩ := st
  have hT : s.TypeIs (.ref I) "dict_itemiterator" := ⟨_, h1, rfl⟩
  refine wpAny_pyIter_slot hT PySem.F.slot_dict_itemiterator_iter (wpAny_call_entry PySem.F.slot_dict_itemiterator_iter hT qW ?_ (PySem.F.args_dict_itemiterator_iter_1 _))
  show wpAny _ _ (ret (.ref I)) _ _ s
  exact wP ⟨_, rfl, "dict_itemiterator", _, hT, PySem.F.slot_dict_itemiterator_next.lookup, rfl, rfl⟩
theorem EvI.ofItems (dk : bh c.w K) {o : Expr} {apos pos : Pos} {ks : List K} {ds : List PyData} (hsys : sysModules ∈ c.fr) (hl : ks.length = ds.length) (h : Ev c l X env Γ o (.dict ((ks.map dk.enc).zip ds)))
  (hbase : autoParam (attributeBase o "items" env (eval o env) = eval o env) aR) (hline : autoParam ((apos.endLine == pos.line) = true) aR) : EvI c l X env Γ true (.Call (.Attribute o "items" apos) [] [] pos) (wJ dk.enc ks ds) := fun A s L G => by
 refine qK PySem.F.plainAttrs_dict PySem.F.slot_dict_items PySem.F.type_dict_items (h.use L G fun v s1 p1 r1 G1 => ?_) hbase hline
 obtain ⟨a, vs, ha, hd, q, e⟩ := r1.j6 dk hl
 have hne : (a == sysModules) = false := by
  have : a ≠ sysModules := fun z => ha (z ▸ G1.bas.frs _ hsys)
  simpa using this
 refine ⟨hd.typeIs, fun a' ha' => by cases ha'; exact hd.mapOf.noDict _ rfl, ?_⟩
 refine call_meetsIn PySem.F.slot_dict_items hd.typeIs PySem.F.entry_dict_items (PySem.F.args_dict_items_1 _) (meets_dict_items (dk.knd c.prog) a hne) ⟨⟨_, hd⟩, ?_⟩
 obtain ⟨ep, hd⟩ := hd.dictAt
 have hd1 := hd.push { cls := .type "dict_items", data := .fields #[.ref a] }
 refine wpAny_pyIter_items (v := s1.heap.objs.size) ⟨_, hP _ rfl, rfl, rfl⟩ hd1 ?_
 obtain ⟨o2, es, e2, r2⟩ := id hd
 have q1 : ∀ o1 o2, HX c [] s1.heap ((s1.heap.push o1).push o2) := fun o1 o2 => (HX.push _ _).trans (HX.push _ _)
 refine ⟨p1.trans ⟨_, s1.toks, q1 _ _⟩, _, [_], StM c dk _ a ks ds, yR hl, ⟨vs, ep, .none, .none, hP _ rfl, ?_, hd1.push _, e.symm, ?_⟩, ?_⟩
 ·exact iD (by rw [Heap.size_push]; omega) ha e2
 ·refine (q.wide fun b hb => ?_).hx0 (q1 _ _) fun b hb => lR _ (G1.bas.frs b hb)
  rcases lA hb with z | z
  ·rw [lS z]
   exact .inr (ak (by rw [Heap.size_push]; omega))
  ·exact .inl z
 ·intro b hb
  rw [lS hb]
  exact p1.hx.none_of (fun z => nomatch z) (ak (by show _ <= _; rw [Heap.size_push]; omega))
inductive StV (c : Cfg) (dk : bh c.w K) (I d : Addr) (ks : List K) (ds : List PyData) (X : List Addr) (i : Nat) (h : Heap) : Prop
 | mk (vs : List Value) (ep : Nat) (it : h.IsValIter I d i (ks.zip vs).length ep) (off : d ∉ X) (at_ : h.DictAt (dk.knd c.prog) d (ks.zip vs) ep) (len : ks.length = vs.length) (r : RdL c.w X h vs ds)
theorem Bk {dk : bh c.w K} {d : Addr} {ks : List K} (hl : ks.length = ds.length) : ItS c false I [I] ds (StV c dk I d ks ds) where
 alive := fun X i h st a ha => by
  obtain ⟨vs, ep, ⟨o, e, _⟩, _⟩ := st
  rw [lS ha]
  exact ⟨_, e⟩
 keep := fun X i h h' Y st q hF hy => by
  obtain ⟨vs, ep, ⟨o, e, r⟩, h2, h3, h4, h5⟩ := st
  obtain ⟨o', e', cl', _, d'⟩ := q.get (fun z => (hy _ z).2 (.head _)) e
  exact ⟨vs, ep, ⟨o', e', cl'.trans r.1, d'.trans r.2⟩, h2, DictAt.hx q h2 (fun y z => (hy y z).1) (fun a z => (hF a z).1) h3, h4, h5.hx q (fun a z => (hF a z).1) fun y z => (hy y z).1⟩
 wide := fun X X' i h st hy => by
  obtain ⟨vs, ep, h1, h2, h3, h4, h5⟩ := st
  obtain ⟨o2, es, e2, r2⟩ := id h3
  exact ⟨vs, ep, h1, fun z => (hy _ z).elim h2 fun e => (by rw [e] at e2; cases e2), h3, h4, h5.wide hy⟩
 item := fun A s X i dd tg hh ht st hf hF hd => by
  obtain ⟨vs, ep, h1, h2, h3, h4, h5⟩ := st
  obtain ⟨v, hv, rv⟩ := h5.get _ hd
  have hi : i < ks.length := by rw [h4]; exact (List.getElem?_eq_some_iff.mp hv).1
  have hz : (ks.zip vs)[i]? = some (ks[i], v) := by rw [List.getElem?_zip_eq_some]; exact ⟨List.getElem?_eq_getElem hi, hv⟩
  obtain ⟨hI, hIb, hIf⟩ := hf I (.head _)
  obtain ⟨x, p⟩ := jz ht
  have hY : ∀ y ∈ [I], y ∈ X := fun y hy => lS hy ▸ hI
  refine wpAny_pyNext_values_item h1 h3 hz fun h' hit' hs' => ⟨v, rfl, iC ?_⟩
  have q : HX c [I] s.heap h' := .sameBut hs' hIb hIf
  exact ⟨h', s.toks, q, ⟨vs, ep, hit', h2, DictAt.hx q h2 hY hF h3, h4, h5.hx q hF hY⟩, rv.hx q hF hY⟩
 done := fun A s X hh st hf => by
  obtain ⟨vs, ep, h1, h2, h3, h4, h5⟩ := st
  refine wpAny_pyNext_values_end hh h1 h3 (by simp [h4, <- h5.length]) fun h' he' => ⟨h', s.toks, ItS.off hf he'⟩
 self := fun A s X i st => by
  obtain ⟨vs, ep, h1, _⟩ := st
  exact wpAny_pyIter_valiter h1 ⟨rfl, rfl⟩
theorem EvI.Jd (dk : bh c.w K) {o : Expr} {apos pos : Pos} {ks : List K} {ds : List PyData} (hsys : sysModules ∈ c.fr) (hl : ks.length = ds.length) (h : Ev c l X env Γ o (.dict ((ks.map dk.enc).zip ds)))
  (hbase : autoParam (attributeBase o "values" env (eval o env) = eval o env) aR) (hline : autoParam ((apos.endLine == pos.line) = true) aR) : EvI c l X env Γ false (.Call (.Attribute o "values" apos) [] [] pos) ds := fun A s L G => by
 refine qK PySem.F.plainAttrs_dict PySem.F.slot_dict_values PySem.F.type_dict_values (h.use L G fun v s1 p1 r1 G1 => ?_) hbase hline
 obtain ⟨a, vs, ha, hd, q, e⟩ := r1.j6 dk hl
 have hne : (a == sysModules) = false := by
  have : a ≠ sysModules := fun z => ha (z ▸ G1.bas.frs _ hsys)
  simpa using this
 refine ⟨hd.typeIs, fun a' ha' => by cases ha'; exact hd.mapOf.noDict _ rfl, ?_⟩
 refine call_meetsIn PySem.F.slot_dict_values hd.typeIs PySem.F.entry_dict_values (PySem.F.args_dict_values_1 _) (meets_dict_values (dk.knd c.prog) a hne) ⟨⟨_, hd⟩, ?_⟩
 obtain ⟨ep, hd⟩ := hd.dictAt
 have hd1 := hd.push { cls := .type "dict_values", data := .fields #[.ref a] }
 refine wpAny_pyIter_values (v := s1.heap.objs.size) ⟨_, hP _ rfl, rfl, rfl⟩ hd1 ?_
 obtain ⟨o2, es, e2, r2⟩ := id hd
 have q1 : ∀ o1 o2, HX c [] s1.heap ((s1.heap.push o1).push o2) := fun o1 o2 => (HX.push _ _).trans (HX.push _ _)
 refine ⟨p1.trans ⟨_, s1.toks, q1 _ _⟩, _, [_], StV c dk _ a ks ds, Bk hl, ⟨vs, ep, ⟨_, hP _ rfl, rfl, rfl⟩, ?_, hd1.push _, e.symm, ?_⟩, ?_⟩
 ·exact iD (by rw [Heap.size_push]; omega) ha e2
 ·refine (q.wide fun b hb => ?_).hx0 (q1 _ _) fun b hb => lR _ (G1.bas.frs b hb)
  rcases lA hb with z | z
  ·rw [lS z]
   exact .inr (ak (by rw [Heap.size_push]; omega))
  ·exact .inl z
 ·intro b hb
  rw [lS hb]
  exact p1.hx.none_of (fun z => nomatch z) (ak (by show _ <= _; rw [Heap.size_push]; omega))
end
section
variable {E : Err} [DecidableEq κ]
theorem dB {D : cV} (h : (a, D) ∈ L) : cN K.c a D ∈ aj K.c L ++ Δ := lL _ (lM (f := fun p => cN K.c p.1 p.2) h)
theorem Ev.g {x : Str} (hg : Glb c x v) (r : ∀ h, Rd c.w X h v d) (hf : autoParam (env.kindOf x = some .globalImplicit) aR) (hd : autoParam ((x == ("__debug__" : Str)) = false) aK) : Ev c l X env Γ (.Name x pos) d := fun A s L G =>
 wpAny_Name (hg A _ s env _ G.bas.stays G.globals G.builtins G.kind hf ⟨.refl, r _⟩) hd
theorem EvS.sV {f : Str} (h : Fn K.c K.l f [d1] d) (ha : EvS K A s0 E Γ R (aj K.c L ++ Δ) e (opq D)) (hD : (D, .data d1) ∈ L) (hsafe : wz d = true) (hf : autoParam (K.env.kindOf f = some .globalImplicit) aR)
  (hd : autoParam ((f == ("__debug__" : Str)) = false) aK) (he : autoParam (starEach [e] K.env = (false, eval e K.env) :: starEach [] K.env) aR) : EvS K A s0 E Γ R (aj K.c L ++ Δ) (.Call (.Name f np) [e] [] pos) d := fun s X S => by
 obtain ⟨v, g, k, h⟩ := h
 refine wpAny_Call_ofName (wpAny_Name (g A _ s K.env _ S.good.bas.stays S.good.globals S.good.builtins S.good.kind hf ?_) hd)
 show wpAny K.c.M A (callWith pos v [] (backTo pos (starEach [e] K.env)) []) _ _ s
 rw [he]
 refine callWith_of (P := fun h => K.c.base.StaysIn h) rfl k (evalArgs_plain (Calls.spliced_cons (ha.ref S fun s1 S1 => Calls.spliced_nil ⟨S1.good.bas.stays, ?_⟩)))
 have hR := S1.res _ (dB hD)
 have fq := S1.fps _ (dB hD) D (.head _)
 have hF : ∀ a ∈ K.c.fr, a ∈ X.filter (· ≠ D) := fun a ha => bQ (S1.good.bas.frs a ha) fun e => fq.2.2.2 (e ▸ ha)
 have B1 : Bas K.c A (X.filter (· ≠ D)) s1.heap := { S1.good.bas with alloc := fun a ha => S1.good.bas.alloc a (without a ha), frs := hF }
 refine bk (wK (h A (X.filter (· ≠ D)) s1 [.ref D] S1.lev B1 (.cons (bT.rd hR dW without) .nil)) (fun w s2 r => ?_))
 have S2 := S1.pst r.1
 refine ⟨S2, r.2.safe hsafe fun a vs n e ha => bQ ha fun z => ?_⟩
 exact Ay (c := K.c) (p := (D, .data d1)) (S2.res _ (dB hD)) (b := D) (.head _) (z ▸ e)
theorem EvS.Je (dk : bh K.c.w κ) {o e : Expr} {pos : Pos} {D : Addr} {kvs : List (κ × PyData)} {k : κ} {d : PyData} (ho : EvS K A s0 E Γ R (aj K.c L ++ Δ) o (opq D)) (he : EvS K A s0 E Γ R (aj K.c L ++ Δ) e (dk.enc k)) (hD : (D, .data (dD dk.enc kvs)) ∈ L) (hk : cj kvs k = some d)
  (hs : autoParam (∀ o i, subscripted e false o i = operate [o, i] (getItem o i)) aU) :
  EvS K A s0 E Γ R (aj K.c L ++ Δ) (.Subscript o e pos) d := fun s X S => by
 refine Subscript_ (ho.ref S fun s1 S1 => ?_)
 refine he.go S1 fun v s2 S2 r2 => ?_
 obtain ⟨vs, dd, r, _⟩ := S2.dct dk hD
 obtain ⟨u, hz, g⟩ := (jJ (k := k) r).two.2.2 _ hk
 exact tail_any dd.typeIs slot_dict_getitem.lookup (wpAny_getItem_of (dk.dr K.c.prog k _ _ _ r2) dd.mapOf hz ⟨S2.pst .tk, g⟩) (hs _ _)
theorem Ex1.Jf (ho : EvS K A s0 E Γ R (aj K.c L ++ Δ) o (opq D)) (hD : (D, .data (.list ds)) ∈ L) (hz : ds.length <= 10 ^ 6)
  (hline : autoParam ((apos.endLine == cpos.line) = true) aR) (hi : autoParam (interactive K.env = false) aR) (hsw : autoParam (swapsWith (.Call (.Attribute o "clear" apos) [] [] cpos) none pos.line K.env = pure false) aR)
  (hbase : autoParam (attributeBase o "clear" K.env (eval o K.env) = eval o K.env) aR) :
  Ex1 K A s0 E Γ R (aj K.c L ++ Δ) (.Expr (.Call (.Attribute o "clear" apos) [] [] cpos) pos) (bY Γ R (aj K.c (bf L D (.data (.list []))) ++ Δ)) := fun s X S => by
 refine wpAny_Expr ?_ hi hsw
 refine qK PySem.F.plainAttrs_list PySem.F.slot_list_clear PySem.F.type_list_clear (ho.ref S fun s1 S1 => ?_) hbase hline
 obtain ⟨vs, n, e1, r⟩ := S1.lst hD
 refine ⟨⟨_, e1, rfl⟩, fun a ha => ⟨_, (by cases ha; exact e1), rfl⟩, ?_⟩
 have fq := S1.fps _ (dB hD) D (.head _)
 have hT : s1.TypeIs (.ref D) "list" := ⟨_, e1, rfl⟩
 refine call_meets PySem.F.slot_list_clear hT PySem.F.entry_list_clear (PySem.F.args_list_clear_1 _) (AutoSeq1.list_clear_list_0 D vs.toArray n (by rw [List.size_toArray, r.length, sizeLine_eq]; omega)) ⟨e1, ?_⟩
 have hs' : Heap.SameBut D s1.heap (s1.heap.update D (Obj.mapSeq fun _ => #[])) := Heap.SameBut.update ..
 have e' := Heap.get?_update_self (Obj.mapSeq fun _ => #[]) e1 rfl
 have q : HX K.c [D] s1.heap (s1.heap.update D (Obj.mapSeq fun _ => #[])) := .sameBut hs' (S1.base D fq.2.1) fq.2.2.2
 exact ⟨X, _, _, _, rfl, S1.bf (tk := s1.toks) hD (Y := [D]) rfl (fun y hy => lS hy ▸ .head _) q ⟨[], _, e', .nil⟩⟩
end
variable {g : α -> PyData}
noncomputable def jL (c : Cfg) (I D : Addr) (i : Nat) : Res c where
 fp := [I]
 P := fun X h => h.IsListIter I D i
 alive := fun X h e a ha => by
  obtain ⟨o, e, _⟩ := e
  rw [lS ha]; exact ⟨_, e⟩
 keep := fun X h h' Y e x hF hy => x.jA (fun z => (hy _ z).2 (.head _)) e
 wide := fun X X' h e _ => e
section
variable {E : Err} 
theorem Sat.Jg (S : Sat K X Γ R Δ A s0 s) {s' : Shared} (p : Pst K.c s s') {I D : Addr} {i : Nat} (hD : s.heap.get? I = none) (ho : s'.heap.IsListIter I D i) : Sat K (I :: X) Γ R (jL K.c I D i :: Δ) A s0 s' := by
 have fq := S.off hD
 obtain ⟨h', tk, q⟩ := p
 have S' : Sat K (I :: X) Γ R Δ A s0 { s with heap := h', toks := tk } := S.grow (fun a ha => (lC ha).elim (fun e => .inr (e ▸ hD)) .inl) (fun a ha => .tail _ ha) q fun a ha => (lC ha).elim (fun e => e ▸ (let ⟨o, e, _⟩ := ho; ⟨o, e⟩)) fun z => q.alive (fun z => nomatch z) (S.good.bas.alloc a z)
 exact S'.add (jL K.c I D i) ho (fun a ha => by rw [lS ha]; exact ⟨.head _, fq.2.1, fq.2.2.1, fq.2.2.2.1⟩) fun r hr a ha => by rw [lS ha]; exact fq.2.2.2.2 r hr
inductive Li (K : Act) (A : Around) (s0 : Shared) (I D : Addr) (Δ : Del K) (Inv : Nat -> Gam -> Ros -> aP -> Prop) (N n : Nat) (s : Shared) : Prop
 | mk (i : Nat) (X : List Addr) (Γ : Gam) (R : Ros) (L : aP) (hn : n + i = N) (inv : Inv i Γ R L) (S : Sat K X Γ R (jL K.c I D i :: (aj K.c L ++ Δ)) A s0 s)
noncomputable def Lj (Inv : Gam -> Ros -> aP -> Prop) (r : Res K.c) (Δ : Del K) : Out K -> Prop
 | .next Γ R D => ∃ L', D = aj K.c L' ++ r :: Δ /\ Inv Γ R L'
 | .cont Γ R D => ∃ L', D = aj K.c L' ++ r :: Δ /\ Inv Γ R L'
 | _ => False
theorem wL {o : Out K} {Inv : Gam -> Ros -> aP -> Prop} (h : ∃ Γ' R' L', (o = .next Γ' R' (aj K.c L' ++ r :: Δ) \/ o = .cont Γ' R' (aj K.c L' ++ r :: Δ)) /\ Inv Γ' R' L') : Lj Inv r Δ o := by
 obtain ⟨_, _, L', e, h⟩ := h
 exact e.elim (fun e => e ▸ ⟨L', rfl, h⟩) fun e => e ▸ ⟨L', rfl, h⟩
theorem Ex1.forD {x : Str} (Inv : Nat -> Gam -> Ros -> aP -> Prop) (O : Out K -> Prop)
  (hI : EvS K A s0 E Γ R (aj K.c L ++ Δ) iter (opq D)) (hfl : ∀ d ∈ ds, flat d = true) (h0 : Inv 0 Γ' R' L) (hg : ∀ p ∈ Γ', p ∈ Γ) (hr : ∀ p ∈ R', p ∈ R) (hx0 : dg K s0)
  (hoff : ∀ i Γ R L, Inv i Γ R L -> fZ [x] Γ /\ (∀ p ∈ R, p.1 ∉ [x]) /\ (D, .data (.list ds)) ∈ L)
  (hb : ∀ i d Γ R L (r : Res K.c), ds[i]? = some d -> Inv i Γ R L -> Ex K A s0 E ((x, d) :: Γ) R (aj K.c L ++ r :: Δ) body fun o => ∃ Γ' R' L', (o = .next Γ' R' (aj K.c L' ++ r :: Δ) \/ o = .cont Γ' R' (aj K.c L' ++ r :: Δ)) /\ Inv (i + 1) Γ' R' L')
  (hend : ∀ Γ R L, Inv ds.length Γ R L -> O (.next Γ R (aj K.c L ++ Δ)))
  (hsub : autoParam (subB [x] K.xs = true) aK) (hdb : autoParam ((x == ("__debug__" : Str)) = false) aK) (hfold : autoParam (∀ x, foldedSetIterable iter K.env x = pure x) aI) (hE : autoParam (PassesOwn K.c.M A K.env E) aE) :
  Ex1 K A s0 E Γ R (aj K.c L ++ Δ) (.For (.Name x p) iter body [] pos) O := fun s X S => by
 refine wpAny_For (hI.ref S fun s1 S1 => ?_) hfold
 obtain ⟨vs1, n1, e1, q1⟩ := S1.lst (hoff _ _ _ _ h0).2.2
 refine wpAny_pyIter_list ⟨_, e1, rfl, _, rfl⟩ ?_
 have hIn : s1.heap.get? s1.heap.objs.size = none := ak (Nat.le_refl _)
 have S2 : Sat K (s1.heap.objs.size :: X) Γ R (jL K.c s1.heap.objs.size D 0 :: (aj K.c L ++ Δ)) A s0 { s1 with heap := s1.heap.push { cls := .type "list_iterator", data := .fields #[.ref D, .int 0 0] } } := S1.Jg .fH hIn ⟨_, hP _ rfl, rfl, rfl⟩
 generalize s1.heap.objs.size = I at S2
 refine Ab rfl (fun n s' => Li K A s0 I D Δ Inv ds.length n s') (fun n s' Q hI' hn hd' hc => ?_) ds.length ⟨0, _, Γ', R', L, rfl, h0, S2.weak hg hr (List.Sublist.refl _)⟩
 obtain ⟨i, X4, Γ4, R4, L4, hni, inv, S4⟩ := hI'
 show wpAny K.c.M A ((forTurn (.Name x p) (.ref I) body [] K.env).onRaise (fun x => do noteFrame x K.env; theTreesLotGoes x)) _ _ s'
 refine wpAny_noted ?_
 simp only [forTurn]
 have hf4 := S4.fps _ (.head _) I (.head _)
 obtain ⟨o1, o2, o3⟩ := hoff _ _ _ _ inv
 have st4 : s'.heap.IsListIter I D i := S4.res _ (.head _)
 have S4' : Sat K X4 Γ4 R4 (aj K.c L4 ++ jL K.c I D i :: Δ) A s0 s' := S4.perm cY
 obtain ⟨vs, n4, e4, q4⟩ := S4'.lst o3
 have hL : s'.heap.IsList D vs.toArray := ⟨_, e4, rfl, _, rfl⟩
 refine wB (wpAny_standAt (wB (wpAny_onRaise ?_)))
 cases hd : ds[i]? with
 | none =>
  have hi : i = ds.length := by
   have := List.getElem?_eq_none_iff.mp hd
   omega
  subst hi
  refine wpAny_pyNext_list_end S4.good.bas.handled st4 hL (by simp [q4.length]) fun h' he' => ?_
  refine wP (hc _ _ rfl (codeAny_block (wpAny_execs_nil ⟨_, _, _, _, hend _ _ _ inv, S4.drop (tk := s'.toks) hx0 (.of_keep (fun b o hb e => he' b o (fun z => hb (z ▸ .head _)) e) (fun y hy => ?_) fun y hy => ?_)⟩)))
  ·rw [lS hy]; exact S4.base I hf4.2.1
  ·rw [lS hy]; exact hf4.2.2.2
 | some d =>
  have hi : i < ds.length := by
   cases Nat.lt_or_ge i ds.length with
   | inl h => exact h
   | inr h => rw [List.getElem?_eq_none h] at hd; cases hd
  have hdm : d ∈ ds := lG hd
  obtain ⟨v, hv, rv⟩ := q4.get _ hd
  refine wpAny_pyNext_list_item st4 hL (x := v) (by simpa using hv) fun h' hit' hs' => ?_
  dsimp only
  refine wB (iC ?_)
  have q : HX K.c [I] s'.heap h' := .sameBut hs' (S4.base I hf4.2.1) hf4.2.2.2
  have S5 : Sat K X4 Γ4 R4 (jL K.c I D (i + 1) :: (aj K.c L4 ++ Δ)) A s0 { s' with heap := h' } := S4.change (r := jL K.c I D i) (r' := jL K.c I D (i + 1)) (tk := s'.toks) rfl q hit'
  refine wB (wK (S5.bind (pair := false) (.name hdb) (rv.flat (hfl d hdm)) (uU hsub) o1 o2) (fun _ s3 S6 => ?_))
  refine wB (wK (wpAny_passesOwn hE (hb i d _ _ _ _ hd inv s3 X4 (S6.perm cY))) (fun f s4 hp => ?_))
  have next : ∀ {X Γ R L s}, Inv (i + 1) Γ R L -> Sat K X Γ R (aj K.c L ++ jL K.c I D (i + 1) :: Δ) A s0 s -> Q (.again _) s := fun h S => hn (n - 1) _ (by omega) ⟨i + 1, _, _, _, _, by omega, h, S.perm cY.symm⟩
  cases f with
  | next =>
   obtain ⟨X, Γ, R, Δ, o, S'⟩ := hp
   obtain ⟨L', rfl, inv'⟩ := wL o
   exact wP (next inv' S')
  | cont =>
   obtain ⟨X, Γ, R, Δ, o, S'⟩ := hp
   obtain ⟨L', rfl, inv'⟩ := wL o
   exact wP (next inv' S')
  | brk =>
   obtain ⟨X, Γ, R, Δ, o, S'⟩ := hp
   exact (wL o).elim
  | ret v =>
   obtain ⟨d, o, S'⟩ := hp
   exact (wL o).elim
end
section
variable [DecidableEq κ]
noncomputable def npP (v : Int) (n : PN κ) : PN κ := (n.1, v, n.2.2)
noncomputable def fL (ks : List κ) (ns : List (PN κ)) : List (PN κ) := ks.foldl (fun ns k => upP ns k (npP (-1))) ns
noncomputable def jt (ns : List (PN κ)) (k : κ) : Int := ((ns.find? fun n => n.1 = k).map (·.2.1)).getD 0
noncomputable def d9 (ns : List (PN κ)) (k : κ) : List κ := ((ns.find? fun n => n.1 = k).map (·.2.2)).getD []
noncomputable def kJ (sr : List (PN κ) × List κ) (s : κ) : List (PN κ) × List κ := (upP sr.1 s (npP (jt sr.1 s - 1)), if jt sr.1 s - 1 = 0 then sr.2 ++ [s] else sr.2)
noncomputable def qX (sr : List (PN κ) × List κ) (k : κ) : List (PN κ) × List κ := (d9 sr.1 k).foldl kJ (upP sr.1 k (npP (-2)), sr.2)
noncomputable def eZ (ks : List κ) (sr : List (PN κ) × List κ) : List (PN κ) × List κ := ks.foldl qX sr
theorem mG {ns : List (PN κ)} (hn : (ns.map (·.1)).Nodup) {n : PN κ} (h : n ∈ ns) : ns.find? (fun m => m.1 = n.1) = some n := by
 cases e : ns.find? fun m => m.1 = n.1 with
 | none =>
  have := List.find?_eq_none.mp e n h
  simp at this
 | some m =>
  have h1 := List.mem_of_find?_eq_some e
  have h2 := List.find?_some e
  simp at h2
  rw [vh hn m h1 n h h2]
theorem qY {st : St κ} {n : Nd κ} (h : n ∈ st.nds) : (n.k, n.np, n.su) ∈ st.abs := lM (f := fun n : Nd κ => (n.k, n.np, n.su)) h
theorem wN {st : St κ} (hn : st.keys.Nodup) {n : Nd κ} (h : n ∈ st.nds) : jt st.abs n.k = n.np := by
 unfold jt
 rw [mG (n := (n.k, n.np, n.su)) (by rw [dz]; exact hn) (qY h)]
 rfl
theorem FT {st : St κ} (hn : st.keys.Nodup) {n : Nd κ} (h : n ∈ st.nds) : d9 st.abs n.k = n.su := by
 unfold d9
 rw [mG (n := (n.k, n.np, n.su)) (by rw [dz]; exact hn) (qY h)]
 rfl
noncomputable def St.shp (st : St κ) : List (κ × Addr × Addr × List κ) := st.nds.map fun n => (n.k, n.x, n.li, n.su)
theorem mH {st : St κ} {v : Int} : (Srt.upK st k fun m => { m with np := v }).shp = st.shp := Srt.gA (g := fun m => { m with np := v }) (fun n => (n.k, n.x, n.li, n.su)) fun _ => rfl
inductive Lk (L : List (Nd κ)) (n : Nd κ) : Prop
 | mk (m : Nd κ) (hm : m ∈ L) (k : m.k = n.k) (x : m.x = n.x) (li : m.li = n.li) (su : m.su = n.su) : Lk L n
theorem qZ {st st' : St κ} (h : st'.shp = st.shp) {n : Nd κ} (hn : n ∈ st.nds) : Lk st'.nds n := by
 have := lM (f := fun n : Nd κ => (n.k, n.x, n.li, n.su)) hn
 unfold St.shp at h
 rw [<- h] at this
 obtain ⟨m, hm, e⟩ := List.mem_map.mp this
 simp only [Prod.mk.injEq] at e
 exact ⟨m, hm, e.1, e.2.1, e.2.2.1, e.2.2.2⟩
theorem sX {st st' : St κ} (h : st'.shp = st.shp) : st'.keys = st.keys := by
 have := congrArg (List.map (fun p : κ × Addr × Addr × List κ => p.1)) h
 unfold St.shp at this
 rw [List.map_map, List.map_map] at this
 exact this
end
theorem yS {ks : List PyData} (hk : KeysAre w es (.none :: ks)) : False := by
 cases hk with | cons q _ => exact q.elim
theorem yU {C' : Addr} {ns ns' : List Str} {is' : List Nat} {ks ks' ds' : List PyData} (e : mL C ns is ks ds = mL C' ns' is' ks' ds') : C = C' /\ ns = ns' /\ is = is' /\ ks = ks' /\ ds = ds' := by
 have e := List.cons.inj (PyData.list.inj (Prod.mk.inj (List.cons.inj (PyData.dict.inj e)).1).2)
 have e2 := List.cons.inj e.2
 have e3 := List.cons.inj e2.2
 have e4 := List.cons.inj e3.2
 have e5 := List.cons.inj e4.2
 exact ⟨Int.ofNat.inj (PyData.int.inj e.1), (List.map_inj_right fun _ _ e => PyData.str.inj e).mp (PyData.list.inj e2.1), (List.map_inj_right fun _ _ e => Int.ofNat.inj (PyData.int.inj e)).mp (PyData.list.inj e3.1), PyData.list.inj e4.1, PyData.list.inj e5.1⟩
inductive Lp (w : World) (X : List Addr) (h : Heap) (C : Addr) (ns : List Str) (is : List Nat) (ks ds : List PyData) : Value -> Prop
 | mk (a dx : Addr) (sl : Array (Option Value)) (es : List DictEntry) (n : Nat) (us ws : List Value) (e1 : h.get? a = some (mO C dx sl)) (e2 : h.get? dx = some (dictOf es n)) (k1 : ∀ p ∈ ns.zip us, getL p.1 es = some (some p.2)) (k2 : ∀ p ∈ is.zip ws, (sl[p.1]?).join = some p.2) (q1 : RdL w X h us ks) (q2 : RdL w X h ws ds) : Lp w X h C ns is ks ds (.ref a)
theorem wO {ns : List Str} {ks : List PyData} (r : Rd w X h v (mL C ns is ks ds)) : Lp w X h C ns is ks ds v := by
 have hz : RdD w X h _ v := r.inv
 cases hz with
 | dict _ _ _ _ _ k => exact (yS k).elim
 | opq b e => exact nomatch (Prod.mk.inj (List.cons.inj e).1).2
 | tys e => exact nomatch (Prod.mk.inj (List.cons.inj e).1).2
 | inst a C' dx sl es n us ws ks' ds' ns' is' e ha hx e1 e2 k q1 q2 =>
  obtain ⟨rfl, rfl, rfl, rfl, rfl⟩ := yU (congrArg PyData.dict e)
  exact ⟨a, dx, sl, es, n, us, ws, e1, e2, k.1, k.2, q1, q2⟩
theorem zip_get {as : List α} {bs : List β} {a : α} {b : β} (h1 : as[i]? = some a) (h2 : bs[i]? = some b) : (a, b) ∈ as.zip bs := lG (List.getElem?_zip_eq_some.mpr ⟨h1, h2⟩)
theorem Ev.Lq {name : Str} {ns : List Str} {ks : List PyData} (j : Nat) (hF : F.In c.base) (h : Ev c l X env Γ e (mL C ns is ks ds)) (hj : ns[j]? = some name) (hd : ks[j]? = some d) (hk : okA F C name = true)
  (hn : autoParam (m8 env e name pos) aU) : Ev c l X env Γ (.Attribute e name pos) d := fun A s L G =>
 Attribute_any_ (h.use L G fun v s1 p1 r1 G1 => by
  have hz := wO r1; clear r1; obtain ⟨a, dx, sl, es, n, us, ws, e1, e2, k1, k2, q1, q2⟩ := hz
  obtain ⟨v, hv, r⟩ := q1.get j hd
  obtain ⟨o1, o2, o3, o4, o5, o6⟩ := qO hk
  have hX : F.In s1.heap := fun a o e => G1.bas.inBase (hF a o e)
  exact KN hX (fC e1 e2) o1 o2 o3 rfl (k1 _ (zip_get hj hv)) (iM r) ⟨p1.trans .tk, r⟩) hn
theorem Ev.Jh {name : Str} {p : Addr} {ns : List Str} {ks : List PyData} (j : Nat) (hF : F.In c.base) (h : Ev c l X env Γ e (mL C ns is ks ds)) (hj : is[j]? = some i) (hd : ds[j]? = some d) (hk : qN F C name p i = true)
  (hn : autoParam (m8 env e name pos) aU) : Ev c l X env Γ (.Attribute e name pos) d := fun A s L G =>
 Attribute_any_ (h.use L G fun v s1 p1 r1 G1 => by
  have hz := wO r1; clear r1; obtain ⟨a, dx, sl, es, n, us, ws, e1, e2, k1, k2, q1, q2⟩ := hz
  obtain ⟨v, hv, r⟩ := q2.get j hd
  obtain ⟨o1, o2, o3, o4, o5, o6, o7, o8, o9, o10, o11⟩ := mZ hk
  have hX : F.In s1.heap := fun a o e => G1.bas.inBase (hF a o e)
  exact KQ hX (fC e1 e2) o1 o2 o3 o4 o5 o6 (k2 _ (zip_get hj hv)) (iM r) ⟨p1.trans .tk, r⟩) hn
theorem Ev.Lr [DecidableEq κ] (dk : bh c.w κ) {o e : Expr} {pos : Pos} {kvs : List (κ × PyData)} {k : κ} {d : PyData} (ho : Ev c l X env Γ o (dD dk.enc kvs)) (he : Ev c l X env Γ e (dk.enc k)) (hk : cj kvs k = some d)
  (hs : autoParam (∀ o i, subscripted e false o i = operate [o, i] (getItem o i)) aU) : Ev c l X env Γ (.Subscript o e pos) d := fun A s L G =>
 Subscript_ (ho.use L G fun v s1 p1 r1 G1 => he.use L G1 fun u s2 p2 r2 G2 => by
  have r1' := r1.hx0 p2.hx G.bas.frs
  rw [pU] at r1'
  obtain ⟨a, vs, ha, dd, r, e⟩ := r1'.j6 dk (by simp)
  obtain ⟨v, hz, g⟩ := (jJ (k := k) r).two.2.2 _ hk
  exact tail_any dd.typeIs slot_dict_getitem.lookup (wpAny_getItem_of (dk.dr c.prog k _ _ _ r2) dd.mapOf hz ⟨(p1.trans p2).trans .tk, g⟩) (hs _ _))
theorem Ji {ps : List Str} (F : FnAt c a fd body) (hok : fG fd.scope ps = true) (hlen : ps.length = ds.length) (hl : l < 60) (hbind : ∀ vs : List Value, vs.length = ps.length -> bindArgs fd ⟨vs, []⟩ = pure (ps.zip vs))
  (h : ∀ (A : Around) (s0 : Shared) (L : Addr) (X : List Addr), dg (cQ c l fd L a X) s0 -> (∃ outer, A.frames = some ((cQ c l fd L a X).env :: outer)) -> Ex (cQ c l fd L a X) A s0 NoE (ps.zip ds) [] [] body fun o => o = .ret d \/ (d = .none /\ ∃ Γ R Δ, o = .next Γ R Δ)) :
  ∀ A X s vs, Lev l A -> Bas c A X s.heap -> RdL c.w X s.heap vs ds -> codeAny c.M A (.call (.ref a) ⟨vs, []⟩) (yG (Yield c X s d)) s := fun A X s vs LA B r => by
 have hvl : vs.length = ps.length := by rw [r.length, hlen]
 refine Aw (args := ⟨vs, []⟩) F hok LA B ?_
 rw [hbind vs hvl]
 refine wP ⟨.refl, vs, rfl, hvl, fun s2 x => ?_⟩
 have S := enter F hok hlen hl LA B r x
 refine wK (h _ s s.heap.objs.size X B.alloc (let ⟨o, b, _⟩ := B.below; ⟨o, Around.frames_deeper b.stack⟩) s2 _ S) (fun f s' hp => ?_)
 exact mW (ak (Nat.le_refl _)) hp
theorem fO : ∀ a ∈ X.filter (· ∉ fp), a ∈ X /\ a ∉ fp := fun a ha => ⟨(List.mem_filter.mp ha).1, by simpa using (List.mem_filter.mp ha).2⟩
theorem FnA.ofC {f : Addr} {d0 r : PyData} (hr : flat r = true) (hc : ∀ A X s vs, Lev l A -> Bas c A X s.heap -> RdL c.w X s.heap vs [d0] -> codeAny c.M A (.call (.ref f) ⟨vs, []⟩) (yG (Yield c X s r)) s)
  (hv : ∀ X h, (∀ a ∈ c.fr, a ∈ X) -> pP c X h L -> Rd c.w (X.filter (· ∉ fpA L)) h (.ref S) d0) : FnA c l f [opq S] L (fun d L' => d = r /\ L' = L) := fun A X s vs LA B r1 Ln => by
 have hz := r1.bO; clear r1; obtain ⟨_, r1⟩ := hz
 rw [gn r1]
 have hF : ∀ a ∈ c.fr, a ∈ X.filter (· ∉ fpA L) := fun a ha => List.mem_filter.mpr ⟨B.frs a ha, by simpa using fun z => (Ln.off a z).2.2 ha⟩
 have B1 : Bas c A (X.filter (· ∉ fpA L)) s.heap := ⟨B.handled, B.below, fun a ha => B.alloc a (fO a ha).1, hF⟩
 refine codeAny_mono (hc A _ s [.ref S] LA B1 (.cons (hv X s.heap B.frs Ln) .nil)) fun res s' hres => ?_
 rcases res with e | fl
 ·exact hres.elim
 ·cases fl with
  | ret v =>
   obtain ⟨⟨h', tk, q⟩, rv⟩ := hres
   have hsub : ∀ a ∈ fpA L ++ X, a ∈ X := fun a ha => (lA ha).elim (fun z => (Ln.off a z).1) id
   refine ⟨h', tk, r, L, rfl, ⟨rfl, rfl⟩, q.mono (fun _ z => nomatch z), fun rr hrr => ?_, fun a ha => .inl ha, fun a ha => ha, Ln.apart, rv.flat hr⟩
   have h1 := Ln.at_ rr hrr
   have hoff : ∀ a ∈ c.fr, a ∈ X /\ a ∉ rr.fp := fun a ha => ⟨B.frs a ha, fun z => (Ln.off a (dj.mpr ⟨rr, hrr, z⟩)).2.2 ha⟩
   exact rr.wide _ _ _ (rr.keep _ _ _ [] h1 q hoff (fun _ z => nomatch z)) fun a ha => .inl (hsub a ha)
  | _ => exact hres.elim
namespace LI
theorem sY : typeLookup (.type "list_iterator") "__next__" = pure (some (.builtin "list_iterator.__next__")) := by rw [typeLookup_type, builtinLookup_eq_fast]; kernel_rfl
theorem pY : typeOf (.builtin "list_iterator.__next__") = pure (.type "wrapper_descriptor") := by show builtinType _ = _; rw [builtinType_eq_fast]; kernel_rfl
theorem slot_get : Slot "wrapper_descriptor" "__get__" "wrapper_descriptor.__get__" :=
 .of (owner := "wrapper_descriptor") (n := "__get__") (by rw [typeLookup_type, builtinLookup_eq_fast]; kernel_rfl) (by decide +kernel) (by decide +kernel) (by decide +kernel)
  (by first | exact .inl (by decide +kernel) | exact .inr (by decide +kernel)) (by rw [isSubtype_type]; kernel_rfl)
theorem entry_get : entryFor table "wrapper_descriptor.__get__" = some Builtin.«wrapper_descriptor.__get__» := entryFor_of_tree (by kernel_rfl)
theorem args_get (a b c : Value) : argsOk "wrapper_descriptor.__get__" ⟨[a, b, c], []⟩ := by unfold argsOk; kernel_rfl
theorem vm : typeLookup (.type "wrapper_descriptor") "__set__" = pure none := by rw [typeLookup_type, builtinLookup_eq_fast]; kernel_rfl
theorem oR : typeLookup (.type "wrapper_descriptor") "__delete__" = pure none := by rw [typeLookup_type, builtinLookup_eq_fast]; kernel_rfl
end LI
theorem ni : (kfb_private% "ownerAndName") "list_iterator.__next__" = ("list_iterator", "__next__") := by first | decide +kernel | kernel_rfl
theorem Jj : isSubtype (.type "list_iterator") (.type "list_iterator") = pure true := by rw [isSubtype_type]; kernel_rfl
theorem q8 : Slot "list_iterator" "__getattribute__" "object.__getattribute__" :=
 .of (owner := "object") (n := "__getattribute__") (by rw [typeLookup_type, builtinLookup_eq_fast]; kernel_rfl) (by decide +kernel) (by decide +kernel) (by decide +kernel)
  (by first | exact .inl (by decide +kernel) | exact .inr (by decide +kernel)) (by rw [isSubtype_type]; kernel_rfl)
theorem Bm : typeLookup (.type "list_iterator") "__getattr__" = pure none := by rw [typeLookup_type, builtinLookup_eq_fast]; kernel_rfl
noncomputable abbrev liO (D : Addr) (i : Int) : Obj := { cls := .type "list_iterator", data := .fields #[.ref D, .int i 0] }
noncomputable abbrev mwO (I : Addr) : Obj := { cls := .type "method-wrapper", data := .fields #[.builtin "list_iterator.__next__", .ref I] }
theorem yV {P : Fin -> Shared -> Prop} {i : Int} (e : s.heap.get? I = some (liO D i)) (h : P (.done (.ret (.ref s.heap.objs.size))) { s with heap := s.heap.push (mwO I) }) :
  wpAny (model prog w) A (Builtin.«wrapper_descriptor.__get__» ⟨[.builtin "list_iterator.__next__", .ref I, .type "list_iterator"], []⟩) P E s := by
  have hT : s.TypeIs (.ref I) "list_iterator" := ⟨_, e, rfl⟩
  unfold Builtin.«wrapper_descriptor.__get__»
  refine wB (wpAny_of_eq (a := (.builtin "list_iterator.__next__", some (.ref I), some (.type "list_iterator"))) (by first | rfl | kernel_rfl) ?_)
  have f1 := Jj
  have f2 := ni
  show wpAny _ _ ((kfb_private% "checkInstance") (.builtin "list_iterator.__next__") (.ref I) >>= fun _ => newFields "method-wrapper" [.builtin "list_iterator.__next__", .ref I] >>= fun v => ret v) _ _ _
  refine wB ?_
  have e1 : (kfb_private% "nameAndClass") (.builtin "list_iterator.__next__") = pure ((Str.ofString "__next__" : Str), Value.type "list_iterator") := by
   first
    | (show (match (kfb_private% "ownerAndName") "list_iterator.__next__" with | (owner, name) => pure ((Str.ofString name : Str), Value.type owner)) = _; rw [ni])
    | rfl
  show wpAny _ _ ((kfb_private% "nameAndClass") (.builtin "list_iterator.__next__") >>= _) _ _ _
  rw [e1]
  refine wB (wP ?_)
  show wpAny _ _ (isInstance (.ref I) (.type "list_iterator") >>= _) _ _ _
  refine wB (wpAny_isInstance hT f1 ?_)
  refine wP ?_
  refine wB ?_
  exact wpAny_newObj_type (wP h)
theorem Bo (I D : Addr) (i : Int) (u : Tok) : Meets (Builtin.«object.__getattribute__» ⟨[.ref I, .str "__next__" u], []⟩) (fun A R s => s.heap.get? I = some (liO D i) /\ R (.ok (.ret (.ref s.heap.objs.size))) { s with heap := s.heap.push (mwO I) }) :=
 Meets.of_wp fun prog w A R s hs => by
  obtain ⟨hp, g, d, tk, os⟩ := s
  obtain ⟨e, h⟩ := hs
  have hT : Shared.TypeIs ⟨hp, g, d, tk, os⟩ (.ref I) "list_iterator" := ⟨_, e, rfl⟩
  have f1 := LI.sY
  have f2 := LI.pY
  have f3 := LI.slot_get.lookup
  have f4 := LI.vm
  have f5 := LI.oR
  unfold Builtin.«object.__getattribute__»
  repeat (any_goals (first | assumption | wp_step))
  refine codeAny_call_builtin LI.slot_get.plain LI.entry_get (LI.slot_get.check _ _ _ _ _ _ _ _ (show Shared.TypeIs _ (.builtin "list_iterator.__next__") "wrapper_descriptor" from LI.pY) (LI.args_get _ _ _) ?_)
  refine yV e ?_
  exact wP ⟨_, rfl, h⟩
theorem q9 {i : Int} (e : s.heap.get? I = some (liO D i))
  (h : Q (.ref s.heap.objs.size) { s with heap := s.heap.push (mwO I), toks := s.toks + 1 }) : wpAny (model prog w) A (getAttr (.ref I) "__next__" true) Q E s := by
 obtain ⟨hp, g, d, tk, os⟩ := s
 have hT : ∀ tk, Shared.TypeIs ⟨hp, g, d, tk, os⟩ (.ref I) "list_iterator" := fun _ => ⟨_, e, rfl⟩
 have f3 := q8.lookup
 have f4 := q8.bind (.ref I)
 have f5 := Bm
 unfold getAttr getAttrBy
 repeat (any_goals (first | assumption | exact hT _ | ((with_reducible show wpAny _ _ (call (Value.builtin "object.__getattribute__") _ _) _ _ _); refine call_meets q8 (hT _) PySem.F.entry_object_getattribute (PySem.F.args_object_getattribute_2 _ _) (Bo I D i _) ⟨e, ?_⟩) | wp_step))
 all_goals exact handed_on rfl h
theorem nj {l : Addr} (hl : s.heap.IsList l items)
  (h : Q (.ref s.heap.objs.size) { s with heap := s.heap.push (liO l 0) }) : wpAny (model prog w) A (call (.builtin "iter") [.ref l]) Q E s := by
 refine call_function_entry (by decide +kernel) (by decide +kernel) kdk_entry_iter (kdk_args_iter _) ?_
 unfold Builtin.«iter»
 refine wB (m := someArgs "iter" 1 2 _) (wpAny_of_eq (a := [Value.ref l]) (by first | rfl | kernel_rfl) ?_)
 show wpAny _ _ (pyIter (.ref l) >>= _) _ _ _
 refine wB (wpAny_pyIter_list hl ?_)
 exact wP ⟨_, rfl, h⟩
theorem vo (I : Addr) : checkBoundCall "list_iterator.__next__" ⟨[.ref I], []⟩ = pure () := by first | kernel_rfl | rfl
theorem vp {as : Args} : (Code.builtin "list_iterator.__next__" as).quiet = true := Code.quiet_builtin _ (by decide +kernel)
theorem lO {m : Addr} (ho : s.heap.get? m = some (mwO I)) (h : wpAny (model prog w) A (call (.ref m) []) Q E s) : wpAny (model prog w) A (callWith pos (.ref m) [] [] []) Q E s := by
 refine callWith_of (P := fun h => h.get? m = some (mwO I)) rfl (fun h hP => ?_) (PySem.evalArgs_none ⟨ho, h⟩)
 refine ⟨.machine, .inr (.inl rfl), (Looks.ld (part := none) hP).andThen ?_⟩
 exact .now
theorem wQ {m : Addr} (ho : s.heap.get? m = some (mwO I))
  (h : codeAny (model prog w) A (.builtin "list_iterator.__next__" ⟨[.ref I], []⟩) (fun r s' => match r with | .ok (.ret v) => Q v s' | .ok _ => False | .error e => E e s') s) : wpAny (model prog w) A (call (.ref m) []) Q E s := by
 refine wpAny_call (codeAny_of_tree ?_)
 show wpAny _ A.in1 (callAny (.ref m) ⟨[], []⟩) _ _ s
 show wpAny _ _ (load m >>= _) _ _ s
 refine wB (wpAny_load ho ?_)
 refine KFB.if_so (c := Value.type "method-wrapper" == Value.type "method" || Value.type "method-wrapper" == Value.type "builtin_function_or_method" || Value.type "method-wrapper" == Value.type "method-wrapper") (by decide) ?_
 refine KFB.if_so (c := Value.type "method-wrapper" != Value.type "method") (by decide) ?_
 refine wB (wpAny_of_eq (a := ()) (vo I) ?_)
 exact wB (wP (wP ⟨vp, h⟩))
theorem FW {m l : Addr} {x : Value} (ho : s.heap.get? m = some (mwO I)) (hit : s.heap.IsListIter I l i) (hl : s.heap.IsList l items) (hx : items[i]? = some x)
  (hQ : ∀ h', h'.IsListIter I l (i + 1) -> Heap.SameBut I s.heap h' -> Q x { s with heap := h' }) : wpAny (model prog w) A (call (.ref m) []) Q E s := by
 obtain ⟨o, hio, hc, hd⟩ := id hit
 obtain ⟨ol, hol, _, nl, hdl⟩ := hl
 refine wQ ho (codeAny_builtin entry_listiter_next ?_)
 show wpAny _ _ (field (.ref I) 0 >>= _) _ _ s
 refine wB (wpAny_field hio hd (x := .ref l) rfl ?_)
 show wpAny _ _ (if (Value.ref l == Value.none) = true then _ else _) _ _ s
 rw [if_neg (show ¬ ((Value.ref l == Value.none) = true) from Bool.false_ne_true)]
 show wpAny _ _ (field (.ref I) 1 >>= _) _ _ s
 refine wB (wpAny_field hio hd (x := .int i 0) rfl ?_)
 show wpAny _ _ (seqItems? (.ref l) >>= _) _ _ s
 refine wB (wpAny_seqItems hol hdl ?_)
 simp only [Int.toNat_natCast, hx]
 refine wB (wpAny_setField hio hd (by simp) (wP (hQ _ ?_ (Heap.SameBut.update ..))))
 exact ⟨_, Heap.get?_update_self _ hio (Obj.isFreed_of_fields (Obj.data_mapFields hd _)), (Obj.cls_mapFields ..).trans hc, by
  rw [Obj.data_mapFields hd]; simp [rawInt]⟩
theorem Jk {m l : Addr} (hh : A.handled = none) (ho : s.heap.get? m = some (mwO I)) (hit : s.heap.IsListIter I l i) (hl : s.heap.IsList l items) (hx : items[i]? = none)
  (hQ : ∀ h1 h' e, Heap.SameBut I s.heap h1 -> (∀ b o, h1.get? b = some o -> h'.get? b = some o) -> h1.get? e = none -> (∃ ob vs t, h'.get? e = some ob /\ ob.cls = .type "StopIteration" /\ ob.data = .fields vs /\ vs[0]? = some t /\ vs[1]? = some Value.none) -> E (.ref e) { s with heap := h' }) : wpAny (model prog w) A (call (.ref m) []) Q E s := by
 obtain ⟨o, hio, hc, hd⟩ := id hit
 obtain ⟨ol, hol, _, nl, hdl⟩ := hl
 refine wQ ho (codeAny_builtin entry_listiter_next ?_)
 show wpAny _ _ (field (.ref I) 0 >>= _) _ _ s
 refine wB (wpAny_field hio hd (x := .ref l) rfl ?_)
 show wpAny _ _ (if (Value.ref l == Value.none) = true then _ else _) _ _ s
 rw [if_neg (show ¬ ((Value.ref l == Value.none) = true) from Bool.false_ne_true)]
 show wpAny _ _ (field (.ref I) 1 >>= _) _ _ s
 refine wB (wpAny_field hio hd (x := .int i 0) rfl ?_)
 show wpAny _ _ (seqItems? (.ref l) >>= _) _ _ s
 refine wB (wpAny_seqItems hol hdl ?_)
 simp only [Int.toNat_natCast, hx]
 refine wB (wpAny_rule (wB (wpAny_setField hio hd (by simp) ?_)))
 show wpAny _ _ (newExc (.type "StopIteration") [] >>= _) _ _ _
 refine wB ?_
 show wpAny _ _ (newObj (.type "tuple") (.seq (List.toArray [])) >>= _) _ _ _
 refine wB (wpAny_newObj_type ?_ (by size_fits))
 refine wB (m := firstArgMember _ _) (wpAny_of_eq (a := Value.none) (by first | rfl | (simp only [firstArgMember]; rfl)) ?_)
 refine wpAny_newObj_type ?_ (by size_fits)
 show wpAny _ _ (handled >>= _) _ _ _
 refine wB (wpAny_handled ?_)
 rw [show (A.under (Code.builtin "list_iterator.__next__" ⟨[.ref I], []⟩)).handled = none from hh]
 refine wB (wP (wpAny_throw ?_))
 refine hQ (s.heap.update I (Obj.mapFields fun x => x.setIfInBounds 0 Value.none)) _ _ (Heap.SameBut.update ..) (fun b o hb => ?_) ?_ ?_
 ·exact Heap.get?_push_of_some _ (Heap.get?_push_of_some _ hb)
 ·exact Heap.get?_none_of_le (by simp)
 ·exact ⟨_, _, _, hP _ rfl, rfl, rfl, by rfl, by rfl⟩
section
variable [DecidableEq κ]
noncomputable def cD (c : Cfg) (dk : bh c.w κ) (D : Addr) (ks : List κ) : Res c where
 fp := [D]
 P := fun X h => h.SetOf (dk.knd c.prog) D (fun k => decide (k ∈ ks)) ks.length
 alive := fun X h e a ha => by
  obtain ⟨o, es, ep, t, e, _⟩ := e
  rw [lS ha]; exact ⟨_, e⟩
 keep := fun X h h' Y e x hF hy => by
  obtain ⟨o, es, ep, t, e, r⟩ := e
  exact ⟨o, es, ep, t, x.exact (fun z => (hy _ z).2 (.head _)) (fun z => (hF _ z).2 (.head _)) e, r⟩
 wide := fun X X' h e _ => e
noncomputable def fP (c : Cfg) (m I : Addr) (ds : List PyData) (i : Nat) : Res c where
 fp := [m, I]
 P := fun X h => h.get? m = some (mwO I) /\ ∃ ax, StL c I ax ds X i h
 alive := fun X h e a ha => by
  obtain ⟨e1, ax, ⟨o, e2, _⟩, _⟩ := e
  rcases lC ha with rfl | ha
  ·exact ⟨_, e1⟩
  ·rw [lS ha]; exact ⟨_, e2⟩
 keep := fun X h h' Y e x hF hy => by
  obtain ⟨e1, ax, st⟩ := e
  refine ⟨x.exact (fun z => (hy _ z).2 (.head _)) (fun z => (hF _ z).2 (.head _)) e1, ax, st.keep x (fun a ha => ⟨(hF a ha).1, fun z => (hF a ha).2 (.tail _ z)⟩) fun y hy' => ⟨(hy y hy').1, fun z => (hy y hy').2 (.tail _ z)⟩⟩
 wide := fun X X' h e hy => let ⟨e1, ax, st⟩ := e; ⟨e1, ax, st.wide hy⟩
end
section
variable {E : Err} [DecidableEq κ]
theorem Sat.Ia (S : Sat K X Γ R Δ A s0 s) {s' : Shared} (p : Pst K.c s s') (r : Res K.c) (hD : ∀ a ∈ r.fp, s.heap.get? a = none) (ho : r.P (r.fp ++ X) s'.heap) : Sat K (r.fp ++ X) Γ R (r :: Δ) A s0 s' := by
 obtain ⟨h', tk, q⟩ := p
 have S' : Sat K (r.fp ++ X) Γ R Δ A s0 { s with heap := h', toks := tk } := S.grow (fun a ha => (lA ha).elim (fun e => .inr (hD a e)) .inl) (fun a ha => lR _ ha) q fun a ha => (lA ha).elim (r.alive _ _ ho a) fun z => q.alive (fun z => nomatch z) (S.good.bas.alloc a z)
 refine S'.add r ho (fun a ha => ?_) fun r' hr a ha => (S.off (hD a ha)).2.2.2.2 r' hr
 have fq := S.off (hD a ha)
 exact ⟨lL _ ha, fq.2.1, fq.2.2.1, fq.2.2.2.1⟩
theorem Ex.newF {x : Str} (h : ∀ X, EvF K.c K.l X K.env Γ e d) (k : ∀ D, (∀ p ∈ L, p.1 ≠ D) -> Ex K A s0 E ((x, opq D) :: Γ) R (aj K.c ((D, .data d) :: L) ++ Δ) ss O)
  (hx : autoParam (decide (x ∈ K.xs) = true) aK) (hΓ : autoParam (offB [x] (Γ.map (·.1)) = true) aK) (hR : autoParam (offB [x] (R.map (·.1)) = true) aK) (hs : autoParam (swapsWith e (some (.Name x px)) pos.line K.env = pure false) aR) :
  Ex K A s0 E Γ R (aj K.c L ++ Δ) (.Assign [.Name x px] e pos :: ss) O := fun s X S => by
 have e1 : Γ.filter (fun p => p.1 != x) = Γ := bM fun p hp e => bC hΓ p hp (e ▸ .head _)
 refine wpAny_execs_cons (wpAny_Assign_Name (bk (wK (h X A s S.lev S.good) (fun v s1 q => ?_))) hs)
 obtain ⟨p, D, hD, o⟩ := q
 have S1 : Sat K (D :: X) Γ R (aj K.c ((D, .data d) :: L) ++ Δ) A s0 s1 := S.take p hD o
 refine S1.assign (of_decide_eq_true hx) (neR hR) (.opq D) fun s2 S2 => ?_
 rw [e1] at S2
 exact k D S1.jq s2 _ S2
inductive RsP (K : Act) (A : Around) (s0 : Shared) (Γ : Gam) (R : Ros) (Δ : Del K) (mk : Addr -> Res K.c -> Prop) (v : Value) (s' : Shared) : Prop
 | mk (D : Addr) (r : Res K.c) (X' : List Addr) (h : mk D r) (e : v = .ref D) (S : Sat K X' Γ R (r :: Δ) A s0 s')
noncomputable def EvR (K : Act) (A : Around) (s0 : Shared) (E : Err) (Γ : Gam) (R : Ros) (Δ : Del K) (e : Expr) (mk : Addr -> Res K.c -> Prop) : Prop :=
 ∀ s X, Sat K X Γ R Δ A s0 s -> wpAny K.c.M A (eval e K.env) (RsP K A s0 Γ R Δ mk) E s
theorem Ex.Jl {x : Str} {mk : Addr -> Res K.c -> Prop} (h : EvR K A s0 E Γ R Δ e mk) (k : ∀ D r, mk D r -> Ex K A s0 E ((x, opq D) :: Γ) R (r :: Δ) ss O)
  (hx : autoParam (decide (x ∈ K.xs) = true) aK) (hΓ : autoParam (offB [x] (Γ.map (·.1)) = true) aK) (hR : autoParam (offB [x] (R.map (·.1)) = true) aK) (hs : autoParam (swapsWith e (some (.Name x px)) pos.line K.env = pure false) aR) :
  Ex K A s0 E Γ R Δ (.Assign [.Name x px] e pos :: ss) O := fun s X S => by
 have e1 : Γ.filter (fun p => p.1 != x) = Γ := bM fun p hp e => bC hΓ p hp (e ▸ .head _)
 refine wpAny_execs_cons (wpAny_Assign_Name (wK (h s X S) (fun v s1 q => ?_)) hs)
 obtain ⟨D, r, X', hm, rfl, S1⟩ := q
 refine S1.assign (of_decide_eq_true hx) (neR hR) (.opq D) fun s2 S2 => ?_
 rw [e1] at S2
 exact k D r hm s2 _ S2
theorem EvR.set (dk : bh K.c.w κ) {np pos : Pos} (g : Glb K.c "set" (.type "set")) (hf : autoParam (K.env.kindOf "set" = some .globalImplicit) aR) : EvR K A s0 E Γ R Δ (.Call (.Name "set" np) [] [] pos) (fun D r => r = cD K.c dk D []) := fun s X S => by
 refine wpAny_Call_ofName (wpAny_Name (g A _ s K.env _ S.good.bas.stays S.good.globals S.good.builtins S.good.kind hf ?_) (by kernel_rfl))
 refine callWith_of (P := fun h => K.c.base.StaysIn h) rfl dJ (PySem.evalArgs_none ⟨S.good.bas.stays, call_set_0 fun led => ?_⟩)
 have hn : s.heap.get? s.heap.objs.size = none := ak (Nat.le_refl _)
 have hS : (s.heap.push { cls := .type "set", dict := none, data := .set #[] 0 (.fresh 0 0 led) }).SetOf (dk.knd K.c.prog) s.heap.objs.size (fun _ => false) 0 := (setObjOf_fresh (knd := dk.knd K.c.prog) led).setOf (hP _ rfl) (by decide)
 refine ⟨s.heap.objs.size, cD K.c dk s.heap.objs.size [], _, rfl, rfl, S.Ia .fH (cD K.c dk s.heap.objs.size []) (fun a ha => by rw [lS ha]; exact hn) ?_⟩
 have e : (fun k : κ => decide (k ∈ ([] : List κ))) = fun _ => false := by funext k; simp
 show Heap.SetOf _ _ _ (fun k : κ => decide (k ∈ ([] : List κ))) 0
 rw [e]
 exact hS
noncomputable abbrev Scan (dk : bh w κ) : Prop := ∀ k v X h, Rd w X h v (dk.enc k) -> v.scannable = true
theorem EtS.inSet (dk : bh K.c.w κ) (hsc : Scan dk) {e1 e2 : Expr} {pos : Pos} {D : Addr} {k : κ} {ks : List κ} (h1 : EvS K A s0 E Γ R Δ e1 (dk.enc k)) (h2 : EvS K A s0 E Γ R Δ e2 (opq D)) (hD : cD K.c dk D ks ∈ Δ) (hm : autoParam (behindInMarks .In e2 = false) aU) :
  EtS K A s0 E Γ R Δ (.Compare e1 [.In] [e2] pos) (decide (k ∈ ks)) := fun s X S =>
 wpAny_isTrue_Compare1 (h1.go S fun v1 s1 S1 q1 => h2.ref S1 fun s2 S2 => by
  have hS : s2.heap.SetOf (dk.knd K.c.prog) D (fun k => decide (k ∈ ks)) ks.length := S2.res _ hD
  have r1 : Rd K.c.w X s2.heap v1 (dk.enc k) := q1.flat (dk.flat k)
  exact wpAny_inSet_of (dk.dr K.c.prog k _ _ _ r1) (hsc k _ _ _ r1) hS (wpAny_truthy_bool ⟨rfl, S2.pst .tk⟩)) hm
theorem EtS.Ls (dk : bh K.c.w κ) (hsys : sysModules ∈ K.c.fr) {e1 e2 : Expr} {pos : Pos} {D : Addr} {k : κ} {kvs : List (κ × PyData)} (h1 : EvS K A s0 E Γ R (aj K.c L ++ Δ) e1 (dk.enc k)) (h2 : EvS K A s0 E Γ R (aj K.c L ++ Δ) e2 (opq D)) (hD : (D, .data (dD dk.enc kvs)) ∈ L) (hm : autoParam (behindInMarks .In e2 = false) aU) :
  EtS K A s0 E Γ R (aj K.c L ++ Δ) (.Compare e1 [.In] [e2] pos) (cj kvs k).isSome := fun s X S =>
 wpAny_isTrue_Compare1 (h1.go S fun v1 s1 S1 q1 => h2.ref S1 fun s2 S2 => by
  obtain ⟨vs, dd, r, _⟩ := S2.dct dk hD
  have r1 : Rd K.c.w X s2.heap v1 (dk.enc k) := q1.flat (dk.flat k)
  have e := (jJ (k := k) r).two.1
  exact wpAny_in_of (dk.dr K.c.prog k _ _ _ r1) (S2.Bb hsys hD) dd.mapOf (wpAny_truthy_bool ⟨e, S2.pst .tk⟩)) hm
theorem Ex1.Jm (dk : bh K.c.w κ) (hsc : Scan dk) {o e : Expr} {apos cpos pos : Pos} {D : Addr} {k : κ} {ks : List κ} (ho : EvS K A s0 E Γ R (cD K.c dk D ks :: Δ) o (opq D)) (h : EvS K A s0 E Γ R (cD K.c dk D ks :: Δ) e (dk.enc k)) (hk : k ∉ ks) (hz : ks.length <= 4000)
  (hline : autoParam ((apos.endLine == cpos.line) = true) aR) (hs : autoParam (starEach [e] K.env = [(false, eval e K.env)]) aR) (hi : autoParam (interactive K.env = false) aR) (hsw : autoParam (swapsWith (.Call (.Attribute o "add" apos) [e] [] cpos) none pos.line K.env = pure false) aR)
  (hbase : autoParam (attributeBase o "add" K.env (eval o K.env) = eval o K.env) aR) :
  Ex1 K A s0 E Γ R (cD K.c dk D ks :: Δ) (.Expr (.Call (.Attribute o "add" apos) [e] [] cpos) pos) (bY Γ R (cD K.c dk D (ks ++ [k]) :: Δ)) := fun s X S => by
 refine wpAny_Expr ?_ hi hsw
 refine gV PySem.F.plainAttrs_set PySem.F.slot_set_add PySem.F.type_set_add (ho.ref S fun s1 S1 => ?_) hbase hline hs
 have hS1 : s1.heap.SetOf (dk.knd K.c.prog) D (fun k => decide (k ∈ ks)) ks.length := S1.res _ (.head _)
 refine ⟨hS1.typeIs, hS1.noDict, h.go S1 fun v s2 S2 r2 => ?_⟩
 have hS2 : s2.heap.SetOf (dk.knd K.c.prog) D (fun k => decide (k ∈ ks)) ks.length := S2.res _ (.head _)
 refine call_set_add (dk.dr K.c.prog k _ _ _ r2) (hsc k _ _ _ r2) hS2 (by show ks.length + 1 < 4096; omega) fun h' hs' hS' => ?_
 have fq := S2.fps _ (.head _) D (.head _)
 have q : HX K.c [D] s2.heap h' := .sameBut hs' (S2.base D fq.2.1) fq.2.2.2
 refine ⟨X, _, _, _, rfl, S2.change (r := cD K.c dk D ks) (r' := cD K.c dk D (ks ++ [k])) rfl q ?_⟩
 show h'.SetOf _ D (fun k' => decide (k' ∈ ks ++ [k])) (ks ++ [k]).length
 have e1 : (fun k' => decide (k' ∈ ks ++ [k])) = fun k' => decide (k' ∈ ks) || decide (k' = k) := by funext k'; simp
 rw [e1, List.length_append]
 rw [if_neg (by simpa using hk)] at hS'
 exact hS'
theorem EvR.next {ipos : Pos} (g : Glb K.c "iter" (.builtin "iter")) (h : ∀ X, Ev K.c K.l X K.env Γ e (.list ds)) (hf : autoParam (K.env.kindOf "iter" = some .globalImplicit) aR)
  (he : autoParam (starEach [e] K.env = (false, eval e K.env) :: starEach [] K.env) aR) (hn : autoParam (m8 K.env (.Call (.Name "iter" np) [e] [] ipos) "__next__" apos) aU) :
  EvR K A s0 E Γ R Δ (.Attribute (.Call (.Name "iter" np) [e] [] ipos) "__next__" apos) (fun D r => ∃ I, r = fP K.c D I ds 0) := fun s X S => by
 refine Attribute_any_ ?_ hn
 refine wpAny_Call_ofName (wpAny_Name (g A _ s K.env _ S.good.bas.stays S.good.globals S.good.builtins S.good.kind hf ?_) (by kernel_rfl))
 show wpAny K.c.M A (callWith ipos (.builtin "iter") [] (backTo ipos (starEach [e] K.env)) []) _ _ s
 rw [he]
 refine callWith_of (P := fun h => K.c.base.StaysIn h) rfl jy (evalArgs_plain (Calls.spliced_cons ((h X).use S.lev S.good fun u s1 p1 r1 G1 => Calls.spliced_nil ⟨G1.bas.stays, ?_⟩)))
 have S1 := S.pst p1
 have hz := r1.aQ; clear r1; obtain ⟨ax, vs, n, ha, ea, q⟩ := hz
 refine nj (l := ax) ⟨_, ea, rfl, _, rfl⟩ ?_
 refine q9 (D := ax) (i := 0) (hP _ rfl) ?_
 have hI : s1.heap.get? s1.heap.objs.size = none := ak (Nat.le_refl _)
 have hm : s1.heap.get? (s1.heap.push (liO ax 0)).objs.size = none := ak (by rw [Heap.size_push]; omega)
 have q1 : HX K.c [] s1.heap ((s1.heap.push (liO ax 0)).push (mwO s1.heap.objs.size)) := (HX.push _ _).trans (HX.push _ _)
 have hfp : ∀ a ∈ (fP K.c (s1.heap.push (liO ax 0)).objs.size s1.heap.objs.size ds 0).fp, s1.heap.get? a = none := fun a ha => by
  rcases lC ha with rfl | ha
  ·exact hm
  ·rw [lS ha]; exact hI
 refine ⟨(s1.heap.push (liO ax 0)).objs.size, fP K.c (s1.heap.push (liO ax 0)).objs.size s1.heap.objs.size ds 0, _, ⟨_, rfl⟩, rfl, S1.Ia ⟨_, _, q1⟩ _ hfp ⟨hP _ rfl, ax, ⟨_, Heap.get?_push_of_some _ (hP _ rfl), rfl, rfl⟩, fun z => ?_, vs, n, Heap.get?_push_of_some _ (Heap.get?_push_of_some _ ea), ?_⟩⟩
 ·rcases lA z with z | z
  ·rw [hfp ax z] at ea; cases ea
  ·exact ha z
 ·exact (q.wide fun a ha => (lA ha).elim (fun z => .inr (hfp a z)) .inl).hx0 q1 fun a ha => lR _ (G1.bas.frs a ha)
theorem Ex1.appendR {mk : Addr -> Res K.c -> Prop} (ho : EvS K A s0 E Γ R (aj K.c L ++ Δ) o (opq D)) (h : EvR K A s0 E Γ R (aj K.c L ++ Δ) e mk) (hD : (D, .data (.list ds)) ∈ L) (hz : ds.length <= 10 ^ 6)
  (hline : autoParam ((apos.endLine == cpos.line) = true) aR) (hs : autoParam (starEach [e] K.env = [(false, eval e K.env)]) aR) (hi : autoParam (interactive K.env = false) aR) (hsw : autoParam (swapsWith (.Call (.Attribute o "append" apos) [e] [] cpos) none pos.line K.env = pure false) aR)
  (hbase : autoParam (attributeBase o "append" K.env (eval o K.env) = eval o K.env) aR) :
  Ex1 K A s0 E Γ R (aj K.c L ++ Δ) (.Expr (.Call (.Attribute o "append" apos) [e] [] cpos) pos) (fun q => ∃ m r, mk m r /\ q = .next Γ R (aj K.c (bf L D (.data (.list (ds ++ [opq m])))) ++ r :: Δ)) := fun s X S => by
 refine wpAny_Expr ?_ hi hsw
 refine gV PySem.F.plainAttrs_list slot_list_append (by first | exact type_list_append | rfl) (ho.ref S fun s1 S1 => ?_) hbase hline hs
 obtain ⟨vs0, n0, e0, r0⟩ := S1.lst hD
 refine ⟨⟨_, e0, rfl⟩, fun a ha => ⟨_, (by cases ha; exact e0), rfl⟩, wK (h s1 X S1) (fun v s2 q => ?_)⟩
 obtain ⟨m, r, X2, hm, rfl, S2'⟩ := q
 have S2 : Sat K X2 Γ R (aj K.c L ++ r :: Δ) A s0 s2 := S2'.perm cY
 obtain ⟨vs, n, e1, rr⟩ := S2.lst hD
 have fq := S2.fps _ (dB hD) D (.head _)
 refine append_at e1 (fun h' hs' e' => ?_) (by simp [rr.length, sizeLine_eq]; omega)
 have q : HX K.c [D] s2.heap h' := .sameBut hs' (S2.base D fq.2.1) fq.2.2.2
 have hY : ∀ y ∈ [D], y ∈ X2 := fun y hy => lS hy ▸ fq.1
 exact ⟨X2, _, _, _, ⟨m, r, hm, rfl⟩, S2.bf (tk := s2.toks) hD (Y := [D]) rfl (fun y hy => lS hy ▸ .head _) q ⟨vs ++ [.ref m], n + 1, by rw [e']; simp [bH], (rr.hx q S2.good.bas.frs hY).append (.cons (.opq m) .nil)⟩⟩
theorem Ex1.dstF (dk : bh K.c.w κ) {o i e : Expr} {tpos pos : Pos} {D : Addr} {k : κ} {d : PyData} {kvs : List (κ × PyData)} (he : EvS K A s0 E Γ R (aj K.c L ++ Δ) e d) (ho : EvS K A s0 E Γ R (aj K.c L ++ Δ) o (opq D)) (hi : EvS K A s0 E Γ R (aj K.c L ++ Δ) i (dk.enc k))
  (hf : flat d = true) (hD : (D, .data (dD dk.enc kvs)) ∈ L) (hz : kvs.length <= 10 ^ 6) (hn : k ∉ kvs.map (·.1)) (hs : autoParam (swapsWith e (some (.Subscript o i tpos)) pos.line K.env = pure false) aR) :
  Ex1 K A s0 E Γ R (aj K.c L ++ Δ) (.Assign [.Subscript o i tpos] e pos) (bY Γ R (aj K.c (bf L D (.data (dD dk.enc (kvs ++ [(k, d)])))) ++ Δ)) := fun s X S => by
 refine wpAny_Assign_Subscript (he.go S fun v s1 S1 r1 => ho.ref S1 fun s2 S2 => hi.go S2 fun iv s3 S3 r3 => qP dk S3 hD r3 (r1.flat hf) hz hn fun s4 S4 => ⟨X, _, _, _, rfl, S4⟩) hs
theorem EtS.truV (h : EvS K A s0 E Γ R (aj K.c L ++ Δ) e (opq D)) (hD : (D, .data d) ∈ L) (t : Tru K.c d b) (he : autoParam (∀ whole, isTrue e K.env whole = (do let v <- whole; standAt e.pos; holding [v] (truthy v))) aI) : EtS K A s0 E Γ R (aj K.c L ++ Δ) e b := fun s X S =>
 wpAny_isTrue_value (h.ref S fun s1 S1 => by
  have hR := S1.res _ (dB hD)
  have fq := S1.fps _ (dB hD) D (.head _)
  have hF : ∀ a ∈ K.c.fr, a ∈ X.filter (· ≠ D) := fun a ha => bQ (S1.good.bas.frs a ha) fun e => fq.2.2.2 (e ▸ ha)
  have B1 : Bas K.c A (X.filter (· ≠ D)) s1.heap := { S1.good.bas with alloc := fun a ha => S1.good.bas.alloc a (without a ha), frs := hF }
  exact bk (wK (t K.l A (X.filter (· ≠ D)) s1 (.ref D) S1.lev B1 (bT.rd hR dW without)) (fun r s2 q2 => ⟨q2.1, S1.pst q2.2⟩))) (he _)
theorem Ex1.yW (Inv : Nat -> Gam -> Ros -> Del K -> Prop) (O : Out K -> Prop)
  (h : ∀ n Γ R Δ, Inv n Γ R Δ -> ∃ b, EtS K A s0 E Γ R Δ test b /\ (b = true -> Ex K A s0 E Γ R Δ body fun o => (∃ m Γ' R' Δ', m < n /\ (o = .next Γ' R' Δ' \/ o = .cont Γ' R' Δ') /\ Inv m Γ' R' Δ') \/ (∃ Γ' R' Δ', o = .brk Γ' R' Δ' /\ O (.next Γ' R' Δ')) \/ ∃ d, o = .ret d /\ O (.ret d)) /\ (b = false -> Ex K A s0 E Γ R Δ orelse O))
  (n : Nat) (h0 : Inv n Γ R Δ) (hE : autoParam (PassesOwn K.c.M A K.env E) aE) : Ex1 K A s0 E Γ R Δ (.While test body orelse pos) O := by
 refine Ex1.uQ Inv O (fun n Γ R Δ hi => ?_) n h0 hE
 obtain ⟨b, h1, h2⟩ := h n Γ R Δ hi
 exact ⟨b, fun s X S => wK (h1 s X S) (fun _ _ q => ⟨q.1, X, q.2⟩), h2⟩
end
section
variable {E : Err} [DecidableEq κ]
inductive Lw (w : World) (X : List Addr) (h : Heap) (ds : List PyData) (d : PyData) : List Value -> Prop
 | mk (us : List Value) (v : Value) (r : RdL w X h us ds) (a : Rd w X h v d) : Lw w X h ds d (us ++ [v])
theorem RdL.snoc : ∀ {vs : List Value}, RdL w X h vs (ds ++ [d]) -> Lw w X h ds d vs := by
 induction ds with
 | nil =>
  intro vs r
  obtain ⟨v, a⟩ := (show RdL w X h vs [d] from r).bO
  exact .mk [] v .nil a
 | cons x ds ih =>
  intro vs r
  obtain ⟨v, us, a, q⟩ := RdL.cons_inv r
  obtain ⟨us, u, r1, r2⟩ := ih q
  exact .mk (v :: us) u (.cons a r1) r2
theorem EvS.last {k : Nat} {p1 p2 : Pos} (ho : EvS K A s0 E Γ R (aj K.c L ++ Δ) o (opq D)) (hD : (D, .data (.list (ds ++ [d]))) ∈ L) (hz : ds.length <= 10 ^ 6)
  (hs : autoParam (∀ ov i, subscripted (.UnaryOp .USub (.Constant (.int 1) k p1) p2) false ov i = operate [ov, i] (getItem ov i)) aU) :
  EvS K A s0 E Γ R (aj K.c L ++ Δ) (.Subscript o (.UnaryOp .USub (.Constant (.int 1) k p1) p2) pos) d := fun s X S => by
 refine Subscript_ (ho.ref S fun s1 S1 => ?_)
 refine wpAny_UnaryOp (wpAny_Constant_int (P.neg_int ?_))
 have S2 : Sat K X Γ R (aj K.c L ++ Δ) A s0 { s1 with toks := s1.toks + 1 + 1 } := S1.pst ⟨s1.heap, _, .refl _⟩
 obtain ⟨vs, n, e, rr⟩ := S2.lst hD
 obtain ⟨us, v, r2, r3⟩ := RdL.snoc rr
 have hL : s1.heap.IsList D (us ++ [v]).toArray := ⟨_, e, rfl, _, rfl⟩
 have hT : Shared.TypeIs { s1 with toks := s1.toks + 1 + 1 } (.ref D) "list" := ⟨_, e, rfl⟩
 refine tail_any hT slot_list_getitem.lookup (wpAny_getItem_list_neg (s := { s1 with toks := s1.toks + 1 + 1 }) hL (by decide) (by simp; omega) (by decide) (x := v) ?_ ⟨S2, r3⟩) (hs _ _)
 have : ((-1 : Int) + ((us ++ [v]).toArray.size : Nat)).toNat = us.length := by simp; omega
 rw [this]
 simp
theorem Sat.Ly (S : Sat K X Γ R Δ A s0 s) {cls : String} {P : Gam -> Ros -> Del K -> Prop} {h' : Heap} {e : Addr} (hst : ∃ outer, A.frames = some (K.env :: outer)) (hL : ∃ Lc, K.env.frame = some Lc) (hP : P Γ R Δ) (hk : ∀ b o, s.heap.get? b = some o -> h'.get? b = some o) (hn : s.heap.get? e = none)
  (hx : ∃ ob vs t, h'.get? e = some ob /\ ob.cls = .type cls /\ ob.data = .fields vs /\ vs[0]? = some t /\ vs[1]? = some Value.none) : jG K A s0 cls P (.ref e) { s with heap := h' } := by
 obtain ⟨outer, hA⟩ := hst
 obtain ⟨Lc, hL⟩ := hL
 exact ⟨e, s, X, Γ, R, Δ, h', s.toks, hP, S, Fly.Fp S.good.bas hA hL hk hn hx⟩
theorem Ex1.Bp {x : Str} {m : Addr} (ho : EvS K A s0 E Γ R (fP K.c m I dn i :: Δ) o (opq m)) (hd : dn[i]? = some d) (hf : flat d = true) (hx : autoParam (decide (x ∈ K.xs) = true) aK) (hR : autoParam (offB [x] (R.map (·.1)) = true) aK)
  (hev : autoParam (eval (.Call o [] [] cpos) K.env = (do callWith cpos (<- eval o K.env) [] [] [])) aU) (hs : autoParam (swapsWith (.Call o [] [] cpos) (some (.Name x px)) pos.line K.env = pure false) aR) :
  Ex1 K A s0 E Γ R (fP K.c m I dn i :: Δ) (.Assign [.Name x px] (.Call o [] [] cpos) pos) (bY ((x, d) :: Γ.filter fun p => p.1 != x) R (fP K.c m I dn (i + 1) :: Δ)) := fun s X S => by
 refine wpAny_Assign_Name ?_ hs
 rw [hev]
 refine wB (ho.ref S fun s1 S1 => ?_)
 have st : s1.heap.get? m = some (mwO I) /\ ∃ ax, StL K.c I ax dn X i s1.heap := S1.res _ (.head _)
 obtain ⟨e1, ax, h1, h2, vs, n, h3, h4⟩ := st
 obtain ⟨v, hv, rv⟩ := h4.get _ hd
 refine lO e1 (FW e1 h1 (l := ax) (items := vs.toArray) ⟨_, h3, rfl, _, rfl⟩ (by simpa using hv) fun h' hit' hs' => ?_)
 have gq := S1.fps _ (.head _) I (.tail _ (.head _))
 have kq := S1.fps _ (.head _) m (.head _)
 have q : HX K.c [I] s1.heap h' := .sameBut hs' (S1.base I gq.2.1) gq.2.2.2
 have hmI : m ≠ I := fun z => by
  obtain ⟨o', e', cl, _⟩ := h1
  rw [<- z, e1] at e'
  cases e'
  simp at cl
 have hY : ∀ y ∈ [I], y ∈ X := fun y hy => lS hy ▸ gq.1
 have S2 : Sat K X Γ R (fP K.c m I dn (i + 1) :: Δ) A s0 { s1 with heap := h' } := by
  refine S1.change (r := fP K.c m I dn i) (r' := fP K.c m I dn (i + 1)) (tk := s1.toks) rfl (q.mono fun y hy => .tail _ hy) ⟨(hs'.2 m hmI).trans e1, ax, hit', h2, vs, n, ?_, h4.hx q S1.good.bas.frs hY⟩
  exact q.exact (fun z => h2 (hY _ z)) (fun z => h2 (S1.good.bas.frs _ z)) h3
 exact S2.assign (of_decide_eq_true hx) (neR hR) (rv.flat hf) fun s3 S3 => ⟨X, _, _, _, rfl, S3⟩
theorem Ex1.FZ {x : Str} {m : Addr} {P : Gam -> Ros -> Del K -> Prop} (ho : EvS K A s0 (jG K A s0 "StopIteration" P) Γ R (fP K.c m I dn i :: Δ) o (opq m)) (hd : dn.length <= i) (hst : ∃ outer, A.frames = some (K.env :: outer)) (hLc : ∃ Lc, K.env.frame = some Lc) (hx0 : dg K s0) (hP : P Γ R Δ)
  (hev : autoParam (eval (.Call o [] [] cpos) K.env = (do callWith cpos (<- eval o K.env) [] [] [])) aU) (hs : autoParam (swapsWith (.Call o [] [] cpos) (some (.Name x px)) pos.line K.env = pure false) aR) :
  Ex1 K A s0 (jG K A s0 "StopIteration" P) Γ R (fP K.c m I dn i :: Δ) (.Assign [.Name x px] (.Call o [] [] cpos) pos) O := fun s X S => by
 refine wpAny_Assign_Name ?_ hs
 rw [hev]
 refine wB (ho.ref S fun s1 S1 => ?_)
 have st : s1.heap.get? m = some (mwO I) /\ ∃ ax, StL K.c I ax dn X i s1.heap := S1.res _ (.head _)
 obtain ⟨e1, ax, h1, h2, vs, n, h3, h4⟩ := st
 have hnone : vs.toArray[i]? = none := by
  rw [List.getElem?_toArray]
  exact List.getElem?_eq_none (by rw [h4.length]; exact hd)
 refine lO e1 (Jk S1.good.bas.handled e1 h1 (l := ax) (items := vs.toArray) ⟨_, h3, rfl, _, rfl⟩ hnone fun ha h' e hs' hk hn hx => ?_)
 have gq := S1.fps _ (.head _) I (.tail _ (.head _))
 have q : HX K.c [I] s1.heap ha := .sameBut hs' (S1.base I gq.2.1) gq.2.2.2
 have S2 := S1.drop (tk := s1.toks) hx0 (q.mono fun y hy => .tail _ hy)
 exact S2.Ly hst hLc hP hk hn hx
theorem Ib {x : Str} (S : Sat K X Γ R Δ A s0 s) (hx : (x, opq D) ∈ Γ) (h : Q (.ref D) s) (hd : autoParam ((x == ("__debug__" : Str)) = false) aK) : wpAny K.c.M A2 (eval (.Name x pos) K.env) Q E s := by
 obtain ⟨v, H, r⟩ := S.good.vars _ hx
 rw [gn r] at H
 exact wpAny_Name (H.load S.good.kind h) hd
theorem Ie {x : Str} (S : Sat K X Γ R (aj K.c L ++ Δ) A s0 s) (hx : (x, opq D) ∈ Γ) (hD : (D, .data (.list (ds ++ [d]))) ∈ L) (hz : ds.length <= 10 ^ 5)
  (k : ∀ v s', Rd K.c.w X s'.heap v d -> Sat K X Γ R (aj K.c (bf L D (.data (.list ds))) ++ Δ) A s0 s' -> Q v s') (hdb : autoParam ((x == ("__debug__" : Str)) = false) aK) (hline : autoParam ((apos.endLine == pos.line) = true) aR)
  (hbase : autoParam (attributeBase (.Name x np) "pop" K.env (eval (.Name x np) K.env) = eval (.Name x np) K.env) aR) : wpAny K.c.M A2 (eval (.Call (.Attribute (.Name x np) "pop" apos) [] [] pos) K.env) Q E s := by
 refine qK PySem.F.plainAttrs_list PySem.F.slot_list_pop PySem.F.type_list_pop (Ib S hx ?_ hdb) hbase hline
 obtain ⟨vs, n, e1, r⟩ := S.lst hD
 obtain ⟨us, v, r2, r3⟩ := RdL.snoc r
 refine ⟨⟨_, e1, rfl⟩, fun a ha => ⟨_, (by cases ha; exact e1), rfl⟩, ?_⟩
 have fq := S.fps _ (dB hD) D (.head _)
 have hT : s.TypeIs (.ref D) "list" := ⟨_, e1, rfl⟩
 have hlast : (us ++ [v]).toArray[(us ++ [v]).toArray.size - 1]? = some v := by simp
 refine call_meets PySem.F.slot_list_pop hT PySem.F.entry_list_pop (PySem.F.args_list_pop_1 _) (MeetsSeq.list_pop_last D (us ++ [v]).toArray n v hlast (by rw [List.size_toArray, List.length_append, r2.length, sizeLine_eq]; simp; omega)) ⟨e1, ?_⟩
 have hs' : Heap.SameBut D s.heap (s.heap.update D (Obj.mapSeq fun xs => xs.eraseIdxIfInBounds ((us ++ [v]).toArray.size - 1))) := Heap.SameBut.update ..
 have e' := Heap.get?_update_self (Obj.mapSeq fun xs => xs.eraseIdxIfInBounds ((us ++ [v]).toArray.size - 1)) e1 rfl
 have hsz : (us ++ [v]).toArray.size - 1 = us.length := by simp
 have he : (us ++ [v]).eraseIdx us.length = us := by rw [List.eraseIdx_append_of_length_le (Nat.le_refl _)]; simp
 have q : HX K.c [D] s.heap (s.heap.update D (Obj.mapSeq fun xs => xs.eraseIdxIfInBounds ((us ++ [v]).toArray.size - 1))) := .sameBut hs' (S.base D fq.2.1) fq.2.2.2
 have hY : ∀ y ∈ [D], y ∈ X := fun y hy => lS hy ▸ fq.1
 refine k v _ (r3.hx q S.good.bas.frs hY) (S.bf (tk := s.toks) hD (Y := [D]) rfl (fun y hy => lS hy ▸ .head _) q ⟨us, n + 1, ?_, r2.hx q S.good.bas.frs hY⟩)
 rw [e', mapSeq_erase _ _ _ (by simp), hsz]
 show some (bH ((us ++ [v]).eraseIdx us.length) (n + 1)) = _
 rw [he]
end
section
variable {E : Err} [DecidableEq κ]
theorem Lz (dk : bh K.c.w κ) {D : Addr} {kvs : List (κ × PyData)} {k : κ} {d : PyData} {kv : Value} {Q : Unit -> Shared -> Prop} (S : Sat K X Γ R (aj K.c L ++ Δ) A s0 s) (hD : (D, .data (dD dk.enc (kvs ++ [(k, d)]))) ∈ L) (rk : Rd K.c.w X s.heap kv (dk.enc k)) (hz : kvs.length <= 10 ^ 5) (hn : k ∉ kvs.map (·.1))
  (h : ∀ s', Sat K X Γ R (aj K.c (bf L D (.data (dD dk.enc kvs))) ++ Δ) A s0 s' -> Q () s') : wpAny K.c.M A2 (delItem (.ref D) kv) Q E s := by
 obtain ⟨vs, dd, r, hl⟩ := S.dct dk hD
 have fq := S.fps _ (dB hD) D (.head _)
 rw [List.map_append] at r
 obtain ⟨us, u, r2, r3⟩ := RdL.snoc r
 have hul : us.length = (kvs.map (·.1)).length := by rw [r2.length]; simp
 have hzip : ((kvs ++ [(k, d)]).map (·.1)).zip (us ++ [u]) = (kvs.map (·.1)).zip us ++ [(k, u)] := by
  rw [List.map_append, List.zip_append hul.symm]; rfl
 rw [hzip] at dd
 have hno : k ∉ ((kvs.map (·.1)).zip us).map (·.1) := by rw [List.map_fst_zip (Nat.le_of_eq hul.symm)]; exact hn
 have hw : PySem.without ((kvs.map (·.1)).zip us ++ [(k, u)]) k = (kvs.map (·.1)).zip us := by
  unfold PySem.without
  rw [List.filter_append]
  have e1 := without_of_not_mem _ k hno
  unfold PySem.without at e1
  rw [e1]
  simp
 have hva : (valueAt ((kvs.map (·.1)).zip us ++ [(k, u)]) k).isSome = true := by
  unfold valueAt
  rw [Option.isSome_map, List.find?_isSome]
  exact ⟨(k, u), lR _ (.head _), by simp⟩
 refine wpAny_delItem_slot dd.typeIs (by decide) PySem.F.slot_dict_delitem ?_
 refine call_meetsIn PySem.F.slot_dict_delitem dd.typeIs PySem.F.entry_dict_delitem (PySem.F.args_dict_delitem_2 _ _) (meets_dict_delitem_pairs (dk.knd K.c.prog) D (dk.dr K.c.prog k _ _ _ rk)) ⟨_, dd, ?_, hva, fun h' d' hs' => ?_⟩
 ·rw [List.length_append, List.length_zip, hul, sizeLine_eq]; simp; omega
 ·rw [hw] at d'
  have q : HX K.c [D] s.heap h' := .sameBut hs' (S.base D fq.2.1) fq.2.2.2
  have hY : ∀ y ∈ [D], y ∈ X := fun y hy => lS hy ▸ fq.1
  exact h _ (S.bf hD (Y := [D]) rfl (fun y hy => lS hy ▸ .head _) q (bT.ofD dk d' (r2.hx q S.good.bas.frs hY)))
theorem vq (dk : bh K.c.w κ) {x y : Str} {np yp apos cpos tpos pos : Pos} {D1 D2 : Addr} {ds : List PyData} {kvs : List (κ × PyData)} {k : κ} {d : PyData} (S : Sat K X Γ R (aj K.c L ++ Δ) A s0 s) (hx : (x, opq D1) ∈ Γ) (hy : (y, opq D2) ∈ Γ) (h1 : (D1, .data (.list (ds ++ [dk.enc k]))) ∈ L) (h2 : (D2, .data (dD dk.enc (kvs ++ [(k, d)]))) ∈ L) (hne : D2 ≠ D1)
  (hz1 : ds.length <= 10 ^ 5) (hz2 : kvs.length <= 10 ^ 5) (hn : k ∉ kvs.map (·.1)) (hdx : autoParam ((x == ("__debug__" : Str)) = false) aK) (hdy : autoParam ((y == ("__debug__" : Str)) = false) aK) (hline : autoParam ((apos.endLine == cpos.line) = true) aR)
  (hbase : autoParam (attributeBase (.Name x np) "pop" K.env (eval (.Name x np) K.env) = eval (.Name x np) K.env) aR) :
  wpAny K.c.M A2 (exec (.Delete [.Subscript (.Name y yp) (.Call (.Attribute (.Name x np) "pop" apos) [] [] cpos) tpos] pos) K.env) (fun f s' => f = .next /\ Sat K X Γ R (aj K.c (bf (bf L D1 (.data (.list ds))) D2 (.data (dD dk.enc kvs))) ++ Δ) A s0 s') E s := by
 refine wpAny_Delete (wpAny_deleteEach_cons ?_)
 rw [arm_delete_Subscript]
 refine wB (Ib S hy ?_ hdy)
 refine wB (wpAny_holding (Ie S hx h1 hz1 (fun v s1 rv S1 => ?_) hdx hline hbase))
 refine wB (wpAny_standAt ?_)
 refine wB (wpAny_holding (Lz dk S1 (aL h2 hne) rv hz2 hn fun s2 S2 => ?_))
 exact wpAny_release (wpAny_deleteEach_nil ⟨rfl, S2⟩)
theorem Ga {x : Str} (S : Sat K X Γ R (aj K.c L ++ Δ) A s0 s) (hx : (x, opq D) ∈ Γ) (hD : (D, .data (.list (ds ++ [d]))) ∈ L) (hz : ds.length <= 10 ^ 5)
  (hdb : autoParam ((x == ("__debug__" : Str)) = false) aK) (hline : autoParam ((apos.endLine == cpos.line) = true) aR)
  (hbase : autoParam (attributeBase (.Name x np) "pop" K.env (eval (.Name x np) K.env) = eval (.Name x np) K.env) aR) (hi : autoParam (interactive K.env = false) aR) (hsw : autoParam (swapsWith (.Call (.Attribute (.Name x np) "pop" apos) [] [] cpos) none pos.line K.env = pure false) aR) :
  wpAny K.c.M A2 (exec (.Expr (.Call (.Attribute (.Name x np) "pop" apos) [] [] cpos) pos) K.env) (fun f s' => f = .next /\ Sat K X Γ R (aj K.c (bf L D (.data (.list ds))) ++ Δ) A s0 s') E s :=
 wpAny_Expr_any (Ie S hx hD hz (fun v s1 rv S1 => ⟨rfl, S1⟩) hdb hline hbase) hi hsw
end
structure Frm (κ : Type) where
 k : κ
 su : List κ
 m : Addr
 I : Addr
 i : Nat
section
variable [DecidableEq κ]
noncomputable def muF (keys : List κ) (su : κ -> List κ) (sk : List κ) (stk : List (Frm κ)) : Nat := ((keys.filter fun u => decide (u ∉ sk)).map fun u => 1 + (su u).length).sum + (stk.map fun f => f.su.length - f.i).sum
theorem sum_filter (g : κ -> Nat) {sk : List κ} {k : κ} (hk : k ∈ keys) (hn : k ∉ sk) : ((keys.filter fun u => decide (u ∉ sk ++ [k])).map g).sum + g k <= ((keys.filter fun u => decide (u ∉ sk)).map g).sum := by
 induction keys with
 | nil => cases hk
 | cons u keys ih =>
  have mono : ∀ l : List κ, ((l.filter fun u => decide (u ∉ sk ++ [k])).map g).sum <= ((l.filter fun u => decide (u ∉ sk)).map g).sum := by
   intro l
   induction l with
   | nil => simp
   | cons x l ih =>
    by_cases h1 : x ∈ sk
    ·have h2 : x ∈ sk ++ [k] := lL _ h1
     simp only [List.filter_cons, h1, h2, not_true, decide_false, Bool.false_eq_true, if_false]
     exact ih
    ·by_cases h2 : x = k
     ·have h3 : x ∈ sk ++ [k] := by simp [h2]
      simp only [List.filter_cons, h1, h3, not_true, not_false_eq_true, decide_true, decide_false, Bool.false_eq_true, if_false, if_true, List.map_cons, List.sum_cons]
      exact Nat.le_trans ih (Nat.le_add_left _ _)
     ·have h3 : x ∉ sk ++ [k] := by simp [h1, h2]
      simp only [List.filter_cons, h1, h3, not_false_eq_true, decide_true, if_true, List.map_cons, List.sum_cons]
      exact Nat.add_le_add_left ih _
  by_cases h : u = k
  ·have h3 : u ∈ sk ++ [k] := by simp [h]
   have h1 : u ∉ sk := h ▸ hn
   simp only [List.filter_cons, h1, h3, not_true, not_false_eq_true, decide_true, decide_false, Bool.false_eq_true, if_false, if_true, List.map_cons, List.sum_cons]
   have := mono keys
   rw [h, Nat.add_comm]
   exact Nat.add_le_add_left this _
  ·have hk' : k ∈ keys := (lC hk).resolve_left fun e => h e.symm
   have := ih hk'
   by_cases h1 : u ∈ sk
   ·have h2 : u ∈ sk ++ [k] := lL _ h1
    simp only [List.filter_cons, h1, h2, not_true, decide_false, Bool.false_eq_true, if_false]
    exact this
   ·have h3 : u ∉ sk ++ [k] := by simp [h1, h]
    simp only [List.filter_cons, h1, h3, not_false_eq_true, decide_true, if_true, List.map_cons, List.sum_cons]
    rw [Nat.add_assoc]
    exact Nat.add_le_add_left this _
noncomputable def kO (keys sk : List κ) : Prop := sk.length + (keys.filter fun u => decide (u ∉ sk)).length <= keys.length
theorem kO.push (h : kO keys sk) (hk : k ∈ keys) (hn : k ∉ sk) : kO keys (sk ++ [k]) := by
 have e : ∀ l : List κ, (l.map fun _ => 1).sum = l.length := fun l => by induction l <;> simp_all; omega
 have := sum_filter (fun _ => 1) hk hn
 rw [e, e] at this
 unfold kO at h ⊢
 rw [List.length_append]
 simp only [List.length_cons, List.length_nil]
 omega
theorem kO.nil : kO keys [] := by unfold kO; rw [List.length_nil, Nat.zero_add]; exact List.length_filter_le _ _
structure eF (keys : List κ) (su : κ -> List κ) (rk : κ -> Nat) (sk : List κ) (stk : List (Frm κ)) : Prop where
 seen : ∀ f ∈ stk, f.k ∈ sk
 suc : ∀ f ∈ stk, f.su = su f.k
 desc : stk.Pairwise fun f g => rk f.k < rk g.k
theorem eF.push {stk : List (Frm κ)} (h : eF keys su rk sk stk) {f : Frm κ} (hs : f.su = su f.k) (hr : ∀ g ∈ stk.head?, rk f.k < rk g.k) : eF keys su rk (sk ++ [f.k]) (f :: stk) := by
 refine ⟨fun g hg => ?_, fun g hg => ?_, ?_⟩
 ·rcases lC hg with rfl | hg
  ·simp
  ·exact lL _ (h.seen g hg)
 ·rcases lC hg with rfl | hg
  ·exact hs
  ·exact h.suc g hg
 ·refine List.pairwise_cons.mpr ⟨fun g hg => ?_, h.desc⟩
  cases stk with
  | nil => cases hg
  | cons t r =>
   have h0 := hr t rfl
   rcases lC hg with rfl | hg
   ·exact h0
   ·exact Nat.lt_trans h0 ((List.pairwise_cons.mp h.desc).1 g hg)
theorem eF.pop {stk : List (Frm κ)} {f : Frm κ} (h : eF keys su rk sk (f :: stk)) : eF keys su rk sk stk := ⟨fun g hg => h.seen g (.tail _ hg), fun g hg => h.suc g (.tail _ hg), (List.pairwise_cons.mp h.desc).2⟩
theorem eF.step {stk : List (Frm κ)} {f : Frm κ} (h : eF keys su rk sk (f :: stk)) : eF keys su rk sk ({ f with i := f.i + 1 } :: stk) :=
 ⟨fun g hg => (lC hg).elim (fun e => e ▸ h.seen f (.head _)) fun hg => h.seen g (.tail _ hg), fun g hg => (lC hg).elim (fun e => e ▸ h.suc f (.head _)) fun hg => h.suc g (.tail _ hg), List.pairwise_cons.mpr ⟨(List.pairwise_cons.mp h.desc).1, (List.pairwise_cons.mp h.desc).2⟩⟩
theorem eF.fresh {stk : List (Frm κ)} (h : eF keys su rk sk stk) {k : κ} (hr : ∀ g ∈ stk.head?, rk k < rk g.k) : ∀ f ∈ stk, f.k ≠ k := fun f hf e => by
 cases stk with
 | nil => cases hf
 | cons t r =>
  have h0 := hr t rfl
  rcases lC hf with rfl | hf
  ·rw [e] at h0; exact Nat.lt_irrefl _ h0
  ·have := (List.pairwise_cons.mp h.desc).1 f hf
   rw [e] at this
   omega
end
theorem Ig {D M : List α} {x y : α} : List.Perm (D ++ x :: y :: M) (y :: (D ++ x :: M)) := by
 have h1 : List.Perm (D ++ x :: y :: M) (D ++ y :: x :: M) := List.Perm.append_left _ (List.Perm.swap ..)
 exact h1.trans List.perm_middle
variable {rest stk : List (Frm κ)}
section
variable {E : Err} [DecidableEq κ]
end
section
variable {E : Err} [DecidableEq κ]
noncomputable def EtX (K : Act) (A : Around) (s0 : Shared) (E : Err) (Γ : Gam) (R : Ros) (Δ : Del K) (e : Expr) (b : Bool) : Prop :=
 ∀ s X, Sat K X Γ R Δ A s0 s -> wpAny K.c.M A (isTrue e K.env (eval e K.env)) (fun r s' => r = b /\ ∃ X', Sat K X' Γ R Δ A s0 s') E s
theorem EtX.of (h : EvX K A s0 E Γ R L Δ e (fun d' L' => d' = d /\ L' = L)) (t : Tru K.c d b) (he : autoParam (∀ whole, isTrue e K.env whole = (do let v <- whole; standAt e.pos; holding [v] (truthy v))) aI) : EtX K A s0 E Γ R (aj K.c L ++ Δ) e b := fun s X S =>
 wpAny_isTrue_value (wK (h s X S) (fun v s1 q => by
  obtain ⟨X', d', L', ⟨rfl, rfl⟩, S1, r1⟩ := q
  exact bk (wK (t K.l A X' s1 v S1.lev S1.good.bas r1) (fun r s2 q2 => ⟨q2.1, X', S1.pst q2.2⟩)))) (he _)
theorem Ex1.Jo (Inv : Nat -> Gam -> Ros -> Del K -> Prop) (O : Out K -> Prop)
  (h : ∀ n Γ R Δ, Inv n Γ R Δ -> ∃ b, EtX K A s0 E Γ R Δ test b /\ (b = true -> Ex K A s0 E Γ R Δ body fun o => (∃ m Γ' R' Δ', m < n /\ (o = .next Γ' R' Δ' \/ o = .cont Γ' R' Δ') /\ Inv m Γ' R' Δ') \/ (∃ Γ' R' Δ', o = .brk Γ' R' Δ' /\ O (.next Γ' R' Δ')) \/ ∃ d, o = .ret d /\ O (.ret d)) /\ (b = false -> O (.next Γ R Δ)))
  (n : Nat) (h0 : Inv n Γ R Δ) (hE : autoParam (PassesOwn K.c.M A K.env E) aE) : Ex1 K A s0 E Γ R Δ (.While test body [] pos) O := by
 refine Ex1.uQ Inv O (fun n Γ R Δ hi => ?_) n h0 hE
 obtain ⟨b, h1, h2, h3⟩ := h n Γ R Δ hi
 exact ⟨b, h1, h2, fun e => .nil (h3 e)⟩
end
theorem meta_str : typeOf (.type "str") = pure (.type "type") := by first | rfl | kernel_rfl
theorem sub_str_str : isSubtype (.type "str") (.type "str") = pure true := by rw [isSubtype_type]; kernel_rfl
theorem sZ : isSubtype (.type "tuple") (.type "tuple") = pure true := by rw [isSubtype_type]; kernel_rfl
theorem vA {k : Value} {tk : Tok} {Q : Fin -> Shared -> Prop} (hk : k = .int dep tk) (hq : Q (.done (.ret (.bool true))) s) : wpAny (model prog w) A (Builtin.«issubclass.nested» ⟨[.type "str", .type "str", k], []⟩) Q E s := by
 subst hk
 have hm := meta_str
 have hs := sub_str_str
 repeat (any_goals (first | assumption | wp_step))
theorem Bq : builtinKind "issubclass.nested" = none := by decide +kernel
theorem yX : plainId "issubclass.nested" = true := by decide +kernel
theorem Br (a b c : Value) : argsOk "issubclass.nested" ⟨[a, b, c], []⟩ := by unfold argsOk; kernel_rfl
theorem s6 {x k : Value} {tk : Tok} (hx : x = .type "str") (hk : k = .int dep tk) (hq : Q (.bool true) s) : wpAny (model prog w) A (call (.builtin "issubclass.nested") [.type "str", x, k]) Q E s := by
 subst hx
 exact call_function_entry Bq yX PySem.F.entry_issubclass_nested (Br _ _ _) (vA hk ⟨_, rfl, hq⟩)
theorem vB {n : Nat} {k : Value} {tk : Tok} {Q : Fin -> Shared -> Prop} (hk : k = .int 0 tk) (hT : s.heap.get? T = some (jx (.type "str" :: vs) n)) (hq : Q (.done (.ret (.bool true))) s) : wpAny (model prog w) A (Builtin.«issubclass.nested» ⟨[.type "str", .ref T, k], []⟩) Q E s := by
 subst hk
 have hTy : s.TypeIs (.ref T) "tuple" := ⟨_, hT, rfl⟩
 have hm := sZ
 unfold Builtin.«issubclass.nested»
 repeat (any_goals (first | assumption | ((with_reducible show wpAny _ _ (call (Value.builtin "issubclass.nested") _ _) _ _ _); refine s6 (by simp) (dep := 0 + 1) (tk := 0) rfl ?_) | wp_step))
theorem yZ {n : Nat} : Meets (Builtin.«issubclass» ⟨[.type "str", .ref T], []⟩) (fun _ R s => s.heap.get? T = some (jx (.type "str" :: vs) n) /\ R (.ok (.ret (.bool true))) s) :=
 fun _ _ _ _ _ hs => issubclass_outer (vB rfl hs.1 hs.2)
theorem aO.Ih {x : Str} : aO c l (.type "type") [.str x] tyS := fun A X s vs L B r => by
 have hz := r.bO; clear r; obtain ⟨_, r⟩ := hz
 have hz := r.str_inv; clear r; obtain ⟨t⟩ := hz
 exact call_type_of (Tx := "str") rfl (by decide +kernel) ⟨.refl, .tys⟩
theorem Jp (r : Rd w X h v tyS) : v = .type "str" := by
 have hz : RdD w X h [(.none, .bool true)] v := r.inv
 cases hz with
 | dict _ _ _ _ _ k => exact (mQ k rfl).elim
 | opq b e => exact nomatch (Prod.mk.inj (List.cons.inj e).1).2
 | tys e => rfl
 | inst _ _ _ _ _ _ _ _ _ _ _ _ e => exact nomatch (Prod.mk.inj (List.cons.inj e).1).2
theorem Et.Bs {p1 p2 p3 : Pos} {k : Nat} (h : Ev c l X env Γ e tyS) (g1 : Glb c "issubclass" (.builtin "issubclass")) (g2 : Glb c "str" (.type "str")) (g3 : Glb c "bytes" (.type "bytes")) (hf1 : autoParam (env.kindOf "issubclass" = some .globalImplicit) aR) (hf2 : autoParam (env.kindOf "str" = some .globalImplicit) aR) (hf3 : autoParam (env.kindOf "bytes" = some .globalImplicit) aR)
  (he : autoParam (starEach [e, .Tuple [.Name "str" p1, .Name "bytes" p2] k p3] env = (false, eval e env) :: (false, eval (.Tuple [.Name "str" p1, .Name "bytes" p2] k p3) env) :: starEach [] env) aR)
  (he2 : autoParam (starEach [.Name "str" p1, .Name "bytes" p2] env = (false, eval (.Name "str" p1) env) :: (false, eval (.Name "bytes" p2) env) :: starEach [] env) aR)
  (hb : autoParam (∀ whole, isTrue (.Call (.Name "issubclass" np) [e, .Tuple [.Name "str" p1, .Name "bytes" p2] k p3] [] pos) env whole = (do let v <- whole; standAt pos; holding [v] (truthy v))) aI) :
  Et c l X env Γ (.Call (.Name "issubclass" np) [e, .Tuple [.Name "str" p1, .Name "bytes" p2] k p3] [] pos) true := fun A s L G => by
 refine wpAny_isTrue_value ?_ (hb _)
 refine wpAny_Call_ofName (wpAny_Name (g1 A _ s env _ G.bas.stays G.globals G.builtins G.kind hf1 ?_) (by kernel_rfl))
 show wpAny c.M A (callWith pos (.builtin "issubclass") [] (backTo pos (starEach [e, .Tuple [.Name "str" p1, .Name "bytes" p2] k p3] env)) []) _ _ s
 rw [he]
 refine callWith_of (P := fun _ => True) rfl iH (evalArgs_plain (Calls.spliced_cons (h.use L G fun v1 s1 q1 r1 G1 => ?_)))
 rw [Jp r1]
 refine Calls.spliced_cons (wpAny_Tuple (k := k) ?_)
 rw [he2]
 refine Calls.spliced_cons (wpAny_Name (g2 A _ s1 env _ G1.bas.stays G1.globals G1.builtins G1.kind hf2 ?_) (by kernel_rfl))
 refine Calls.spliced_cons (wpAny_Name (g3 A _ s1 env _ G1.bas.stays G1.globals G1.builtins G1.kind hf3 ?_) (by kernel_rfl))
 refine Calls.spliced_nil ⟨by rw [sizeLine_eq]; simp, Calls.spliced_nil ⟨trivial, ?_⟩⟩
 refine call_issubclass yZ ⟨hP _ rfl, ?_⟩
 exact wpAny_truthy_bool ⟨rfl, q1.trans .fH⟩
theorem Et.isBytes {x : Str} {p1 : Pos} (h : Ev c l X env Γ e (.str x)) (g1 : Glb c "isinstance" (.builtin "isinstance")) (g3 : Glb c "bytes" (.type "bytes")) (hf1 : autoParam (env.kindOf "isinstance" = some .globalImplicit) aR) (hf3 : autoParam (env.kindOf "bytes" = some .globalImplicit) aR)
  (he : autoParam (starEach [e, .Name "bytes" p1] env = (false, eval e env) :: (false, eval (.Name "bytes" p1) env) :: starEach [] env) aR)
  (hb : autoParam (∀ whole, isTrue (.Call (.Name "isinstance" np) [e, .Name "bytes" p1] [] pos) env whole = (do let v <- whole; standAt pos; holding [v] (truthy v))) aI) :
  Et c l X env Γ (.Call (.Name "isinstance" np) [e, .Name "bytes" p1] [] pos) false := fun A s L G => by
 refine wpAny_isTrue_value ?_ (hb _)
 refine wpAny_Call_ofName (wpAny_Name (g1 A _ s env _ G.bas.stays G.globals G.builtins G.kind hf1 ?_) (by kernel_rfl))
 show wpAny c.M A (callWith pos (.builtin "isinstance") [] (backTo pos (starEach [e, .Name "bytes" p1] env)) []) _ _ s
 rw [he]
 refine callWith_of (P := fun _ => True) rfl iH (evalArgs_plain (Calls.spliced_cons (h.use L G fun v1 s1 q1 r1 G1 => ?_)))
 refine Calls.spliced_cons (wpAny_Name (g3 A _ s1 env _ G1.bas.stays G1.globals G1.builtins G1.kind hf3 ?_) (by kernel_rfl))
 refine Calls.spliced_nil ⟨trivial, ?_⟩
 have hz := r1.str_inv; clear r1; obtain ⟨t⟩ := hz
 exact IsiPair.str_bytes (wpAny_truthy_bool ⟨rfl, q1.trans .tk⟩)
theorem P2.rm {x y : Str} (h : ∀ l A X s ta tb, Lev l A -> Bas c A X s.heap -> wpAny c.M A (t (.str x ta) (.str y tb)) (Yield c X s d) NoE s) : P2 c t (.str x) (.str y) d := fun l A X s v1 v2 L B r1 r2 => by
 have h1 := r1.str_inv; have h2 := r2.str_inv; clear r1 r2
 obtain ⟨ta⟩ := h1; obtain ⟨tb⟩ := h2
 exact h l A X s _ _ L B
theorem P2.LC {x y : Str} (hz : x.length + y.length <= 1000) : P2 c (binaryOp .Add) (.str x) (.str y) (.str (x ++ y)) := .rm fun l A X s ta tb _ _ => PyProof.Rows.add_str (fun t' tk => ⟨⟨s.heap, tk, .refl _⟩, .str _ _⟩) (by rw [sizeLine_eq]; omega)
theorem P2.Ii {x y : Str} (hz : x.length + y.length <= 1000) : P2 c (inplaceOp .Add) (.str x) (.str y) (.str (x ++ y)) := .rm fun l A X s ta tb _ _ => PyProof.Rows.iadd_str (fun t' tk => ⟨⟨s.heap, tk, .refl _⟩, .str _ _⟩) (by rw [sizeLine_eq]; omega)
theorem Ev.rz {x y : Str} (ho : Ev c l X env Γ o (.str x)) (he : Ev c l X env Γ e (.str y)) (hbase : autoParam (attributeBase o "startswith" env (eval o env) = eval o env) aR) (hline : autoParam ((apos.endLine == pos.line) = true) aR) (hs : autoParam (starEach [e] env = [(false, eval e env)]) aR) :
  Ev c l X env Γ (.Call (.Attribute o "startswith" apos) [e] [] pos) (.bool (Txt.startswith x y)) := fun A s L G =>
 Call_method1 hbase hs hline (ho.use L G fun ov s1 p1 r1 G1 => by
  have hz := r1.str_inv; clear r1; obtain ⟨t⟩ := hz
  exact SB.startswith (he.use L G1 fun v s2 p2 r2 G2 => by
   have hz := r2.str_inv; clear r2; obtain ⟨u⟩ := hz
   exact ⟨y, u, rfl, p1.trans p2, .bool _⟩))
theorem Ev.LK {x y : Str} (ho : Ev c l X env Γ o (.str x)) (he : Ev c l X env Γ e (.str y)) (hbase : autoParam (attributeBase o "endswith" env (eval o env) = eval o env) aR) (hline : autoParam ((apos.endLine == pos.line) = true) aR) (hs : autoParam (starEach [e] env = [(false, eval e env)]) aR) :
  Ev c l X env Γ (.Call (.Attribute o "endswith" apos) [e] [] pos) (.bool (Txt.endswith x y)) := fun A s L G =>
 Call_method1 hbase hs hline (ho.use L G fun ov s1 p1 r1 G1 => by
  have hz := r1.str_inv; clear r1; obtain ⟨t⟩ := hz
  exact SB.endswith (he.use L G1 fun v s2 p2 r2 G2 => by
   have hz := r2.str_inv; clear r2; obtain ⟨u⟩ := hz
   exact ⟨y, u, rfl, p1.trans p2, .bool _⟩))
theorem Ev.Jq {x y : Str} (ho : Ev c l X env Γ o (.str x)) (he : Ev c l X env Γ e (.str y)) (hbase : autoParam (attributeBase o "count" env (eval o env) = eval o env) aR) (hline : autoParam ((apos.endLine == pos.line) = true) aR) (hs : autoParam (starEach [e] env = [(false, eval e env)]) aR) :
  Ev c l X env Γ (.Call (.Attribute o "count" apos) [e] [] pos) (.int (Txt.count x y)) := fun A s L G =>
 Call_method1 hbase hs hline (ho.use L G fun ov s1 p1 r1 G1 => by
  have hz := r1.str_inv; clear r1; obtain ⟨t⟩ := hz
  exact SB.count (he.use L G1 fun v s2 p2 r2 G2 => by
   have hz := r2.str_inv; clear r2; obtain ⟨u⟩ := hz
   exact ⟨y, u, rfl, (p1.trans p2).trans .tk, .int _ _⟩))
theorem nq : ∀ l : List (Str × Tok), RdL w X h (strValues l) ((l.map (·.1)).map .str)
 | [] => .nil
 | (x, t) :: r => .cons (.str x t) (nq r)
theorem Ev.Jr {x y : Str} (ho : Ev c l X env Γ o (.str x)) (he : Ev c l X env Γ e (.str y)) (hy : (y.length == 0) = false) (hx : x.length <= 1000) (hn : (Builtin.Str.partsBetween x (Builtin.Str.occurrences x y 0 x.length (x.length + 1)) y.length).length <= 10000) (hbase : autoParam (attributeBase o "split" env (eval o env) = eval o env) aR) (hline : autoParam ((apos.endLine == pos.line) = true) aR) (hs : autoParam (starEach [e] env = [(false, eval e env)]) aR) :
  Ev c l X env Γ (.Call (.Attribute o "split" apos) [e] [] pos) (.list ((Txt.split x y).map .str)) := fun A s L G => by
 refine gV PySem.F.plainAttrs_str PySem.F.slot_str_split PySem.F.type_str_split (ho.use L G fun ov s1 p1 r1 G1 => ?_) hbase hline hs
 have hz := r1.str_inv; clear r1; obtain ⟨t⟩ := hz
 refine ⟨typeIs_str _ _ _, (fun _ e => nomatch e), he.use L G1 fun v s2 p2 r2 G2 => ?_⟩
 have hz := r2.str_inv; clear r2; obtain ⟨u⟩ := hz
 have fin : ∀ (l : List (Str × Tok)) (k : Nat), l.map (·.1) = Txt.split x y -> Yield c X s (.list ((Txt.split x y).map .str)) (.ref s2.heap.objs.size) { s2 with toks := k, heap := s2.heap.push { cls := .type "list", data := .seq (strValues l).toArray } } := fun l k hl => by
  refine ⟨(p1.trans p2).trans ⟨_, k, .push _ _⟩, ?_⟩
  rw [<- hl]
  exact Rd.newList (c := c) (s := s2) G.bas.frs (fun a h => G2.bas.alloc a h) (nq l)
 cases h1 : (decide (x.length < y.length) || decide (Builtin.Str.strKind x < Builtin.Str.strKind y))
 ·cases hf : (Builtin.Str.occurrences x y 0 x.length (x.length + 1)).isEmpty
  ·refine call_meets PySem.F.slot_str_split (typeIs_str _ _ _) PySem.F.entry_str_split (PySem.F.args_str_split_2 _ _) (meets_str_split_sep x y t u h1 hy hf (by rw [sizeLine_eq]; omega) (by rw [sizeLine_eq]; omega)) ?_
   show Yield c X s _ _ _
   rw [strsFrom_eq]
   exact fin _ _ ((numbered_texts _ _).trans (((if_neg (ne_true_of_eq_false h1)).trans (if_neg (ne_true_of_eq_false hf))).symm))
  ·exact call_meets PySem.F.slot_str_split (typeIs_str _ _ _) PySem.F.entry_str_split (PySem.F.args_str_split_2 _ _) (meets_str_split_not_found x y t u h1 hy hf) (fin [(x, t)] s2.toks ((if_neg (ne_true_of_eq_false h1)).trans (if_pos hf)).symm)
 ·exact call_meets PySem.F.slot_str_split (typeIs_str _ _ _) PySem.F.entry_str_split (PySem.F.args_str_split_2 _ _) (meets_str_split_cannot_occur x y t u h1) (fin [(x, t)] s2.toks (if_pos h1).symm)
inductive LQ (xs : List Str) : List Value -> Prop
 | mk (l : List (Str × Tok)) (e : l.map (·.1) = xs) : LQ xs (strValues l)
theorem iR {xs : List Str} : ∀ {vs : List Value}, RdL w X h vs (xs.map .str) -> LQ xs vs := by
 induction xs with
 | nil => intro vs r; rw [r.nil_inv]; exact ⟨[], rfl⟩
 | cons x xs ih =>
  intro vs r
  obtain ⟨v, us, a, q⟩ := r.cons_inv
  obtain ⟨t⟩ := a.str_inv
  obtain ⟨l, e⟩ := ih q
  exact ⟨(x, t) :: l, congrArg (x :: ·) e⟩
theorem Ev.LR {x : Str} {xs : List Str} (ho : Ev c l X env Γ o (.str x)) (he : Ev c l X env Γ e (.list (xs.map .str))) (hok : JoinOk x xs = true) (hbase : autoParam (attributeBase o "join" env (eval o env) = eval o env) aR) (hline : autoParam ((apos.endLine == pos.line) = true) aR) (hs : autoParam (starEach [e] env = [(false, eval e env)]) aR) :
  Ev c l X env Γ (.Call (.Attribute o "join" apos) [e] [] pos) (.str (Txt.join x xs)) := fun A s L G =>
 Call_method1 hbase hs hline (ho.use L G fun ov s1 p1 r1 G1 => by
  have hz := r1.str_inv; clear r1; obtain ⟨t⟩ := hz
  exact SB.join (he.use L G1 fun v s2 p2 r2 G2 => by
    have hz := r2.aQ; clear r2; obtain ⟨a, vs, n, ha, e, q⟩ := hz
    obtain ⟨l, hl⟩ := iR q
    exact ⟨a, l, rfl, ⟨_, e, rfl, _, rfl⟩, xs, hl, hok, fun t' k => ⟨(p1.trans p2).trans ⟨_, k, .refl _⟩, .str _ _⟩⟩))
theorem aO.ofA {f : Addr} (h : FnA c l f ds [] fun d' L' => d' = d /\ L' = []) : aO c l (.ref f) ds d := fun A X s vs L B r => by
 refine wpAny_call (codeAny_mono (h A X s vs L B r ⟨(fun _ h => nomatch h), (fun _ h => nomatch h), .nil⟩) fun r s' hr => ?_)
 rcases r with e | fl
 ·exact hr.elim
 ·cases fl with
  | ret v =>
   obtain ⟨h', tk, d', L', rfl, ⟨rfl, rfl⟩, q, _, _, _, _, rv⟩ := hr
   exact ⟨⟨h', tk, q⟩, rv⟩
  | _ => exact hr.elim
section
variable {E : Err} 
theorem Ex1.Bt {h0 : ExceptHandler} (hbody : Ex K A s0 NoE Γ R Δ body O) : Ex1 K A s0 E Γ R Δ (.Try body (h0 :: hs) [] [] pos) O := fun s X S => by
 refine wpAny_Try_except (wM (hbody s X S) (fun f s1 hp => ?_) fun y s1 hp => hp.elim)
 cases f with
 | next => exact wpAny_execs_nil hp
 | brk => exact hp
 | cont => exact hp
 | ret v => exact hp
end
section
variable {E : Err} 
theorem Ex.set {x : Str} (h : EvS K A s0 E Γ R Δ e d) (k : Ex K A s0 E ((x, d) :: Γ1) R Δ ss O) (hx : autoParam (decide (x ∈ K.xs) = true) aK) (hΓ : autoParam (Γ.filter (fun p => p.1 != x) = Γ1) aK) (hR : autoParam (offB [x] (R.map (·.1)) = true) aK) (hs : autoParam (swapsWith e (some (.Name x px)) pos.line K.env = pure false) aR) :
  Ex K A s0 E Γ R Δ (.Assign [.Name x px] e pos :: ss) O :=
 Ex.seq (Ex1.assign h (of_decide_eq_true hx) (fun p hp e => by
  have := List.all_eq_true.mp hR p.1 (lM (f := (·.1)) hp)
  simp [e] at this) hs) (hΓ ▸ k)
theorem Ex.aug {x : Str} (hx : (x, d1) ∈ Γ) (h : ∀ X, Ev K.c K.l X K.env Γ e d2) (hp : P2 K.c (inplaceOp op) d1 d2 d) (k : Ex K A s0 E ((x, d) :: Γ1) R Δ ss O) (hxs : autoParam (decide (x ∈ K.xs) = true) aK) (hΓ : autoParam (Γ.filter (fun p => p.1 != x) = Γ1) aK) (hR : autoParam (offB [x] (R.map (·.1)) = true) aK) :
  Ex K A s0 E Γ R Δ (.AugAssign (.Name x px) op e pos :: ss) O :=
 Ex.seq (Ex1.aug hx h hp (of_decide_eq_true hxs) (fun p hp e => by
  have := List.all_eq_true.mp hR p.1 (lM (f := (·.1)) hp)
  simp [e] at this)) (hΓ ▸ k)
end
noncomputable def hB (b : Bool) : Int := if b then 1 else 0
noncomputable def kW (led b : Bool) : SetTable := (layNew (.fresh 0 0 led) #[] (hB b) (.bool b)).2.1
noncomputable abbrev Ma (es : Array (Int × Value)) (ep : Nat) (t : SetTable) : Obj := { cls := .type "set", dict := none, data := .set es ep t, slots := #[] }
noncomputable abbrev Gb (led : Bool) : Obj := Ma #[] 0 (.fresh 0 0 led)
noncomputable abbrev mj (led b : Bool) : Obj := Ma #[(hB b, .bool b)] 1 (kW led b)
theorem layB (led b : Bool) : layNew (.fresh 0 0 led) #[] (hB b) (.bool b) = (#[(hB b, .bool b)], kW led b, false, false) := by cases led <;> cases b <;> kernel_rfl
theorem cF (led b : Bool) : (kW led b).fits 1 = true := by cases led <;> cases b <;> kernel_rfl
theorem iT (led b : Bool) : (kW led b).plain = true := by cases led <;> cases b <;> kernel_rfl
theorem wR (led b : Bool) : (kW led b).led = led := by cases led <;> cases b <;> kernel_rfl
theorem Bu (led b : Bool) : (kW led b).tooFull = false := by cases led <;> cases b <;> kernel_rfl
theorem pZ (led b : Bool) : (kW led b).place = #[if b then 1 else 0] := by cases led <;> cases b <;> kernel_rfl
theorem lQ {Q : Int -> Shared -> Prop} (h : Q (hB b) { s with toks := s.toks + 1 }) : wpAny (model prog w) A (pyHash (.bool b)) Q E s := by
 have hT : s.TypeIs (.bool b) "bool" := rfl
 have e : hB b = (if b then 1 else 0 : Int) := rfl
 unfold pyHash
 refine wB ?_
 rw [cRoomFor, if_neg (by rw [show [Value.bool b].any Value.onHeap = false from rfl]; exact Bool.false_ne_true)]; refine wP ?_
 refine wB (wpAny_specialOf hT PySem.F.slot_bool_hash.lookup ?_)
 show wpAny _ _ (if (some (Value.builtin "int.__hash__") == some Value.none) = true then _ else _) Q E s
 rw [if_neg (by rw [beq_builtin_none]; exact Bool.false_ne_true)]
 refine wB (wpAny_specialOf hT PySem.F.slot_bool_hash.lookup ?_)
 show wpAny _ _ (callSpecialIfBoundUnlessNone? (.bool b) "__hash__" _ >>= _) Q E s
 refine wB (wpAny_callSpecialIfBoundUnlessNone?_slot hT PySem.F.slot_bool_hash
  (wpAny_call_entry PySem.F.slot_bool_hash hT entry_int_hash
   (show wpAny _ _ (do ret (<- mkInt (rawHash (if b then 1 else 0)))) _ _ s from wpAny_ret_mkInt ?_) (args_int_hash _)))
 have e2 : rawHash (if b then 1 else 0) = hB b := by cases b <;> decide +kernel
 rw [e2]
 show wpAny _ _ (if (decide (-(2 : Int) ^ 63 <= hB b) && decide (hB b < 2 ^ 63)) = true then _ else _) Q E _
 rw [if_pos (by cases b <;> decide)]
 have e3 : (if hB b == -1 then -2 else hB b) = hB b := by cases b <;> decide
 first
  | exact wP h
  | (rw [e3]; exact wP h)
theorem za (ho : s.heap.get? a = some (Gb led)) (h : ∀ h', Heap.SameBut a s.heap h' -> h'.get? a = some (mj led b) -> Q .none { s with heap := h', toks := s.toks + 1 }) :
  wpAny (model prog w) A (call (.builtin "set.add") [.ref a, .bool b]) Q E s := by
 have hT : s.TypeIs (.ref a) "set" := ⟨_, ho, rfl⟩
 refine wpAny_call_entry PySem.F.slot_set_add hT PySem.F.entry_set_add ?_ (PySem.F.args_set_add_2 _ _)
 unfold Builtin.«set.add» Builtin.Frozenset.oneOther
 simp only [List.isEmpty_nil, bind_assoc]
 unfold Builtin.Frozenset.addrOf setAdd
 refine wB (wP ?_)
 try dsimp only
 refine wB (wP ?_)
 try dsimp only
 refine wB ?_
 refine wpAny_holding ?_
 refine wB (lQ ?_)
 unfold setAddHashed setAddHashedIn
 refine wpAny_holding (wB (wpAny_setState_of (s := { s with toks := s.toks + 1 }) ho rfl (by kernel_rfl) ?_))
 dsimp only
 rw [if_pos (show byScan (.bool b) #[] = true by cases b <;> decide +kernel)]
 unfold setAddByScan
 refine wB (wB (wpAny_rule ?_))
 refine wB (wP ?_)
 dsimp only
 refine wB (wP ?_)
 rw [layB]
 dsimp only
 rw [iT]
 refine wB (wP ?_)
 simp only [↓reduceIte]
 refine wB (wpAny_storeSet_of ho rfl ?_ (by show 1 <= sizeLine; rw [sizeLine_eq]; omega))
 simp only [Bu, Bool.not_false, Bool.and_false, Bool.false_eq_true, ↓reduceIte]
 refine wP (wP ?_)
 exact wP ⟨_, rfl, h _ (Heap.SameBut.update ..) (by
  have := Heap.get?_update_self (Obj.putSet #[(hB b, .bool b)] (kW led b)) ho (by rfl)
  exact this)⟩
theorem s7 {Q : Bool -> Shared -> Prop} (h : Q true s) : wpAny (model prog w) A (eqBool (.bool b) (.bool b)) Q E s := by
 unfold eqBool
 show wpAny _ _ (if (Value.bool b == Value.bool b) = true then _ else _) Q E s
 rw [if_pos (by simp)]
 exact wB (wpAny_rule (wP h))
theorem zc (ho : s.heap.get? a = some (mj led b)) (h : Q .none { s with toks := s.toks + 1 }) :
  wpAny (model prog w) A (call (.builtin "set.add") [.ref a, .bool b]) Q E s := by
 have hT : s.TypeIs (.ref a) "set" := ⟨_, ho, rfl⟩
 refine wpAny_call_entry PySem.F.slot_set_add hT PySem.F.entry_set_add ?_ (PySem.F.args_set_add_2 _ _)
 unfold Builtin.«set.add» Builtin.Frozenset.oneOther
 simp only [List.isEmpty_nil, bind_assoc]
 unfold Builtin.Frozenset.addrOf setAdd
 refine wB (wP ?_)
 try dsimp only
 refine wB (wP ?_)
 try dsimp only
 refine wB ?_
 refine wpAny_holding ?_
 refine wB (lQ ?_)
 unfold setAddHashed setAddHashedIn
 refine wpAny_holding (wB (wpAny_setState_of (s := { s with toks := s.toks + 1 }) ho rfl (cF led b) ?_))
 dsimp only
 rw [if_pos (show byScan (.bool b) #[(hB b, .bool b)] = true by cases b <;> decide +kernel)]
 unfold setAddByScan
 refine wB (wB (wpAny_rule ?_))
 show wpAny _ _ (setScanFrom a (.bool b) (hB b) true [(hB b, .bool b)] 0 >>= _) _ _ _
 refine wB ?_
 unfold setScanFrom
 rw [if_pos (by simp)]
 refine wB (wpAny_setEpoch_of (s := { s with toks := s.toks + 1 }) ho rfl (cF led b) ?_)
 refine wB (s7 ?_)
 simp only [Bool.and_true, ↓reduceIte]
 refine wP ?_
 dsimp only
 refine wP ?_
 dsimp only
 refine wP ?_
 exact wP ⟨_, rfl, h⟩
noncomputable def cG (w : World) : Bool := !(w.params.followText "set-order")
theorem vC (h : Q (.ref s.heap.objs.size) { s with heap := s.heap.push (Gb (cG w)) }) : wpAny (model prog w) A (newSet (.type "set")) Q E s := by
 unfold newSet setsByText
 refine wB (wB (wpAny_askSetting (wP ?_)))
 dsimp only
 simp only [newObj]
 exact wB (wpAny_alloc (wP h))
theorem dF : Slot "set_iterator" "__next__" "set_iterator.__next__" :=
 .of (owner := "set_iterator") (n := "__next__") (by rw [typeLookup_type, builtinLookup_eq_fast]; kernel_rfl) (by decide +kernel) (by decide +kernel) (by decide +kernel)
  (by first | exact .inl (by decide +kernel) | exact .inr (by decide +kernel)) (by rw [isSubtype_type]; kernel_rfl)
theorem jg : entryFor table "set_iterator.__next__" = some Builtin.«set_iterator.__next__» := entryFor_of_tree (by kernel_rfl)
theorem Bv : Manifest.owners.lookup (String.ofList "rotareti_tes".toList.reverse) = some Manifest.sig_set_iterator := by kernel_rfl
theorem jM (a : Value) : argsOk "set_iterator.__next__" ⟨[a], []⟩ := by
 unfold argsOk; rw [signature?_of (id := "set_iterator.__next__") (n := "__txen__".toList) (o := "rotareti_tes".toList) (by kernel_rfl) Bv]; kernel_rfl
theorem nu : entryFor table "set.__iter__" = some Builtin.«frozenset.__iter__» :=
 entryFor_alias (id' := "frozenset.__iter__") (by kernel_rfl) rfl (by decide +kernel) (by kernel_rfl)
noncomputable abbrev siO (k i : Nat) (a : Addr) : Obj := { cls := .type "set_iterator", dict := none, data := .fields #[.int k 0, .int i 0, .ref a, .int 1 0, .int 1 0], slots := #[] }
theorem zf (ho : s.heap.get? a = some (mj led b)) (h : Q (.ref s.heap.objs.size) { s with heap := s.heap.push (siO 0 0 a) }) : wpAny (model prog w) A (pyIter (.ref a)) Q E s := by
 have hT : s.TypeIs (.ref a) "set" := ⟨_, ho, rfl⟩
 refine wpAny_pyIter_slot hT PySem.F.slot_set_iter (wpAny_call_entry PySem.F.slot_set_iter hT nu ?_ (PySem.F.args_set_iter_1 _))
 unfold Builtin.«frozenset.__iter__» Builtin.Frozenset.slot0 slotArgs
 simp only [List.isEmpty_nil, Bool.not_true, Bool.false_eq_true, ↓reduceIte, bind_assoc, List.length_nil, bne_self_eq_false]
 unfold Builtin.Frozenset.addrOf Builtin.Frozenset.sizeOf
 refine wB (wP ?_)
 try dsimp only
 refine wB (wP ?_)
 refine wB (wB (wpAny_setEntries_of ho rfl (cF led b) (wP ?_)))
 unfold setDrawn
 refine wB (wB (wpAny_setState_of ho rfl (cF led b) ?_))
 dsimp only
 unfold setsByText
 refine wB (wB (wpAny_askSetting (wP ?_)))
 refine wP ?_
 show wpAny _ A.in1 (if (!(w.params.followText "set-order") && (!(kW led b).plain && decide ((#[(hB b, Value.bool b)] : Array (Int × Value)).size > 1))) = true then _ else _) _ E s
 rw [iT, if_neg (by cases w.params.followText "set-order" <;> exact Bool.false_ne_true)]
 refine wB (wP ?_)
 refine wB (wpAny_setEpoch_of ho rfl (cF led b) ?_)
 exact wB (wpAny_newObj_type (wP ⟨_, rfl, "set_iterator", _, ⟨_, hP _ rfl, rfl⟩, dF.lookup, h⟩))
theorem Ij (f : Nat -> Nat) (x : α) : pickOrder f #[x] = #[x] := by
 simp [pickOrder, pickOrder.go, Nat.mod_one]
theorem Mf {Q : Option (Value × Nat) -> Shared -> Prop} (hl : led = cG w) (ho : s.heap.get? a = some (mj led b)) (h : ∀ k, (k = 0 /\ cG w = false \/ k = (if b then 1 else 0) + 1 /\ cG w = true) -> Q (some (.bool b, k)) s) : wpAny (model prog w) A (setNext a 0 0 1) Q E s := by
 unfold setNext
 refine wB (wpAny_setState_of ho rfl (cF led b) ?_)
 dsimp only
 unfold setsByText
 refine wB (wB (wpAny_askSetting (wP ?_)))
 show wpAny _ A (if w.params.followText "set-order" = true then _ else _) Q E s
 cases ht : w.params.followText "set-order" with
 | true =>
  rw [if_pos rfl, if_neg (by decide)]
  refine wB ?_
  unfold setWalk setsByText
  refine wB (wpAny_setState_of ho rfl (cF led b) ?_)
  dsimp only
  refine wB (wB (wpAny_askSetting (wP ?_)))
  show wpAny _ A (if w.params.followText "set-order" = true then _ else _) _ E s
  rw [if_pos ht]
  refine wB (wpAny_askSetting (wP ?_))
  refine wP ?_
  rw [Ij]
  exact h 0 (.inl ⟨rfl, by unfold cG; rw [ht]; rfl⟩)
 | false =>
  have hlt : cG w = true := by unfold cG; rw [ht]; rfl
  rw [if_neg (by decide)]
  show wpAny _ A (if (!(kW led b).plain && decide ((#[(hB b, Value.bool b)] : Array (Int × Value)).size > 1)) = true then _ else _) Q E s
  rw [iT, if_neg (show ¬ ((!true && decide ((#[(hB b, Value.bool b)] : Array (Int × Value)).size > 1)) = true) from Bool.false_ne_true)]
  refine wB ?_
  show wpAny _ A (if (!(kW led b).led && !(#[(hB b, Value.bool b)] : Array (Int × Value)).isEmpty) = true then _ else _) _ E s
  rw [wR, hl, hlt, if_neg (show ¬ ((!true && !(#[(hB b, Value.bool b)] : Array (Int × Value)).isEmpty) = true) from Bool.false_ne_true)]
  refine wP ?_
  rw [pZ]
  refine wP ?_
  have := h ((if b then 1 else 0) + 1) (.inr ⟨rfl, hlt⟩)
  cases b <;> exact this
theorem Mg {k : Nat} {Q : Option (Value × Nat) -> Shared -> Prop} (hl : led = cG w) (ho : s.heap.get? a = some (mj led b)) (hk : k = 0 /\ cG w = false \/ k = (if b then 1 else 0) + 1 /\ cG w = true) (h : Q none s) : wpAny (model prog w) A (setNext a k 1 1) Q E s := by
 unfold setNext
 refine wB (wpAny_setState_of ho rfl (cF led b) ?_)
 dsimp only
 unfold setsByText
 refine wB (wB (wpAny_askSetting (wP ?_)))
 show wpAny _ A (if w.params.followText "set-order" = true then _ else _) Q E s
 cases ht : w.params.followText "set-order" with
 | true =>
  rw [if_pos rfl, if_neg (by decide)]
  refine wB ?_
  unfold setWalk setsByText
  refine wB (wpAny_setState_of ho rfl (cF led b) ?_)
  dsimp only
  refine wB (wB (wpAny_askSetting (wP ?_)))
  show wpAny _ A (if w.params.followText "set-order" = true then _ else _) _ E s
  rw [if_pos ht]
  refine wB (wpAny_askSetting (wP ?_))
  refine wP ?_
  rw [Ij]
  exact h
 | false =>
  have hlt : cG w = true := by unfold cG; rw [ht]; rfl
  rw [if_neg (by decide)]
  show wpAny _ A (if (!(kW led b).plain && decide ((#[(hB b, Value.bool b)] : Array (Int × Value)).size > 1)) = true then _ else _) Q E s
  rw [iT, if_neg (show ¬ ((!true && decide ((#[(hB b, Value.bool b)] : Array (Int × Value)).size > 1)) = true) from Bool.false_ne_true)]
  refine wB ?_
  show wpAny _ A (if (!(kW led b).led && !(#[(hB b, Value.bool b)] : Array (Int × Value)).isEmpty) = true then _ else _) _ E s
  rw [wR, hl, hlt, if_neg (show ¬ ((!true && !(#[(hB b, Value.bool b)] : Array (Int × Value)).isEmpty) = true) from Bool.false_ne_true)]
  refine wP ?_
  rw [pZ]
  refine wP ?_
  rcases hk with ⟨_, hk⟩ | ⟨rfl, _⟩
  ·rw [hlt] at hk; cases hk
  ·cases b <;> exact h
theorem Gd {Q : Option Value -> Shared -> Prop} (hl : led = cG w) (hi : s.heap.get? it = some (siO 0 0 a)) (ho : s.heap.get? a = some (mj led b)) (hne : a ≠ it)
  (h : ∀ k h', (k = 0 /\ cG w = false \/ k = (if b then 1 else 0) + 1 /\ cG w = true) -> Heap.SameBut it s.heap h' -> h'.get? it = some (siO k 1 a) -> Q (some (.bool b)) { s with heap := h' }) : wpAny (model prog w) A (pyNext (.ref it)) Q E s := by
 have hT : s.TypeIs (.ref it) "set_iterator" := ⟨_, hi, rfl⟩
 unfold pyNext
 refine wB (wpAny_attempt (wpAny_callSpecial?_slot (name := Str.ofString "__next__") hT dF (wpAny_call_entry dF hT jg ?_ (jM _))))
 show wpAny _ _ (fieldsOf (.ref it) >>= _) _ _ s
 refine wB (wpAny_fieldsOf hi rfl ?_)
 show wpAny _ _ (setEntries a >>= _) _ _ s
 refine wB (wpAny_setEntries_of ho rfl (cF led b) ?_)
 rw [if_neg (show ¬ ((((#[(hB b, Value.bool b)] : Array (Int × Value)).size : Int) != 1) = true) from by simp)]
 show wpAny _ _ (setNext a 0 0 1 >>= _) _ _ s
 refine wB (Mf hl ho fun k hk => ?_)
 dsimp only
 have u1 : (s.heap.update it (Obj.mapFields (·.setIfInBounds 0 (rawInt k)))).get? it = some (siO k 0 a) := by
  have := Heap.get?_update_self (Obj.mapFields (·.setIfInBounds 0 (rawInt k))) hi (by rfl)
  exact this
 refine wB (wpAny_setField hi rfl (by simp) ?_)
 refine wB (wpAny_setField (s := { s with heap := s.heap.update it (Obj.mapFields (·.setIfInBounds 0 (rawInt k))) }) u1 rfl (by simp) ?_)
 refine wP ⟨_, rfl, wP (h k _ hk ((Heap.SameBut.update ..).trans (Heap.SameBut.update ..)) ?_)⟩
 have := Heap.get?_update_self (Obj.mapFields (·.setIfInBounds 1 (rawInt (((0 : Nat) : Int) + 1)))) u1 (by rfl)
 exact this
theorem Ge {k : Nat} {Q : Option Value -> Shared -> Prop} (hh : A.handled = none) (hl : led = cG w) (hi : s.heap.get? it = some (siO k 1 a)) (ho : s.heap.get? a = some (mj led b)) (hk : k = 0 /\ cG w = false \/ k = (if b then 1 else 0) + 1 /\ cG w = true)
  (h : ∀ h', Heap.ExtBut it s.heap h' -> Q none { s with heap := h' }) : wpAny (model prog w) A (pyNext (.ref it)) Q E s := by
 have hT : s.TypeIs (.ref it) "set_iterator" := ⟨_, hi, rfl⟩
 unfold pyNext
 refine wB (wpAny_attempt (wpAny_callSpecial?_slot (name := Str.ofString "__next__") hT dF (wpAny_call_entry dF hT jg ?_ (jM _))))
 show wpAny _ _ (fieldsOf (.ref it) >>= _) _ _ s
 refine wB (wpAny_fieldsOf hi rfl ?_)
 show wpAny _ _ (setEntries a >>= _) _ _ s
 refine wB (wpAny_setEntries_of ho rfl (cF led b) ?_)
 rw [if_neg (show ¬ ((((#[(hB b, Value.bool b)] : Array (Int × Value)).size : Int) != 1) = true) from by simp)]
 show wpAny _ _ (setNext a k 1 1 >>= _) _ _ s
 refine wB (Mg hl ho hk ?_)
 dsimp only
 refine wB (wpAny_setField hi rfl (by simp) ?_)
 show wpAny _ _ (newExc (.type "StopIteration") [] >>= _) _ _ _
 refine wB ?_
 simp only [newExc, newTuple]
 refine wB (wpAny_newObj_type ?_ (by size_fits))
 refine wB (m := firstArgMember _ _) (wpAny_of_eq (a := Value.none) (by first | rfl | (simp only [firstArgMember]; rfl)) ?_)
 refine wpAny_newObj_type ?_ (by size_fits)
 simp only [raiseNew]
 refine wB (wpAny_handled ?_)
 first | rw [show A.in1.handled = none from hh] | rw [hh]
 refine wB (wP (wpAny_throw ?_))
 refine wB (wpAny_isInstance (T := "StopIteration") (b := true) ⟨_, hP _ rfl, rfl⟩ isSubtype_stop ?_)
 exact wP (h _ (((Heap.SameBut.update ..).extBut.push _).push _))
theorem s8 {Q : List Value -> Shared -> Prop} (hh : A.handled = none) (hl : led = cG w) (ho : s.heap.get? a = some (mj led b)) (h : ∀ h', (∀ c o, s.heap.get? c = some o -> h'.get? c = some o) -> Q [.bool b] { s with heap := h' }) : wpAny (model prog w) A (unpackItems (.ref a) 1 none) Q E s := by
 have hT : s.TypeIs (.ref a) "set" := ⟨_, ho, rfl⟩
 have hlt : a ≠ s.heap.objs.size := Nat.ne_of_lt (Heap.lt_size ho)
 unfold unpackItems
 refine wB ?_
 unfold notIterableAtAll
 refine wB (wpAny_specialOf hT PySem.F.slot_set_iter.lookup ?_)
 refine wP ?_
 simp only [Bool.false_eq_true, if_false]
 refine wB (wpAny_holding (zf ho ?_))
 have g0 : (s.heap.push (siO 0 0 a)).get? s.heap.objs.size = some (siO 0 0 a) := hP _ rfl
 have g1 : (s.heap.push (siO 0 0 a)).get? a = some (mj led b) := Heap.get?_push_of_some _ ho
 refine wB (wpAny_holding ?_)
 show wpAny _ A (pyNext (.ref s.heap.objs.size) >>= _) _ _ _
 refine wB (Gd (s := { s with heap := s.heap.push (siO 0 0 a) }) hl g0 g1 hlt fun k h1 hk hs1 hi1 => ?_)
 dsimp only
 refine wB (wpAny_holding (wP (wP ?_)))
 rw [if_neg (by simp)]
 have g2 : h1.get? a = some (mj led b) := by rw [hs1.2 a hlt]; exact g1
 refine wB (wpAny_holding (Ge (s := { s with heap := h1 }) hh hl hi1 g2 hk fun h2 he => ?_))
 simp only [Option.isSome_none, Bool.false_eq_true, if_false]
 refine wP (h h2 fun c o e => ?_)
 have hc : c ≠ s.heap.objs.size := Nat.ne_of_lt (Heap.lt_size e)
 exact he c o hc (by rw [hs1.2 c hc]; exact Heap.get?_push_of_some _ e)
noncomputable def AIS (c : Cfg) (b : Bool) (D : Addr) (i : Nat) (h : Heap) : Prop := (i = 0 /\ h.get? D = some (Gb (cG c.w))) \/ (0 < i /\ h.get? D = some (mj (cG c.w) b))
theorem AIS.alive (a : AIS c b D i h) : ∃ o, h.get? D = some o := by
 rcases a with ⟨_, e⟩ | ⟨_, e⟩ <;> exact ⟨_, e⟩
theorem Bw {xs : List Str} (P : Plc c X XL N D env) (h1 : Ev c l XL env Γ' elt (.bool b)) (hs : ∀ p ∈ Γ, p ∈ Γ') (L : Lev l A) (G : Good c A XL env Γ' s.heap) (a : AIS c b D i s.heap) (T : TG env N xs s.heap) :
  wpAny c.M A (v7 elt (.ref D) env) (fun _ s' => fB c A XL [D] N env Γ xs (AIS c b D (i + 1)) s s') NoE s := by
 unfold v7
 refine wB (h1.use L G fun v s1 p1 r1 G1 => wB (wpAny_standAt ?_))
 rw [r1.bool_inv]
 obtain ⟨h2, tk2, q2⟩ := p1
 have ex : ∀ o, s.heap.get? D = some o -> h2.get? D = some o := fun o e => q2.exact (fun z => nomatch z) P.acc.2.1 e
 have T2 : TG env N xs h2 := T.hx q2 (fun z => nomatch z) fun _ _ z => nomatch z
 rcases a with ⟨_, e⟩ | ⟨_, e⟩
 ·refine wB (za (ex _ e) fun h' hs' e' => wP ?_)
  have q3 : HX c [D] h2 h' := .sameBut hs' P.acc.2.2.1 P.acc.2.1
  obtain ⟨G3, T3⟩ := P.after q3 G1 ⟨_, e'⟩ T2
  exact ⟨h', _, (q2.mono fun _ z => nomatch z).trans q3, .inr ⟨Nat.succ_pos _, e'⟩, G3.sub hs, T3⟩
 ·refine wB (zc (ex _ e) (wP ?_))
  exact ⟨h2, _, (q2.mono fun _ z => nomatch z), .inr ⟨Nat.succ_pos _, ex _ e⟩, G1.sub hs, T2⟩
noncomputable def Gf (c : Cfg) (l : Nat) (X : List Addr) (env : Env) (Γ : Gam) (e : Expr) (b : Bool) : Prop :=
 ∀ A s, Lev l A -> Good c A X env Γ s.heap -> wpAny c.M A (eval e env) (fun v s' => Pst c s s' /\ ∃ D, v = .ref D /\ s.heap.get? D = none /\ s'.heap.get? D = some (mj (cG c.w) b)) NoE s
theorem Gf.comp {x : Str} (hne : ds ≠ []) (hI : EvI c l X env Γ false iter ds) (hc : Cap env scope Γ Γc)
  (he : ∀ cs C XL, ∀ d ∈ ds, Ev c l XL (aq scope cs C env) ((x, d) :: Γc) elt (.bool b)) (hs : autoParam (scB env scope = true) aK) (ht : autoParam (tgB scope [x] = true) aK) (ho : autoParam (offB [x] (Γc.map (·.1)) = true) aK)
  (hd : autoParam ((x == ("__debug__" : Str)) = false) aK) (hfold : autoParam (∀ x, foldedSetIterable iter env x = pure x) aI) : Gf c l X env Γ (.SetComp elt [⟨.Name x p, iter, [], 0⟩] scope pos) b := fun A s L G => by
 show wpAny c.M A (comprehension (.SetComp elt [⟨.Name x p, iter, [], 0⟩] scope pos) scope env (firstIterPos [⟨.Name x p, iter, [], 0⟩] pos) (newSet (.type "set")) false (eval iter env) none) _ NoE s
 refine fK (e := .SetComp elt [⟨.Name x p, iter, [], 0⟩] scope pos) (use := none) (l := l) (newAcc := newSet (.type "set")) (acc0 := Gb (cG c.w)) (body := fun acc cenv => v7 elt acc cenv) (AI := fun D XL i h => AIS c b D i h) (xs := [x]) (xs1 := [x]) (bs := fun _ => true) (rest := []) (Γd := fun d => [(x, d)]) rfl hfold
  (fun A s E Q h => vC h) rfl (fun D it cenv => ?_) (fun _ _ _ => rfl) (fun _ _ _ => rfl) (fun _ _ _ _ => rfl) (fun _ _ _ _ => rfl) hI (fun d _ => .name hd) (fun x h => h) .name (fY.of hs) hc (lJ ht) (bC ho) (fun cs C XL _ d hd => .nil)
  (fun D XL h _ e => .inl ⟨rfl, e⟩) (fun D XL i h h' Y a q hF hy => ?_) (fun D XL i h a => a.alive)
  (fun cs C XL N D P A s i d L hd hbs G a T => wK (Bw P (Γ := Γc) (he cs C XL d (lG hd)) (fun p hp => .tail _ hp) L G a T) (fun _ s' hr => hr.to (fun y hy => lS hy ▸ .head _) fun _ z => z))
  (fun D XL i d h hd hbs a => by cases hbs) L G (fun s5 D XL C p hX hD hC hDX hCX hCD hF ai hm => ?_)
 ·show (compTurn _ 0 it (.ref D) cenv).onRaise _ = _
  rw [Aa]
 ·have ex : ∀ o, h.get? D = some o -> h'.get? D = some o := fun o e => q.exact (fun z => (hy _ z).2 rfl) (fun z => (hF _ z).2 rfl) e
  rcases a with ⟨i0, e⟩ | ⟨i0, e⟩
  ·exact .inl ⟨i0, ex _ e⟩
  ·exact .inr ⟨i0, ex _ e⟩
 ·obtain ⟨m, hm⟩ := hm
  refine ⟨m, hm, fun h6 hs6 => ?_⟩
  have q6 : HX c [C] s5.heap h6 := .sameBut hs6 (j4 G.bas hC) fun z => (hF C z).2.2 rfl
  obtain ⟨h5, tk5, q5⟩ := p
  have q06 : HX c [] s.heap h6 := q5.young q6 fun a ha => (by rw [lS ha]; exact hC)
  rcases ai with ⟨i0, e⟩ | ⟨_, e⟩
  ·exact absurd (List.length_eq_zero_iff.mp i0) hne
  ·exact ⟨⟨h6, tk5, q06⟩, D, rfl, hD, q6.exact (fun z => hCD (lS z).symm) (fun z => (hF D z).2.1 rfl) e⟩
section
variable {E : Err} 
theorem Ex.Gg {x : Str} {k : Nat} (h : ∀ X, Gf K.c K.l X K.env Γ e b) (kk : Ex K A s0 E ((x, .bool b) :: Γ) R Δ ss O) (hx : autoParam (decide (x ∈ K.xs) = true) aK) (hΓ : autoParam (offB [x] (Γ.map (·.1)) = true) aK) (hR : autoParam (offB [x] (R.map (·.1)) = true) aK)
  (hs : autoParam (swapsWithSole [.Tuple [.Name x px] k tpos] e pos.line K.env = pure false) aR) (hw : autoParam (swappedStores [.Tuple [.Name x px] k tpos] e K.env = pure none) aR) :
  Ex K A s0 E Γ R Δ (.Assign [.Tuple [.Name x px] k tpos] e pos :: ss) O := fun s X S => by
 have e1 : Γ.filter (fun p => p.1 != x) = Γ := bM fun p hp e => bC hΓ p hp (e ▸ .head _)
 refine wpAny_execs_cons (Assign_Tuple (bk (wK (h X A s S.lev S.good) (fun v s1 q => ?_))) hs hw)
 obtain ⟨p, D, rfl, hD, hset⟩ := q
 have S1 := S.pst p
 rw [arm_assign_Tuple]
 refine wB (wpAny_standAt ?_)
 show wpAny K.c.M A (unpack (.ref D) [(false, assign (.Name x px) K.env)]) _ E s1
 unfold unpack
 refine wB (wpAny_holding ?_)
 show wpAny K.c.M A (unpackItems (.ref D) 1 none) _ E s1
 refine s8 S1.good.bas.handled rfl hset fun h2 hk => ?_
 have S2 : Sat K X Γ R Δ A s0 { s1 with heap := h2 } := S1.pst ⟨h2, s1.toks, .cP hk⟩
 show wpAny K.c.M A (do holding [.bool b] (assign (.Name x px) K.env (.bool b)); assignInOrder [] []) _ E _
 refine wB (wpAny_holding (wpAny_assign_Name (S2.assign (of_decide_eq_true hx) (neR hR) (.bool b) fun s3 S3 => wP ?_)))
 rw [e1] at S3
 exact kk s3 _ S3
end
theorem oU : Slot "map" "__init__" "object.__init__" :=
 .of (owner := "object") (n := "__init__") (by rw [typeLookup_type, builtinLookup_eq_fast]; kernel_rfl) (by decide +kernel) (by decide +kernel) (by decide +kernel)
  (by first | exact .inl (by decide +kernel) | exact .inr (by decide +kernel)) (by rw [isSubtype_type]; kernel_rfl)
theorem cR : Slot "map" "__next__" "map.__next__" :=
 .of (owner := "map") (n := "__next__") (by rw [typeLookup_type, builtinLookup_eq_fast]; kernel_rfl) (by decide +kernel) (by decide +kernel) (by decide +kernel)
  (by first | exact .inl (by decide +kernel) | exact .inr (by decide +kernel)) (by rw [isSubtype_type]; kernel_rfl)
theorem jh : Slot "map" "__iter__" "map.__iter__" :=
 .of (owner := "map") (n := "__iter__") (by rw [typeLookup_type, builtinLookup_eq_fast]; kernel_rfl) (by decide +kernel) (by decide +kernel) (by decide +kernel)
  (by first | exact .inl (by decide +kernel) | exact .inr (by decide +kernel)) (by rw [isSubtype_type]; kernel_rfl)
theorem gY : entryFor table "map.__next__" = some Builtin.«map.__next__» := entryFor_of_tree (by kernel_rfl)
theorem nA : entryFor table "map.__iter__" = some Builtin.«dict_keyiterator.__iter__» :=
 entryFor_alias (id' := "dict_keyiterator.__iter__") (by kernel_rfl) (by first | rfl | decide +kernel | (unfold String.splitOn; simp +decide [String.splitOnAux])) (by decide +kernel) (by kernel_rfl)
theorem qb : Manifest.owners.lookup (String.ofList "pam".toList.reverse) = some Manifest.sig_map := by kernel_rfl
theorem ji (a : Value) : argsOk "map.__next__" ⟨[a], []⟩ := by
 unfold argsOk; rw [signature?_of (id := "map.__next__") (n := "__txen__".toList) (o := "pam".toList) (by kernel_rfl) qb]; kernel_rfl
theorem oV (a : Value) : argsOk "map.__iter__" ⟨[a], []⟩ := by
 unfold argsOk; rw [signature?_of (id := "map.__iter__") (n := "__reti__".toList) (o := "pam".toList) (by kernel_rfl) qb]; kernel_rfl
theorem wU : mroOf (.type "map") = pure [.type "map", .type "object"] := by rw [mroOf_type]; kernel_rfl
theorem nC : typeLookup (.type "map") "__new__" = pure (some (.builtin "map.__new__")) := by rw [typeLookup_type, builtinLookup_eq_fast]; kernel_rfl
theorem vD : TypeCalled "map" "map.__new__" "object.__init__" :=
 ⟨by decide +kernel, by decide +kernel, ⟨_, _, wU⟩, madeBy_type wU nC (by decide +kernel), by decide +kernel, by rw [isSubtype_type]; kernel_rfl, oU⟩
theorem nD (a b : Value) : checkTypeCall "map" ⟨[a, b], []⟩ = pure () := by kernel_rfl
theorem oW (a b : Value) : checkBuiltinCall "map.__new__" ⟨[.type "map", a, b], []⟩ = pure () := by kernel_rfl
theorem oX : entryFor table "map.__new__" = some Builtin.«map.__new__» := entryFor_of_tree (by kernel_rfl)
theorem Gh : isSubtype (.type "map") (.type "map") = pure true := by rw [isSubtype_type]; kernel_rfl
noncomputable abbrev nF (T : Addr) (fv : Value) : Obj := { cls := .type "map", dict := none, data := .fields #[.ref T, fv], slots := #[] }
noncomputable abbrev tu (I : Addr) : Obj := { cls := .type "tuple", dict := none, data := .seq #[.ref I], slots := #[] }
noncomputable abbrev wV (h : Heap) (l : Addr) : Heap := h.push { cls := .type "list_iterator", data := .fields #[.ref l, .int 0 0] }
noncomputable abbrev wW (h : Heap) (l : Addr) : Heap := (wV h l).push (tu h.objs.size)
noncomputable abbrev wX (h : Heap) (l : Addr) (fv : Value) : Heap := (wW h l).push (nF (wV h l).objs.size fv)
theorem oY (fv : Value) (l : Addr) (xs : Array Value) : Meets (Builtin.«map.__new__» ⟨[.type "map", fv, .ref l], []⟩) (fun _ R s => s.heap.IsList l xs /\ R (.ok (.ret (.ref (wW s.heap l).objs.size))) { s with heap := wX s.heap l fv }) :=
 .of_wp fun prog w A R s h => by
  obtain ⟨hp, g, d, tk, os⟩ := s; obtain ⟨hl1, h⟩ := h
  have hsub := Gh
  have hL1 : Heap.IsList (Shared.heap ⟨hp, g, d, tk, os⟩) l xs := hl1
  wp_walk using wpAny_pyIter_list hL1
  exact ⟨_, rfl, h⟩
theorem Bx {l : Addr} {xs : Array Value} (hl : s.heap.IsList l xs)
  (h : ∀ h', h'.get? (s.heap.objs.size + 2) = some (nF (s.heap.objs.size + 1) fv) -> h'.get? (s.heap.objs.size + 1) = some (tu s.heap.objs.size) -> h'.IsListIter s.heap.objs.size l 0 -> (∀ c o, s.heap.get? c = some o -> h'.get? c = some o) -> Q (.ref (s.heap.objs.size + 2)) { s with heap := h' }) :
  wpAny (model prog w) A (call (.type "map") [fv, .ref l]) Q E s := by
 refine callType_new vD (by decide) (nD _ _) (oW _ _) (fun obj => PySem.F.args_object_init_3 obj _ _) oX (oY fv l xs) ⟨hl, ?_⟩
 have z1 : (wV s.heap l).objs.size = s.heap.objs.size + 1 := Heap.size_push ..
 have z2 : (wW s.heap l).objs.size = s.heap.objs.size + 2 := by rw [Heap.size_push, z1]
 have g3 : (wX s.heap l fv).get? (wW s.heap l).objs.size = some _ := hP _ rfl
 have g2 : (wX s.heap l fv).get? (wV s.heap l).objs.size = some _ := Heap.get?_push_of_some _ (hP _ rfl)
 have g1 : (wX s.heap l fv).get? s.heap.objs.size = some _ := Heap.get?_push_of_some _ (Heap.get?_push_of_some _ (hP _ rfl))
 show _ /\ _
 rw [z1, z2] at g3
 rw [z1] at g2
 rw [z2]
 exact ⟨⟨_, g3, rfl⟩, h _ g3 g2 ⟨_, g1, rfl, rfl⟩ fun c o x => Heap.get?_push_of_some _ (Heap.get?_push_of_some _ (Heap.get?_push_of_some _ x))⟩
theorem oZ {m l : Addr} {xs : Array Value} {x : Value} {Q : Option Value -> Shared -> Prop} (hm : s.heap.get? m = some (nF T fv)) (hT : s.heap.get? T = some (tu I)) (hi : s.heap.IsListIter I l i) (hl : s.heap.IsList l xs) (hx : xs[i]? = some x) (hmI : m ≠ I)
  (hc : ∀ h', h'.IsListIter I l (i + 1) -> Heap.SameBut I s.heap h' -> wpAny (model prog w) A.in1 (call fv [x]) (fun r s' => Q (some r) s') (fun _ _ => False) { s with heap := h' }) : wpAny (model prog w) A (pyNext (.ref m)) Q E s := by
 have hTy : s.TypeIs (.ref m) "map" := ⟨_, hm, rfl⟩
 unfold pyNext
 refine wB (wpAny_attempt (wpAny_callSpecial?_slot (name := Str.ofString "__next__") hTy cR (wpAny_call_entry cR hTy gY ?_ (ji _))))
 show wpAny _ _ (field (.ref m) 0 >>= _) _ _ _
 refine wB (wpAny_field hm rfl (x := .ref T) rfl ?_)
 refine wB (wpAny_seqItems hT rfl ?_)
 dsimp only
 refine wB ?_
 rw [<- Array.forIn_toList]
 simp only [List.forIn_cons, List.forIn_nil]
 refine wB (wB (wpAny_holding (wpAny_nextOf_list_item hi hl hx fun h1 hi1 hs1 => ?_)))
 refine wP (wP ?_)
 have hm1 : h1.get? m = some (nF T fv) := by rw [hs1.2 m hmI]; exact hm
 refine wB (wpAny_field hm1 rfl (x := fv) rfl ?_)
 refine wB (wpAny_holding (wM (hc h1 hi1 hs1) (fun r s' q => ?_) fun _ _ f => f.elim))
 exact wB (wpAny_letGo (wP ⟨_, rfl, wP q⟩))
theorem rA {m l : Addr} {xs : Array Value} {Q : Option Value -> Shared -> Prop} (hh : A.handled = none) (hm : s.heap.get? m = some (nF T fv)) (hT : s.heap.get? T = some (tu I)) (hi : s.heap.IsListIter I l i) (hl : s.heap.IsList l xs) (hx : xs[i]? = none)
  (h : ∀ h', Heap.ExtBut I s.heap h' -> Q none { s with heap := h' }) : wpAny (model prog w) A (pyNext (.ref m)) Q E s := by
 have hTy : s.TypeIs (.ref m) "map" := ⟨_, hm, rfl⟩
 unfold pyNext
 refine wB (wpAny_attempt (wpAny_callSpecial?_slot (name := Str.ofString "__next__") hTy cR (wpAny_call_entry cR hTy gY ?_ (ji _))))
 show wpAny _ _ (field (.ref m) 0 >>= _) _ _ _
 refine wB (wpAny_field hm rfl (x := .ref T) rfl ?_)
 refine wB (wpAny_seqItems hT rfl ?_)
 dsimp only
 refine wB ?_
 rw [<- Array.forIn_toList]
 simp only [List.forIn_cons, List.forIn_nil]
 refine wB (wB (wpAny_holding (wpAny_nextOf_list_end hh hi hl hx fun h1 e hk ho => ?_)))
 obtain ⟨o, ho, hc⟩ := ho
 refine wB (wpAny_isInstance (T := "StopIteration") (b := true) ⟨_, ho, hc⟩ isSubtype_stop ?_)
 exact wP (h _ hk)
theorem BJ {m : Addr} (hm : s.heap.get? m = some (nF T fv)) (h : Q (.ref m) s) : wpAny (model prog w) A (pyIter (.ref m)) Q E s := by
 have hT : s.TypeIs (.ref m) "map" := ⟨_, hm, rfl⟩
 refine wpAny_pyIter_slot hT jh (wpAny_call_entry jh hT nA ?_ (oV _))
 show wpAny _ _ (ret (.ref m)) _ _ s
 exact wP ⟨_, rfl, "map", _, hT, cR.lookup, h⟩
theorem zj : typeLookup (.type "map") "__len__" = pure none := by rw [typeLookup_type, builtinLookup_eq_fast]; kernel_rfl
theorem vG : typeLookup (.type "map") "__length_hint__" = pure none := by rw [typeLookup_type, builtinLookup_eq_fast]; kernel_rfl
theorem Bas.same {A' : Around} (B : Bas c A X h) (h1 : A'.handled = A.handled) (h2 : A'.frames = A.frames) : Bas c A' X h :=
 ⟨h1.trans B.handled, let ⟨o, b, f⟩ := B.below; ⟨o, ⟨h2.trans b.stack, b.stays, b.frames⟩, f⟩, B.alloc, B.frs⟩
theorem Bas.mut (B : Bas c A X h) (q : HX c Y h h') (hY : ∀ y ∈ Y, ∃ o, h'.get? y = some o) : Bas c A X h' :=
 ⟨B.handled, let ⟨o, b, f⟩ := B.below; ⟨o, q.below f b, f⟩, fun a ha => by
  by_cases hz : a ∈ Y
  ·exact hY a hz
  ·exact q.alive hz (B.alloc a ha), B.frs⟩
section
variable {m lx : Addr} {xs : List Str} {ls : List (Str × Tok)}
structure Js (c : Cfg) (A : Around) (X : List Addr) (S m T I lx : Addr) (fv : Value) (xs : List Str) (ls : List (Str × Tok)) (i : Nat) (h : Heap) : Prop where
 map : h.get? m = some (nF T fv)
 one : h.get? T = some (tu I)
 it : h.IsListIter I lx i
 src : h.IsList lx (strValues ls).toArray
 acc : ∃ us k, h.get? S = some (bH (strValues us) k) /\ us.map (·.1) = xs.take i
 bas : Bas c A X h
structure Mh (c : Cfg) (X : List Addr) (S m T I lx : Addr) : Prop where
 mI : m ≠ I
 TI : T ≠ I
 xI : lx ≠ I
 SI : S ≠ I
 mS : m ≠ S
 TS : T ≠ S
 xS : lx ≠ S
 fr : ∀ a ∈ c.fr, a ≠ S /\ a ≠ I /\ a ≠ m /\ a ≠ T /\ a ≠ lx
 base : c.base.get? S = none /\ c.base.get? I = none
inductive Mi (c : Cfg) (S I : Addr) (xs : List Str) (s : Shared) : Result -> Shared -> Prop
 | mk (h' : Heap) (tk : Nat) (us : List (Str × Nat)) (n : Nat) (q : HX c [S, I] s.heap h') (e : h'.get? S = some (bH (strValues us) n)) (hu : us.map (·.1) = xs) : Mi c S I xs s (.ok (.ret (.ref S))) { s with heap := h', toks := tk }
theorem BK (LA : Lev l A.in1.in1) (hls : ls.map (·.1) = xs) (hz : xs.length <= 1000) (hf : ∀ x ∈ xs, aO c l fv [.str x] (.str x)) (O : Mh c X S m T I lx) :
  ∀ k i s, xs.length - i = k -> i <= xs.length -> Js c A X S m T I lx fv xs ls i s.heap -> codeAny c.M A (.builtin "list.extend.loop" ⟨[.ref S, .ref m, .ref S], []⟩) (Mi c S I xs s) s := by
 have fS : S ∉ c.fr := fun z => (O.fr _ z).1 rfl
 have fI : I ∉ c.fr := fun z => (O.fr _ z).2.1 rfl
 have fm : m ∉ c.fr := fun z => (O.fr _ z).2.2.1 rfl
 have fT : T ∉ c.fr := fun z => (O.fr _ z).2.2.2.1 rfl
 have fx : lx ∉ c.fr := fun z => (O.fr _ z).2.2.2.2 rfl
 have hll : ls.length = xs.length := by rw [<- hls, List.length_map]
 intro k
 induction k with
 | zero =>
  intro i s hk hi st
  have hin : i = xs.length := by omega
  subst hin
  refine codeAny_builtin PySem.F.entry_extend_loop ?_
  rw [Around.under_plainId PySem.F.plain_extend_loop _]
  show wpAny _ A.in1 (pyNext (.ref m) >>= _) _ _ s
  refine wB (rA (i := xs.length) (xs := (strValues ls).toArray) st.bas.handled st.map st.one st.it st.src (by simp [strValues, hll]) fun h' hk => wP ?_)
  obtain ⟨us, n, e, hu⟩ := st.acc
  rw [List.take_length] at hu
  have q : HX c [I] s.heap h' := .of_keep (fun b o hn e => hk b o (by simpa using hn) e) (fun y hy => by rw [lS hy]; exact O.base.2) (fun y hy => by rw [lS hy]; exact fI)
  exact .mk h' s.toks us n (q.mono fun y hy => .tail _ hy) (q.exact (fun z => O.SI (lS z)) fS e) hu
 | succ k ih =>
  intro i s hk hi st
  have hlt : i < xs.length := by omega
  have hlt' : i < ls.length := by omega
  obtain ⟨us, n, eS, hu⟩ := st.acc
  refine codeAny_builtin PySem.F.entry_extend_loop ?_
  rw [Around.under_plainId PySem.F.plain_extend_loop _]
  show wpAny _ A.in1 (pyNext (.ref m) >>= _) _ _ s
  have hx1 : xs[i]? = some ls[i].1 := by rw [<- hls]; simp [hlt']
  refine wB (oZ (i := i) (xs := (strValues ls).toArray) (x := .str ls[i].1 ls[i].2) st.map st.one st.it st.src (by simp [strValues, hlt']) O.mI fun h1 hi1 hs1 => ?_)
  have q1 : HX c [I] s.heap h1 := .sameBut hs1 O.base.2 fI
  have B1 : Bas c A X h1 := st.bas.mut q1 fun y hy => by rw [lS hy]; obtain ⟨o, e, _⟩ := hi1; exact ⟨o, e⟩
  have hxm : ls[i].1 ∈ xs := lG hx1
  refine wK (hf _ hxm A.in1.in1 X { s with heap := h1 } [.str ls[i].1 ls[i].2] LA (B1.same rfl rfl) (.cons (.str _ _) .nil)) (fun r s2 q => ?_)
  obtain ⟨⟨h2, tk2, q2⟩, r2⟩ := q
  have hz := r2.str_inv; clear r2; obtain ⟨t⟩ := hz
  have g : ∀ b o, b ≠ I -> b ∉ c.fr -> s.heap.get? b = some o -> h2.get? b = some o := fun b o hb hf e => q2.exact (fun z => nomatch z) hf (q1.exact (by simpa using hb) hf e)
  have eS2 := g S _ O.SI fS eS
  have hit2 : h2.IsListIter I lx (i + 1) := by
   obtain ⟨o, e, a, b⟩ := hi1
   exact ⟨o, q2.exact (fun z => nomatch z) fI e, a, b⟩
  show wpAny _ A.in1 (updateSeq S (·.push (.str ls[i].1 t)) >>= _) _ _ _
  have hul : us.length = i := by
   have := congrArg List.length hu
   rw [List.length_map, List.length_take] at this; omega
  refine wB (wpAny_updateSeq eS2 rfl ?_ (by simp [strValues, sizeLine_eq]; omega) (by simp [strValues, sizeLine_eq]; omega))
  have qs := Heap.SameBut.update h2 S (Obj.mapSeq (·.push (Value.str ls[i].1 t)))
  have q3 : HX c [S] h2 (h2.update S (Obj.mapSeq (·.push (Value.str ls[i].1 t)))) := .sameBut qs O.base.1 fS
  have eS3 : (h2.update S (Obj.mapSeq (·.push (Value.str ls[i].1 t)))).get? S = some (bH (strValues (us ++ [(ls[i].1, t)])) (n + 1)) := by
   rw [Heap.get?_update_self _ eS2 rfl]
   simp [Obj.mapSeq, strValues, bH]
  have B3 : Bas c A X (h2.update S (Obj.mapSeq (·.push (Value.str ls[i].1 t)))) := (B1.hx0 q2).mut q3 fun y hy => by rw [lS hy]; exact ⟨_, eS3⟩
  have st3 : Js c A X S m T I lx fv xs ls (i + 1) (h2.update S (Obj.mapSeq (·.push (Value.str ls[i].1 t)))) := by
   refine ⟨?_, ?_, ?_, ?_, ⟨_, _, eS3, ?_⟩, B3⟩
   ·rw [qs.2 m O.mS]; exact g m _ O.mI fm st.map
   ·rw [qs.2 T O.TS]; exact g T _ O.TI fT st.one
   ·obtain ⟨o, e, a, b⟩ := hit2
    exact ⟨o, by rw [qs.2 I O.SI.symm]; exact e, a, b⟩
   ·obtain ⟨o, e, a, b⟩ := st.src
    exact ⟨o, by rw [qs.2 lx O.xS]; exact g lx _ O.xI fx e, a, b⟩
   ·rw [List.map_append, hu, List.take_add_one, hx1]; rfl
  refine wP ⟨plainId_quiet PySem.F.plain_extend_loop _, codeAny_mono (ih (i + 1) _ (by omega) hlt st3) fun r s' hr => ?_⟩
  obtain ⟨h', tk, us', n', q4, e4, hu4⟩ := hr
  refine .mk h' tk us' n' ?_ e4 hu4
  have a1 : HX c [S, I] s.heap h1 := q1.mono fun y hy => .tail _ hy
  have a2 : HX c [S, I] h1 h2 := q2.mono fun _ z => nomatch z
  have a3 : HX c [S, I] h2 (h2.update S (Obj.mapSeq (·.push (Value.str ls[i].1 t)))) := q3.mono fun y hy => lS hy ▸ .head _
  exact ((a1.trans a2).trans a3).trans q4
end
section
variable {m lx : Addr} {xs : List Str} {ls : List (Str × Tok)}
structure Gi (c : Cfg) (m T I lx : Addr) : Prop where
 mI : m ≠ I
 TI : T ≠ I
 xI : lx ≠ I
 fr : ∀ a ∈ c.fr, a ≠ I /\ a ≠ m /\ a ≠ T /\ a ≠ lx
 base : c.base.get? I = none
theorem tB {Q : List Value -> Shared -> Prop} (LA : Lev l A.in1.in1) (hls : ls.map (·.1) = xs) (hz : xs.length <= 1000) (hf : ∀ x ∈ xs, aO c l fv [.str x] (.str x)) (O : Gi c m T I lx)
  (hm : s.heap.get? m = some (nF T fv)) (hT : s.heap.get? T = some (tu I)) (hi : s.heap.IsListIter I lx 0) (hx : s.heap.IsList lx (strValues ls).toArray) (B : Bas c A X s.heap)
  (h : ∀ h' tk us, HX c [I] s.heap h' -> us.map (·.1) = xs -> Q (strValues us) { s with heap := h', toks := tk }) : wpAny c.M A (collect (.ref m)) Q NoE s := by
 have lt : ∀ {b o}, s.heap.get? b = some o -> b ≠ s.heap.objs.size := fun e => Nat.ne_of_lt (Heap.lt_size e)
 have hSb : c.base.get? s.heap.objs.size = none := by
  cases e : c.base.get? s.heap.objs.size with
  | none => rfl
  | some o => have := B.inBase e; rw [ak (Nat.le_refl _)] at this; cases this
 have hfrS : ∀ a ∈ c.fr, a ≠ s.heap.objs.size := fun a ha => by obtain ⟨o, e⟩ := B.alloc a (B.frs a ha); exact lt e
 have hI' := id hi
 obtain ⟨oI, eI, _⟩ := hI'
 have hx' := id hx
 obtain ⟨ox, ex, _⟩ := hx'
 unfold collect
 refine wB (wpAny_runValue (codeAny_builtin PySem.F.entry_proto_collect ?_))
 rw [Around.under_plainId PySem.F.plain_proto_collect _]
 show wpAny _ A.in1 (newList [] >>= fun l => again (.builtin "list.__iadd__" ⟨[l, .ref m], []⟩)) _ _ s
 refine wB (wpAny_newObj_type ?_)
 refine wP ⟨plainId_quiet PySem.F.plain_list_iadd _, codeAny_builtin PySem.F.entry_list_iadd ?_⟩
 rw [Around.under_plainId PySem.F.plain_list_iadd _]
 have hS1 : (s.heap.push { cls := .type "list", data := .seq ([] : List Value).toArray }).get? s.heap.objs.size = some { cls := .type "list", data := .seq ([] : List Value).toArray } := hP _ rfl
 have hm1 : (s.heap.push { cls := .type "list", data := .seq ([] : List Value).toArray }).get? m = some (nF T fv) := Heap.get?_push_of_some _ hm
 have hTm : Shared.TypeIs { s with heap := s.heap.push { cls := .type "list", data := .seq ([] : List Value).toArray } } (.ref m) "map" := ⟨_, hm1, rfl⟩
 show wpAny _ A.in1 (Builtin.List.listExtendWith (.ref s.heap.objs.size) (.ref m) (.ref s.heap.objs.size)) _ _ _
 unfold Builtin.List.listExtendWith
 refine wB (wpAny_typeOf hTm ?_)
 have h1 : Builtin.List.listSameRef (.ref s.heap.objs.size) (.ref m) = false := by simp [Builtin.List.listSameRef, (lt hm).symm]
 have h2 : (Value.type "map" == Value.type "list") = false := by decide
 have h3 : (Value.type "map" == Value.type "tuple") = false := by decide
 simp only [h1, h2, h3, Bool.or_false, Bool.false_eq_true, if_false]
 refine wB (BJ hm1 ?_)
 refine wB (wpAny_holding ?_)
 unfold Builtin.List.listLengthHint
 refine wB (wpAny_specialOf hTm zj ?_)
 show wpAny _ A.in1 (specialOf (Value.ref m) (Str.ofString "__length_hint__") >>= _) _ _ _
 refine wB (wpAny_specialOf hTm vG ?_)
 refine wP ?_
 show wpAny _ A.in1 (rule "list.extend.makes-room" >>= fun _ => Builtin.List.listTouch (.ref s.heap.objs.size) >>= fun _ => again (.builtin "list.extend.loop" ⟨[.ref s.heap.objs.size, .ref m, .ref s.heap.objs.size], []⟩)) _ _ _
 refine wB (wpAny_rule ?_)
 refine wB ?_
 show wpAny _ A.in1 (updateSeq s.heap.objs.size (·.push .none) >>= fun _ => updateSeq s.heap.objs.size (·.pop)) _ _ _
 refine wB (wpAny_updateSeq hS1 rfl ?_)
 have hS2 := Heap.get?_update_self (Obj.mapSeq (·.push Value.none)) hS1 rfl
 refine wpAny_updateSeq hS2 rfl ?_
 have hS3 := Heap.get?_update_self (Obj.mapSeq (·.pop)) hS2 rfl
 generalize hH : ((s.heap.push { cls := .type "list", data := .seq ([] : List Value).toArray }).update s.heap.objs.size (Obj.mapSeq (·.push Value.none))).update s.heap.objs.size (Obj.mapSeq (·.pop)) = H at hS3
 have oth : ∀ b o, s.heap.get? b = some o -> H.get? b = some o := fun b o e => by
  rw [<- hH]
  exact (Heap.get?_update_other _ _ (Ne.symm (lt e))).trans ((Heap.get?_update_other _ _ (Ne.symm (lt e))).trans (Heap.get?_push_of_some _ e))
 have q0 : HX c [] s.heap H := .cP oth
 have st : Js c A X s.heap.objs.size m T I lx fv xs ls 0 H := by
  refine ⟨oth _ _ hm, oth _ _ hT, ?_, ?_, ⟨[], _, hS3, rfl⟩, B.hx0 q0⟩
  ·obtain ⟨o, e, a, b⟩ := hi; exact ⟨o, oth _ _ e, a, b⟩
  ·obtain ⟨o, e, a, b⟩ := hx; exact ⟨o, oth _ _ e, a, b⟩
 have O' : Mh c X s.heap.objs.size m T I lx := ⟨O.mI, O.TI, O.xI, (lt eI).symm, lt hm, lt hT, lt ex, fun a ha => ⟨hfrS a ha, O.fr a ha⟩, ⟨hSb, O.base⟩⟩
 refine wP ⟨plainId_quiet PySem.F.plain_extend_loop _, codeAny_mono (BK LA hls hz hf O' xs.length 0 { s with heap := H } (by omega) (by omega) st) fun r s' hr => ?_⟩
 obtain ⟨h', tk, us, n, q, e, hu⟩ := hr
 show wpAny _ A (load s.heap.objs.size >>= _) _ _ _
 refine wB (wpAny_load e ?_)
 refine wP ?_
 have := h h' tk us ((q0.mono fun _ z => nomatch z).zW q fun a ha => ?_) hu
 ·simpa using this
 ·rcases lC ha with rfl | ha
  ·exact .inr (ak (Nat.le_refl _))
  ·exact .inl ha
theorem nG (LA : Lev l A.in1.in1.in1) (hls : ls.map (·.1) = xs) (hz : xs.length <= 1000) (hf : ∀ x ∈ xs, aO c l fv [.str x] (.str x)) (O : Gi c m T I lx)
  (hm : s.heap.get? m = some (nF T fv)) (hT : s.heap.get? T = some (tu I)) (hi : s.heap.IsListIter I lx 0) (hx : s.heap.IsList lx (strValues ls).toArray) (B : Bas c A X s.heap)
  (h : ∀ h' tk us, HX c [I] s.heap h' -> us.map (·.1) = xs -> Q1 (.ref h'.objs.size) { s with heap := h'.push (jx (strValues us) 0), toks := tk }) :
  codeAny c.M A (.call (.builtin "tuple.__new__") ⟨[.type "tuple", .ref m], []⟩) (wants Q1 NoE) s := by
 refine codeAny_of_tree ?_
 show wpAny _ A.in1 (do checkBuiltinCall "tuple.__new__" ⟨[.type "tuple", .ref m], []⟩; again (.builtin "tuple.__new__" ⟨[.type "tuple", .ref m], []⟩)) _ _ s
 refine wB (wpAny_of_eq (PySem.F.newCall_tuple_1 _) (wP ⟨plainId_quiet PySem.F.plain_tuple_new _, codeAny_builtin PySem.F.entry_tuple_new ?_⟩))
 rw [Around.under_plainId PySem.F.plain_tuple_new _]
 have hsub := sub_tuple_self
 have hinit := init_tuple_lookup
 have hmh := madeHere_tuple
 have hTI : s.TypeIs (.ref m) "map" := ⟨_, hm, rfl⟩
 unfold Builtin.«tuple.__new__»
 repeat (any_goals (first | assumption | with_reducible refine wB (tB (A := A.in1) LA hls hz hf O hm hT hi hx (B.same rfl rfl) ?_) | wp_step))
 intro h' tk us q hu
 refine wB (wP ?_)
 have hul : us.length = xs.length := by rw [<- hu, List.length_map]
 show wpAny _ A.in1 (Builtin.Tuple.tupleExact (strValues us).toArray >>= fun v => ret v) _ _ _
 unfold Builtin.Tuple.tupleExact
 refine wB (wpAny_newObj_type ?_ (by show (strValues us).toArray.size <= sizeLine; simp [strValues, sizeLine_eq]; omega))
 exact wP (h h' tk us q hu)
theorem nH (LA : Lev l A.in1.in1.in1.in1) (hls : ls.map (·.1) = xs) (hz : xs.length <= 1000) (hf : ∀ x ∈ xs, aO c l fv [.str x] (.str x)) (O : Gi c m T I lx)
  (hm : s.heap.get? m = some (nF T fv)) (hT : s.heap.get? T = some (tu I)) (hi : s.heap.IsListIter I lx 0) (hx : s.heap.IsList lx (strValues ls).toArray) (B : Bas c A X s.heap)
  (h : ∀ h' tk us, HX c [I] s.heap h' -> us.map (·.1) = xs -> Q (.ref h'.objs.size) { s with heap := h'.push (jx (strValues us) 0), toks := tk }) : wpAny c.M A (call (.type "tuple") [.ref m]) Q NoE s := by
 refine callType_codes (Q₁ := fun obj s₁ => s₁.TypeIs obj "tuple" /\ Q obj s₁) PySem.F.called_tuple (PySem.F.typeCall_tuple_1 _) PySem.F.entry_object_init
  (nG (A := A.in1) LA hls hz hf O hm hT hi hx (B.same rfl rfl) fun h' tk us q hu => ⟨⟨_, hP _ rfl, rfl⟩, h h' tk us q hu⟩) fun obj s₁ h₁ => ?_
 exact ⟨h₁.1, PySem.F.args_object_init_2 obj _, object_init_meets PySem.F.called_tuple.init.lookup PySem.F.called_tuple.made (by decide) c.prog c.w A.in1 _ s₁ ⟨h₁.1, rfl, h₁.2⟩⟩
end
theorem Ev.BL {f : Str} {n1 n2 n3 p1 : Pos} {xs : List Str} (g1 : Glb c "tuple" (.type "tuple")) (g2 : Glb c "map" (.type "map")) (hl : l < 60) (hz : xs.length <= 1000) {fv : Value} (g3 : Glb c f fv) (hf : ∀ x ∈ xs, aO c (l + 1) fv [.str x] (.str x)) (h : Ev c l X env Γ e (.list (xs.map .str)))
  (k1 : autoParam (env.kindOf "tuple" = some .globalImplicit) aR) (k2 : autoParam (env.kindOf "map" = some .globalImplicit) aR) (k3 : autoParam (env.kindOf f = some .globalImplicit) aR) (hd : autoParam ((f == ("__debug__" : Str)) = false) aD)
  (he1 : autoParam (starEach [.Call (.Name "map" n2) [.Name f n3, e] [] p1] env = (false, eval (.Call (.Name "map" n2) [.Name f n3, e] [] p1) env) :: starEach [] env) aR)
  (he2 : autoParam (starEach [.Name f n3, e] env = (false, eval (.Name f n3) env) :: (false, eval e env) :: starEach [] env) aR) :
  Ev c l X env Γ (.Call (.Name "tuple" n1) [.Call (.Name "map" n2) [.Name f n3, e] [] p1] [] pos) (.tuple (xs.map .str)) := fun A s L G => by
 refine wpAny_Call_ofName (wpAny_Name (g1 A _ s env _ G.bas.stays G.globals G.builtins G.kind k1 ?_) (by kernel_rfl))
 show wpAny c.M A (callWith pos (.type "tuple") [] (backTo pos (starEach [.Call (.Name "map" n2) [.Name f n3, e] [] p1] env)) []) _ _ s
 rw [he1]
 refine callWith_of (P := fun h => c.base.StaysIn h) rfl dJ (evalArgs_plain (Calls.spliced_cons ?_))
 refine wpAny_Call_ofName (wpAny_Name (g2 A _ s env _ G.bas.stays G.globals G.builtins G.kind k2 ?_) (by kernel_rfl))
 show wpAny c.M A (callWith p1 (.type "map") [] (backTo p1 (starEach [.Name f n3, e] env)) []) _ _ s
 rw [he2]
 refine callWith_of (P := fun h => c.base.StaysIn h) rfl dJ (evalArgs_plain (Calls.spliced_cons ?_))
 refine wpAny_Name (g3 A _ s env _ G.bas.stays G.globals G.builtins G.kind k3 ?_) hd
 refine Calls.spliced_cons (h.use L G fun v1 s1 p1 r1 G1 => Calls.spliced_nil ?_)
 have hz := r1.aQ; clear r1; obtain ⟨lx, vs, n, hX, e, r⟩ := hz
 obtain ⟨ls, hls⟩ := iR r
 refine ⟨G1.bas.stays, ?_⟩
 have hx : s1.heap.IsList lx (strValues ls).toArray := ⟨_, e, rfl, _, rfl⟩
 refine Bx hx fun h' hm hT hi hk => ?_
 have q2 : HX c [] s1.heap h' := .cP hk
 have G2 := G1.bas.hx0 q2
 refine Calls.spliced_nil ⟨G2.stays, ?_⟩
 have al : ∀ b, s1.heap.objs.size <= b -> ∀ a, (∃ o, s1.heap.get? a = some o) -> a ≠ b := fun b hb a ⟨o, e⟩ => Nat.ne_of_lt (Nat.lt_of_lt_of_le (Heap.lt_size e) hb)
 have alf : ∀ a ∈ c.fr, ∃ o, s1.heap.get? a = some o := fun a ha => G1.bas.alloc a (G1.bas.frs a ha)
 have hIn : s1.heap.get? s1.heap.objs.size = Option.none := ak (Nat.le_refl _)
 have O : Gi c (s1.heap.objs.size + 2) (s1.heap.objs.size + 1) s1.heap.objs.size lx := by
  refine ⟨(show (s1.heap.objs.size + 2 : Nat) ≠ s1.heap.objs.size from by omega), (show (s1.heap.objs.size + 1 : Nat) ≠ s1.heap.objs.size from by omega), al _ (Nat.le_refl _) lx ⟨_, e⟩, fun a ha => ⟨al _ (Nat.le_refl _) a (alf a ha), al _ (Nat.le_add_right _ 2) a (alf a ha), al _ (Nat.le_add_right _ 1) a (alf a ha), fun z => hX (z ▸ G1.bas.frs a ha)⟩, ?_⟩
  cases q : c.base.get? s1.heap.objs.size with
  | none => rfl
  | some o => rw [G1.bas.inBase q] at hIn; cases hIn
 have LA : Lev (l + 1) A.in1.in1.in1.in1 := by
  obtain ⟨a1, a2, a3⟩ := L
  exact ⟨by show A.depth <= _; omega, by show A.units + 1 + 1 + 1 + 1 <= _; omega, by omega⟩
 refine nH (s := { s1 with heap := h' }) LA hls hz hf O hm hT hi (by obtain ⟨o, e, a, b⟩ := hx; exact ⟨o, hk _ _ e, a, b⟩) G2 fun h2 tk us q hu => ?_
 have q3 : HX c [] s1.heap h2 := q2.young q fun a ha => by rw [lS ha]; exact hIn
 refine ⟨p1.trans ⟨_, tk, q3.trans (.push _ _)⟩, ?_⟩
 rw [<- hu]
 exact Rd.newTuple (c := c) (s := { s1 with heap := h2 }) G.bas.frs (fun a h => q3.alive (fun z => nomatch z) (G1.bas.alloc a h)) (nq us)
noncomputable def gZ (f : Str -> Str -> Bool) (g : Nat -> Nat -> Bool) : List Str -> List Str -> Bool
 | x :: xs, y :: ys => if x = y then gZ f g xs ys else f x y
 | xs, ys => g xs.length ys.length
theorem g8 {f : Str -> Str -> Bool} {g : Nat -> Nat -> Bool} {xs ys : List Str} (h : xs = [] \/ ys = []) : gZ f g xs ys = g xs.length ys.length := by
 cases xs with
 | nil => cases ys <;> rfl
 | cons x xs =>
  cases ys with
  | nil => rfl
  | cons y ys => rcases h with h | h <;> cases h
noncomputable abbrev ltS (x y : Str) : Bool := decide (x.cps.toList < y.cps.toList)
noncomputable abbrev gtS (x y : Str) : Bool := decide (y.cps.toList < x.cps.toList)
noncomputable abbrev ltL : List Str -> List Str -> Bool := gZ ltS (fun m n => decide (m < n))
noncomputable abbrev gtL : List Str -> List Str -> Bool := gZ gtS (fun m n => decide (m > n))
theorem Gj (l b : Addr) (us vs : List (Str × Tok)) (n n2 : Nat) (k : Nat) :
  ∀ i : Nat, us.length - i = k -> i <= us.length -> i <= vs.length -> Meets (Builtin.«list.__eq__.loop» ⟨[.ref l, .ref b, rawInt i, rawInt 0], []⟩)
   (fun A R s => s.heap.get? l = some (bH (strValues us) n) /\ s.heap.get? b = some (bH (strValues vs) n2) /\
    R (.ok (.ret (.bool (ltL ((us.drop i).map (·.1)) ((vs.drop i).map (·.1)))))) s) := by
 have fin : ∀ i : Nat, i <= us.length -> i <= vs.length -> (us.length <= i \/ vs.length <= i) -> ltL ((us.drop i).map (·.1)) ((vs.drop i).map (·.1)) = decide (us.length < vs.length) := fun i h1 h2 h => by
  have hh : (us.drop i).map (·.1) = ([] : List Str) \/ (vs.drop i).map (·.1) = ([] : List Str) := by
   rcases h with h | h
   ·left; rw [List.drop_eq_nil_of_le h]; rfl
   ·right; rw [List.drop_eq_nil_of_le h]; rfl
  refine (g8 hh).trans ?_
  simp only [List.length_map, List.length_drop]
  rw [decide_eq_decide]; omega
 have stop : ∀ i : Nat, i <= us.length -> i <= vs.length -> (us.length <= i \/ vs.length <= i) -> Meets (Builtin.«list.__eq__.loop» ⟨[.ref l, .ref b, rawInt i, rawInt 0], []⟩)
   (fun A R s => s.heap.get? l = some (bH (strValues us) n) /\ s.heap.get? b = some (bH (strValues vs) n2) /\
    R (.ok (.ret (.bool (ltL ((us.drop i).map (·.1)) ((vs.drop i).map (·.1)))))) s) := by
  intro i h1 h2 hh prog w A R s h
  obtain ⟨hp, g, d, tk, os⟩ := s; obtain ⟨hl, hb, h⟩ := h
  rw [fin i h1 h2 hh] at h
  wp_walk using AutoSeq1.wpAny_loadPart' hl, AutoSeq1.wpAny_loadPart' hb
  have key : (strValues us).toArray[((i : Nat) : Int).toNat]? = none \/ (strValues vs).toArray[((i : Nat) : Int).toNat]? = none := by
   rcases hh with q | q
   ·left; simp [strValues]; omega
   ·right; simp [strValues]; omega
  have fin2 : ∀ (o1 o2 : Option Value), (o1 = none \/ o2 = none) -> ∀ {t : Value -> Value -> Sem Fin} {e : Sem Fin} {Q : Fin -> Shared -> Prop} {E : Value -> Shared -> Prop} {s' : Shared}, wpAny (model prog w) A.in1 e Q E s' -> wpAny (model prog w) A.in1 (match (o1, o2) with | (some x, some y) => t x y | _ => e) Q E s' := by
   intro o1 o2 ho t e Q E s' h
   rcases ho with rfl | rfl
   ·exact h
   ·cases o1 <;> exact h
  refine fin2 _ _ key ?_
  wp_walk using AutoSeq1.wpAny_loadPart' hl, AutoSeq1.wpAny_loadPart' hb
  have e1 : (strValues us).toArray.size = us.length := by simp [strValues]
  have e2 : (strValues vs).toArray.size = vs.length := by simp [strValues]
  show R (.ok (.ret (.bool (decide ((strValues us).toArray.size < (strValues vs).toArray.size))))) _
  rw [e1, e2]
  exact h
 induction k with
 | zero =>
  intro i hk h1 h2
  exact stop i h1 h2 (.inl (by omega))
 | succ k ih =>
  intro i hk h1 h2
  by_cases hv : vs.length <= i
  ·exact stop i h1 h2 (.inr hv)
  intro prog w A R s h
  obtain ⟨hp, g, d, tk, os⟩ := s; obtain ⟨hl, hb, h⟩ := h
  wp_walk using AutoSeq1.wpAny_loadPart' hl, AutoSeq1.wpAny_loadPart' hb
  have hlt : i < us.length := by omega
  have hlt2 : i < vs.length := by omega
  have hi1 : (strValues us).toArray[((i : Nat) : Int).toNat]? = some (.str us[i].1 us[i].2) := by simp [strValues, hlt]
  have hi2 : (strValues vs).toArray[((i : Nat) : Int).toNat]? = some (.str vs[i].1 vs[i].2) := by simp [strValues, hlt2]
  have hc : ((i : Int) + 1) = ((i + 1 : Nat) : Int) := by push_cast; rfl
  have hd : ltL ((us.drop i).map (·.1)) ((vs.drop i).map (·.1)) = if us[i].1 = vs[i].1 then ltL ((us.drop (i + 1)).map (·.1)) ((vs.drop (i + 1)).map (·.1)) else ltS us[i].1 vs[i].1 := by
   rw [List.drop_eq_getElem_cons hlt, List.drop_eq_getElem_cons hlt2]
   rfl
  rw [hd] at h
  rw [hi1, hi2]
  refine wB (wpAny_eqBool_str ?_)
  by_cases he : us[i].1 = vs[i].1
  ·rw [if_pos he] at h
   rw [decide_eq_true he]
   wp_walk
   rw [hc]
   exact ⟨plainId_quiet MeetsSeq3.plain_eq_loop _, codeAny_builtin MeetsSeq3.entry_eq_loop (by
    rw [Around.under_plainId MeetsSeq3.plain_eq_loop _]
    exact ih (i + 1) (by omega) hlt hlt2 prog w A R _ ⟨hl, hb, h⟩)⟩
  ·rw [if_neg he] at h
   rw [decide_eq_false he]
   rw [if_neg Bool.false_ne_true]
   unfold Builtin.List.listItems
   refine wB (wB (wpAny_seqItems hl rfl (wP ?_)))
   refine wB (wB (wpAny_seqItems hb rfl (wP ?_)))
   rw [hi1, hi2]
   show wpAny _ _ (richCompare .Lt (.str us[i].1 us[i].2) (.str vs[i].1 vs[i].2) >>= fun v => ret v) _ _ _
   exact wB (richCompare_gives (op := .Lt) (T := "str") rfl rfl PySem.F.slot_str_lt PySem.F.entry_str_lt (PySem.F.args_str_lt_2 _ _) (gives_str_lt _ _ _ _) (fun x => nomatch x) (wP h))
theorem Gk (l b : Addr) (us vs : List (Str × Tok)) (n n2 : Nat) :
  Meets (Builtin.«list.__lt__» ⟨[.ref l, .ref b], []⟩)
   (fun A R s => s.heap.get? l = some (bH (strValues us) n) /\ s.heap.get? b = some (bH (strValues vs) n2) /\ R (.ok (.ret (.bool (ltL (us.map (·.1)) (vs.map (·.1)))))) s) := by
 intro prog w A R s h
 obtain ⟨hp, g, d, tk, os⟩ := s; obtain ⟨hl, hb, h⟩ := h
 have f3 := AutoSeq1.sub_list_list
 wp_walk using AutoSeq1.wpAny_loadPart' hl, AutoSeq1.wpAny_loadPart' hb
 exact ⟨plainId_quiet MeetsSeq3.plain_eq_loop _, codeAny_builtin MeetsSeq3.entry_eq_loop (by
  rw [Around.under_plainId MeetsSeq3.plain_eq_loop _]
  exact Gj l b us vs n n2 _ 0 rfl (Nat.zero_le _) (Nat.zero_le _) prog w A R _ ⟨hl, hb, h⟩)⟩
theorem Gl {l b : Addr} {us vs : List (Str × Tok)} {n n2 : Nat} (hu : A.units < cLine) (hl : s.heap.get? l = some (bH (strValues us) n)) (hb : s.heap.get? b = some (bH (strValues vs) n2)) (h : Q (.bool (ltL (us.map (·.1)) (vs.map (·.1)))) s) :
  wpAny (model prog w) A (richCompare .Lt (.ref l) (.ref b)) Q E s :=
 wpAny_richCompare_same_room (T := "list") (id := "list.__lt__") ⟨_, hl, rfl⟩ ⟨_, hb, rfl⟩ PySem.F.slot_list_lt (call_meets PySem.F.slot_list_lt ⟨_, hl, rfl⟩ PySem.F.entry_list_lt (PySem.F.args_list_lt_2 _ _) (Gk l b us vs n n2) ⟨hl, hb, ⟨(fun x => nomatch x), h⟩⟩) hu
theorem Gm (l b : Addr) (us vs : List (Str × Tok)) (n n2 : Nat) (k : Nat) :
  ∀ i : Nat, us.length - i = k -> i <= us.length -> i <= vs.length -> Meets (Builtin.«list.__eq__.loop» ⟨[.ref l, .ref b, rawInt i, rawInt 4], []⟩)
   (fun A R s => s.heap.get? l = some (bH (strValues us) n) /\ s.heap.get? b = some (bH (strValues vs) n2) /\
    R (.ok (.ret (.bool (gtL ((us.drop i).map (·.1)) ((vs.drop i).map (·.1)))))) s) := by
 have fin : ∀ i : Nat, i <= us.length -> i <= vs.length -> (us.length <= i \/ vs.length <= i) -> gtL ((us.drop i).map (·.1)) ((vs.drop i).map (·.1)) = decide (us.length > vs.length) := fun i h1 h2 h => by
  have hh : (us.drop i).map (·.1) = ([] : List Str) \/ (vs.drop i).map (·.1) = ([] : List Str) := by
   rcases h with h | h
   ·left; rw [List.drop_eq_nil_of_le h]; rfl
   ·right; rw [List.drop_eq_nil_of_le h]; rfl
  refine (g8 hh).trans ?_
  simp only [List.length_map, List.length_drop]
  rw [decide_eq_decide]; omega
 have stop : ∀ i : Nat, i <= us.length -> i <= vs.length -> (us.length <= i \/ vs.length <= i) -> Meets (Builtin.«list.__eq__.loop» ⟨[.ref l, .ref b, rawInt i, rawInt 4], []⟩)
   (fun A R s => s.heap.get? l = some (bH (strValues us) n) /\ s.heap.get? b = some (bH (strValues vs) n2) /\
    R (.ok (.ret (.bool (gtL ((us.drop i).map (·.1)) ((vs.drop i).map (·.1)))))) s) := by
  intro i h1 h2 hh prog w A R s h
  obtain ⟨hp, g, d, tk, os⟩ := s; obtain ⟨hl, hb, h⟩ := h
  rw [fin i h1 h2 hh] at h
  wp_walk using AutoSeq1.wpAny_loadPart' hl, AutoSeq1.wpAny_loadPart' hb
  have key : (strValues us).toArray[((i : Nat) : Int).toNat]? = none \/ (strValues vs).toArray[((i : Nat) : Int).toNat]? = none := by
   rcases hh with q | q
   ·left; simp [strValues]; omega
   ·right; simp [strValues]; omega
  have fin2 : ∀ (o1 o2 : Option Value), (o1 = none \/ o2 = none) -> ∀ {t : Value -> Value -> Sem Fin} {e : Sem Fin} {Q : Fin -> Shared -> Prop} {E : Value -> Shared -> Prop} {s' : Shared}, wpAny (model prog w) A.in1 e Q E s' -> wpAny (model prog w) A.in1 (match (o1, o2) with | (some x, some y) => t x y | _ => e) Q E s' := by
   intro o1 o2 ho t e Q E s' h
   rcases ho with rfl | rfl
   ·exact h
   ·cases o1 <;> exact h
  refine fin2 _ _ key ?_
  wp_walk using AutoSeq1.wpAny_loadPart' hl, AutoSeq1.wpAny_loadPart' hb
  have e1 : (strValues us).toArray.size = us.length := by simp [strValues]
  have e2 : (strValues vs).toArray.size = vs.length := by simp [strValues]
  show R (.ok (.ret (.bool (decide ((strValues us).toArray.size > (strValues vs).toArray.size))))) _
  rw [e1, e2]
  exact h
 induction k with
 | zero =>
  intro i hk h1 h2
  exact stop i h1 h2 (.inl (by omega))
 | succ k ih =>
  intro i hk h1 h2
  by_cases hv : vs.length <= i
  ·exact stop i h1 h2 (.inr hv)
  intro prog w A R s h
  obtain ⟨hp, g, d, tk, os⟩ := s; obtain ⟨hl, hb, h⟩ := h
  wp_walk using AutoSeq1.wpAny_loadPart' hl, AutoSeq1.wpAny_loadPart' hb
  have hlt : i < us.length := by omega
  have hlt2 : i < vs.length := by omega
  have hi1 : (strValues us).toArray[((i : Nat) : Int).toNat]? = some (.str us[i].1 us[i].2) := by simp [strValues, hlt]
  have hi2 : (strValues vs).toArray[((i : Nat) : Int).toNat]? = some (.str vs[i].1 vs[i].2) := by simp [strValues, hlt2]
  have hc : ((i : Int) + 1) = ((i + 1 : Nat) : Int) := by push_cast; rfl
  have hd : gtL ((us.drop i).map (·.1)) ((vs.drop i).map (·.1)) = if us[i].1 = vs[i].1 then gtL ((us.drop (i + 1)).map (·.1)) ((vs.drop (i + 1)).map (·.1)) else gtS us[i].1 vs[i].1 := by
   rw [List.drop_eq_getElem_cons hlt, List.drop_eq_getElem_cons hlt2]
   rfl
  rw [hd] at h
  rw [hi1, hi2]
  refine wB (wpAny_eqBool_str ?_)
  by_cases he : us[i].1 = vs[i].1
  ·rw [if_pos he] at h
   rw [decide_eq_true he]
   wp_walk
   rw [hc]
   exact ⟨plainId_quiet MeetsSeq3.plain_eq_loop _, codeAny_builtin MeetsSeq3.entry_eq_loop (by
    rw [Around.under_plainId MeetsSeq3.plain_eq_loop _]
    exact ih (i + 1) (by omega) hlt hlt2 prog w A R _ ⟨hl, hb, h⟩)⟩
  ·rw [if_neg he] at h
   rw [decide_eq_false he]
   rw [if_neg Bool.false_ne_true]
   unfold Builtin.List.listItems
   refine wB (wB (wpAny_seqItems hl rfl (wP ?_)))
   refine wB (wB (wpAny_seqItems hb rfl (wP ?_)))
   rw [hi1, hi2]
   show wpAny _ _ (richCompare .Gt (.str us[i].1 us[i].2) (.str vs[i].1 vs[i].2) >>= fun v => ret v) _ _ _
   exact wB (richCompare_gives (op := .Gt) (T := "str") rfl rfl PySem.F.slot_str_gt PySem.F.entry_str_gt (PySem.F.args_str_gt_2 _ _) (gives_str_gt _ _ _ _) (fun x => nomatch x) (wP h))
theorem Gp (l b : Addr) (us vs : List (Str × Tok)) (n n2 : Nat) :
  Meets (Builtin.«list.__gt__» ⟨[.ref l, .ref b], []⟩)
   (fun A R s => s.heap.get? l = some (bH (strValues us) n) /\ s.heap.get? b = some (bH (strValues vs) n2) /\ R (.ok (.ret (.bool (gtL (us.map (·.1)) (vs.map (·.1)))))) s) := by
 intro prog w A R s h
 obtain ⟨hp, g, d, tk, os⟩ := s; obtain ⟨hl, hb, h⟩ := h
 have f3 := AutoSeq1.sub_list_list
 wp_walk using AutoSeq1.wpAny_loadPart' hl, AutoSeq1.wpAny_loadPart' hb
 exact ⟨plainId_quiet MeetsSeq3.plain_eq_loop _, codeAny_builtin MeetsSeq3.entry_eq_loop (by
  rw [Around.under_plainId MeetsSeq3.plain_eq_loop _]
  exact Gm l b us vs n n2 _ 0 rfl (Nat.zero_le _) (Nat.zero_le _) prog w A R _ ⟨hl, hb, h⟩)⟩
theorem Gq {l b : Addr} {us vs : List (Str × Tok)} {n n2 : Nat} (hu : A.units < cLine) (hl : s.heap.get? l = some (bH (strValues us) n)) (hb : s.heap.get? b = some (bH (strValues vs) n2)) (h : Q (.bool (gtL (us.map (·.1)) (vs.map (·.1)))) s) :
  wpAny (model prog w) A (richCompare .Gt (.ref l) (.ref b)) Q E s :=
 wpAny_richCompare_same_room (T := "list") (id := "list.__gt__") ⟨_, hl, rfl⟩ ⟨_, hb, rfl⟩ PySem.F.slot_list_gt (call_meets PySem.F.slot_list_gt ⟨_, hl, rfl⟩ PySem.F.entry_list_gt (PySem.F.args_list_gt_2 _ _) (Gp l b us vs n n2) ⟨hl, hb, ⟨(fun x => nomatch x), h⟩⟩) hu
theorem zm {l : Addr} {x y : Value} (hh : A.handled = none) (hl : s.heap.IsList l #[x, y])
  (hc : ∀ s' Q' E', (∀ b o, s.heap.get? b = some o -> s'.heap.get? b = some o) -> Q' (.bool rb) s' -> wpAny (model prog w) A.in1 (richCompare .Lt y x) Q' E' s')
  (h : ∀ h' tk, (∀ b o, s.heap.get? b = some o -> h'.get? b = some o) -> Q (if rb then y else x) { s with heap := h', toks := tk }) : wpAny (model prog w) A (call (.builtin "min") [.ref l]) Q E s := by
 have hname : (toString "min" ++ toString ".loop" : String) = "min.loop" := by decide
 have hll := id hl
 obtain ⟨ol, el, _⟩ := hll
 have hlI : l ≠ s.heap.objs.size := Nat.ne_of_lt (Heap.lt_size el)
 have W := Walks.list (prog := prog) (w := w) (A := A.in1) hh s.heap.objs.size l hlI #[x, y]
 refine call_function_tree PySem.F.kind_min PySem.F.plain_min PySem.F.entry_min (PySem.F.args_min1 _) ?_
 show wpAny _ A.in1 (Builtin.Builtins.bindParams "min" ["key", "default"] 0 ⟨[], []⟩ >>= _) _ _ s
 refine wB (wpAny_of_eq (show Builtin.Builtins.bindParams "min" ["key", "default"] 0 ⟨[], []⟩ = pure [none, none] from rfl) ?_)
 refine wB (wP ?_)
 refine wB (wpAny_pyIter_list hl ?_)
 refine wB (wpAny_newObj_type ?_)
 rw [hname]
 have z1 : (s.heap.push { cls := .type "list_iterator", data := .fields #[.ref l, .int 0 0] }).objs.size = s.heap.objs.size + 1 := Heap.size_push ..
 generalize hH : (s.heap.push { cls := .type "list_iterator", data := .fields #[.ref l, .int 0 0] }) = H at z1
 have lt : ∀ {b o}, s.heap.get? b = some o -> b ≠ s.heap.objs.size /\ b ≠ H.objs.size := fun e => ⟨Nat.ne_of_lt (Heap.lt_size e), by rw [z1]; exact Nat.ne_of_lt (Nat.lt_succ_of_lt (Heap.lt_size e))⟩
 have hSI : H.objs.size ≠ s.heap.objs.size := by rw [z1]; exact Nat.succ_ne_self _
 have k0 : ∀ b o, s.heap.get? b = some o -> (H.push { cls := .type "list", data := .seq ([] : List Value).toArray }).get? b = some o := fun b o e => Heap.get?_push_of_some _ (hH ▸ Heap.get?_push_of_some _ e)
 have st0 : (H.push { cls := .type "list", data := .seq ([] : List Value).toArray }).IsListIter s.heap.objs.size l 0 := ⟨_, Heap.get?_push_of_some _ (hH ▸ hP _ rfl), rfl, rfl⟩
 have hl0 : (H.push { cls := .type "list", data := .seq ([] : List Value).toArray }).IsList l #[x, y] := by obtain ⟨o, e, a, b⟩ := hl; exact ⟨o, k0 _ _ e, a, b⟩
 have hS0 : (H.push { cls := .type "list", data := .seq ([] : List Value).toArray }).get? H.objs.size = some { cls := .type "list", dict := none, data := .seq #[] 0, slots := #[] } := hP _ rfl
 have upd : ∀ {h1 : Heap} {f : Obj -> Obj} {b : Addr} {o : Obj}, b ≠ H.objs.size -> h1.get? b = some o -> (h1.update H.objs.size f).get? b = some o := fun hb e => (Heap.get?_update_other _ _ (Ne.symm hb)).trans e
 refine wP ⟨plainId_quiet PySem.F.plain_min_loop _, ?_⟩
 refine codeAny_builtin PySem.F.entry_min_loop ?_
 rw [Around.under_plainId PySem.F.plain_min_loop _]
 show wpAny _ A.in1 (seqItems? (.ref H.objs.size) >>= _) _ _ _
 refine wB (wpAny_seqItems hS0 rfl ?_)
 show wpAny _ A.in1 (tryCatch (pyNext (.ref s.heap.objs.size)) _ >>= _) _ _ _
 refine wB (wpAny_tryCatch (W.item 0 _ _ _ (by simp) ⟨st0, hl0⟩ fun v h1 tk1 hP st1 hk1 => ?_))
 have hv : v = x := by simpa using hP.symm
 subst hv
 have hS1 := hk1 _ _ (by simpa using hSI) hS0
 show wpAny _ A.in1 (updateSeq H.objs.size (fun _ => #[v, v]) >>= _) _ _ _
 refine wB ?_
 refine wpAny_updateSeq hS1 rfl ?_
 rw [hname]
 have hS2 := Heap.get?_update_self (Obj.mapSeq fun _ => (#[v, v] : Array Value)) hS1 rfl
 have st2 := W.frame 1 h1 (h1.update H.objs.size (Obj.mapSeq fun _ => (#[v, v] : Array Value))) st1 fun b hb o e => upd (by
  rcases lC hb with rfl | hb
  ·exact hSI.symm
  ·rw [lS hb]; exact (lt el).2) e
 have k2 : ∀ b o, s.heap.get? b = some o -> (h1.update H.objs.size (Obj.mapSeq fun _ => (#[v, v] : Array Value))).get? b = some o := fun b o e => upd (lt e).2 (hk1 b o (by simpa using (lt e).1) (k0 b o e))
 generalize (h1.update H.objs.size (Obj.mapSeq fun _ => (#[v, v] : Array Value))) = h2 at hS2 st2 k2
 refine wP ⟨plainId_quiet PySem.F.plain_min_loop _, ?_⟩
 refine codeAny_builtin PySem.F.entry_min_loop ?_
 rw [Around.under_plainId PySem.F.plain_min_loop _]
 show wpAny _ A.in1 (seqItems? (.ref H.objs.size) >>= _) _ _ _
 refine wB (wpAny_seqItems hS2 rfl ?_)
 show wpAny _ A.in1 (tryCatch (pyNext (.ref s.heap.objs.size)) _ >>= _) _ _ _
 refine wB (wpAny_tryCatch (W.item 1 _ _ _ (by simp) st2 fun u h3 tk3 hP st3 hk3 => ?_))
 have hu : u = y := by simpa using hP.symm
 subst hu
 have hS3 := hk3 _ _ (by simpa using hSI) hS2
 have k3 : ∀ b o, s.heap.get? b = some o -> h3.get? b = some o := fun b o e => hk3 b o (by simpa using (lt e).1) (k2 b o e)
 show wpAny _ A.in1 (tryCatch (holding [u, u] (richCompare .Lt u v >>= _)) _ >>= _) _ _ _
 refine wB (wpAny_tryCatch (wpAny_holding (wB (hc { s with heap := h3, toks := tk3 } _ _ k3 ?_))))
 refine wB (wpAny_holding (wpAny_truthy_bool ?_))
 refine wB (wpAny_letGo (wP ?_))
 have last : ∀ (h4 : Heap) (tk4 : Nat) (z : Value) (n : Nat), h4.get? H.objs.size = some { cls := .type "list", dict := none, data := .seq #[z, z] n, slots := #[] } -> (h4.IsListIter s.heap.objs.size l 2 /\ h4.IsList l #[v, u]) -> (∀ b o, s.heap.get? b = some o -> h4.get? b = some o) -> (∀ h' tk, (∀ b o, s.heap.get? b = some o -> h'.get? b = some o) -> Q z { s with heap := h', toks := tk }) ->
   codeAny (model prog w) A (.builtin "min.loop" ⟨[.ref s.heap.objs.size, .none, .ref H.objs.size], []⟩) (fun r s' => match r with | .ok (.ret v) => Q v s' | .ok _ => False | .error e => E e s') { s with heap := h4, toks := tk4 } := fun h4 tk4 z n hS4 st4 k4 hq => by
  refine codeAny_builtin PySem.F.entry_min_loop ?_
  rw [Around.under_plainId PySem.F.plain_min_loop _]
  show wpAny _ A.in1 (seqItems? (.ref H.objs.size) >>= _) _ _ _
  refine wB (wpAny_seqItems hS4 rfl ?_)
  show wpAny _ A.in1 (tryCatch (pyNext (.ref s.heap.objs.size)) _ >>= _) _ _ _
  refine wB (wpAny_tryCatch (W.done _ _ _ st4 fun h5 tk5 hk5 => ?_))
  have hS5 := hk5 _ _ (by simpa using hSI) hS4
  show wpAny _ A.in1 (updateSeq H.objs.size (fun _ => #[]) >>= _) _ _ _
  refine wB ?_
  refine wpAny_updateSeq hS5 rfl (wB (wpAny_letGo (wP ?_)))
  exact hq _ _ fun b o e => upd (lt e).2 (hk5 b o (by simpa using (lt e).1) (k4 b o e))
 cases rb with
 | true =>
  simp only [if_true] at h ⊢
  refine wB ?_
  refine wpAny_updateSeq hS3 rfl (wB (wpAny_letGo ?_))
  rw [hname]
  have hS4 := Heap.get?_update_self (Obj.mapSeq fun _ => (#[u, u] : Array Value)) hS3 rfl
  refine wP ⟨plainId_quiet PySem.F.plain_min_loop _, last _ _ u _ hS4 (W.frame 2 h3 _ st3 fun b hb o e => upd (by
   rcases lC hb with rfl | hb
   ·exact hSI.symm
   ·rw [lS hb]; exact (lt el).2) e) (fun b o e => upd (lt e).2 (k3 b o e)) h⟩
 | false =>
  simp only [Bool.false_eq_true, if_false] at h ⊢
  refine wB (wpAny_letGo ?_)
  rw [hname]
  exact wP ⟨plainId_quiet PySem.F.plain_min_loop _, last _ _ v _ hS3 st3 k3 h⟩
theorem zp {l : Addr} {x y : Value} (hh : A.handled = none) (hl : s.heap.IsList l #[x, y])
  (hc : ∀ s' Q' E', (∀ b o, s.heap.get? b = some o -> s'.heap.get? b = some o) -> Q' (.bool rb) s' -> wpAny (model prog w) A.in1 (richCompare .Gt y x) Q' E' s')
  (h : ∀ h' tk, (∀ b o, s.heap.get? b = some o -> h'.get? b = some o) -> Q (if rb then y else x) { s with heap := h', toks := tk }) : wpAny (model prog w) A (call (.builtin "max") [.ref l]) Q E s := by
 have hname : (toString "max" ++ toString ".loop" : String) = "max.loop" := by decide
 have hll := id hl
 obtain ⟨ol, el, _⟩ := hll
 have hlI : l ≠ s.heap.objs.size := Nat.ne_of_lt (Heap.lt_size el)
 have W := Walks.list (prog := prog) (w := w) (A := A.in1) hh s.heap.objs.size l hlI #[x, y]
 refine call_function_tree PySem.F.kind_max PySem.F.plain_max PySem.F.entry_max (PySem.F.args_max1 _) ?_
 show wpAny _ A.in1 (Builtin.Builtins.bindParams "max" ["key", "default"] 0 ⟨[], []⟩ >>= _) _ _ s
 refine wB (wpAny_of_eq (show Builtin.Builtins.bindParams "max" ["key", "default"] 0 ⟨[], []⟩ = pure [none, none] from rfl) ?_)
 refine wB (wP ?_)
 refine wB (wpAny_pyIter_list hl ?_)
 refine wB (wpAny_newObj_type ?_)
 rw [hname]
 have z1 : (s.heap.push { cls := .type "list_iterator", data := .fields #[.ref l, .int 0 0] }).objs.size = s.heap.objs.size + 1 := Heap.size_push ..
 generalize hH : (s.heap.push { cls := .type "list_iterator", data := .fields #[.ref l, .int 0 0] }) = H at z1
 have lt : ∀ {b o}, s.heap.get? b = some o -> b ≠ s.heap.objs.size /\ b ≠ H.objs.size := fun e => ⟨Nat.ne_of_lt (Heap.lt_size e), by rw [z1]; exact Nat.ne_of_lt (Nat.lt_succ_of_lt (Heap.lt_size e))⟩
 have hSI : H.objs.size ≠ s.heap.objs.size := by rw [z1]; exact Nat.succ_ne_self _
 have k0 : ∀ b o, s.heap.get? b = some o -> (H.push { cls := .type "list", data := .seq ([] : List Value).toArray }).get? b = some o := fun b o e => Heap.get?_push_of_some _ (hH ▸ Heap.get?_push_of_some _ e)
 have st0 : (H.push { cls := .type "list", data := .seq ([] : List Value).toArray }).IsListIter s.heap.objs.size l 0 := ⟨_, Heap.get?_push_of_some _ (hH ▸ hP _ rfl), rfl, rfl⟩
 have hl0 : (H.push { cls := .type "list", data := .seq ([] : List Value).toArray }).IsList l #[x, y] := by obtain ⟨o, e, a, b⟩ := hl; exact ⟨o, k0 _ _ e, a, b⟩
 have hS0 : (H.push { cls := .type "list", data := .seq ([] : List Value).toArray }).get? H.objs.size = some { cls := .type "list", dict := none, data := .seq #[] 0, slots := #[] } := hP _ rfl
 have upd : ∀ {h1 : Heap} {f : Obj -> Obj} {b : Addr} {o : Obj}, b ≠ H.objs.size -> h1.get? b = some o -> (h1.update H.objs.size f).get? b = some o := fun hb e => (Heap.get?_update_other _ _ (Ne.symm hb)).trans e
 refine wP ⟨plainId_quiet PySem.F.plain_max_loop _, ?_⟩
 refine codeAny_builtin PySem.F.entry_max_loop ?_
 rw [Around.under_plainId PySem.F.plain_max_loop _]
 show wpAny _ A.in1 (seqItems? (.ref H.objs.size) >>= _) _ _ _
 refine wB (wpAny_seqItems hS0 rfl ?_)
 show wpAny _ A.in1 (tryCatch (pyNext (.ref s.heap.objs.size)) _ >>= _) _ _ _
 refine wB (wpAny_tryCatch (W.item 0 _ _ _ (by simp) ⟨st0, hl0⟩ fun v h1 tk1 hP st1 hk1 => ?_))
 have hv : v = x := by simpa using hP.symm
 subst hv
 have hS1 := hk1 _ _ (by simpa using hSI) hS0
 show wpAny _ A.in1 (updateSeq H.objs.size (fun _ => #[v, v]) >>= _) _ _ _
 refine wB ?_
 refine wpAny_updateSeq hS1 rfl ?_
 rw [hname]
 have hS2 := Heap.get?_update_self (Obj.mapSeq fun _ => (#[v, v] : Array Value)) hS1 rfl
 have st2 := W.frame 1 h1 (h1.update H.objs.size (Obj.mapSeq fun _ => (#[v, v] : Array Value))) st1 fun b hb o e => upd (by
  rcases lC hb with rfl | hb
  ·exact hSI.symm
  ·rw [lS hb]; exact (lt el).2) e
 have k2 : ∀ b o, s.heap.get? b = some o -> (h1.update H.objs.size (Obj.mapSeq fun _ => (#[v, v] : Array Value))).get? b = some o := fun b o e => upd (lt e).2 (hk1 b o (by simpa using (lt e).1) (k0 b o e))
 generalize (h1.update H.objs.size (Obj.mapSeq fun _ => (#[v, v] : Array Value))) = h2 at hS2 st2 k2
 refine wP ⟨plainId_quiet PySem.F.plain_max_loop _, ?_⟩
 refine codeAny_builtin PySem.F.entry_max_loop ?_
 rw [Around.under_plainId PySem.F.plain_max_loop _]
 show wpAny _ A.in1 (seqItems? (.ref H.objs.size) >>= _) _ _ _
 refine wB (wpAny_seqItems hS2 rfl ?_)
 show wpAny _ A.in1 (tryCatch (pyNext (.ref s.heap.objs.size)) _ >>= _) _ _ _
 refine wB (wpAny_tryCatch (W.item 1 _ _ _ (by simp) st2 fun u h3 tk3 hP st3 hk3 => ?_))
 have hu : u = y := by simpa using hP.symm
 subst hu
 have hS3 := hk3 _ _ (by simpa using hSI) hS2
 have k3 : ∀ b o, s.heap.get? b = some o -> h3.get? b = some o := fun b o e => hk3 b o (by simpa using (lt e).1) (k2 b o e)
 show wpAny _ A.in1 (tryCatch (holding [u, u] (richCompare .Gt u v >>= _)) _ >>= _) _ _ _
 refine wB (wpAny_tryCatch (wpAny_holding (wB (hc { s with heap := h3, toks := tk3 } _ _ k3 ?_))))
 refine wB (wpAny_holding (wpAny_truthy_bool ?_))
 refine wB (wpAny_letGo (wP ?_))
 have last : ∀ (h4 : Heap) (tk4 : Nat) (z : Value) (n : Nat), h4.get? H.objs.size = some { cls := .type "list", dict := none, data := .seq #[z, z] n, slots := #[] } -> (h4.IsListIter s.heap.objs.size l 2 /\ h4.IsList l #[v, u]) -> (∀ b o, s.heap.get? b = some o -> h4.get? b = some o) -> (∀ h' tk, (∀ b o, s.heap.get? b = some o -> h'.get? b = some o) -> Q z { s with heap := h', toks := tk }) ->
   codeAny (model prog w) A (.builtin "max.loop" ⟨[.ref s.heap.objs.size, .none, .ref H.objs.size], []⟩) (fun r s' => match r with | .ok (.ret v) => Q v s' | .ok _ => False | .error e => E e s') { s with heap := h4, toks := tk4 } := fun h4 tk4 z n hS4 st4 k4 hq => by
  refine codeAny_builtin PySem.F.entry_max_loop ?_
  rw [Around.under_plainId PySem.F.plain_max_loop _]
  show wpAny _ A.in1 (seqItems? (.ref H.objs.size) >>= _) _ _ _
  refine wB (wpAny_seqItems hS4 rfl ?_)
  show wpAny _ A.in1 (tryCatch (pyNext (.ref s.heap.objs.size)) _ >>= _) _ _ _
  refine wB (wpAny_tryCatch (W.done _ _ _ st4 fun h5 tk5 hk5 => ?_))
  have hS5 := hk5 _ _ (by simpa using hSI) hS4
  show wpAny _ A.in1 (updateSeq H.objs.size (fun _ => #[]) >>= _) _ _ _
  refine wB ?_
  refine wpAny_updateSeq hS5 rfl (wB (wpAny_letGo (wP ?_)))
  exact hq _ _ fun b o e => upd (lt e).2 (hk5 b o (by simpa using (lt e).1) (k4 b o e))
 cases rb with
 | true =>
  simp only [if_true] at h ⊢
  refine wB ?_
  refine wpAny_updateSeq hS3 rfl (wB (wpAny_letGo ?_))
  rw [hname]
  have hS4 := Heap.get?_update_self (Obj.mapSeq fun _ => (#[u, u] : Array Value)) hS3 rfl
  refine wP ⟨plainId_quiet PySem.F.plain_max_loop _, last _ _ u _ hS4 (W.frame 2 h3 _ st3 fun b hb o e => upd (by
   rcases lC hb with rfl | hb
   ·exact hSI.symm
   ·rw [lS hb]; exact (lt el).2) e) (fun b o e => upd (lt e).2 (k3 b o e)) h⟩
 | false =>
  simp only [Bool.false_eq_true, if_false] at h ⊢
  refine wB (wpAny_letGo ?_)
  rw [hname]
  exact wP ⟨plainId_quiet PySem.F.plain_max_loop _, last _ _ v _ hS3 st3 k3 h⟩
noncomputable abbrev sL (xs : List Str) : PyData := .list (xs.map .str)
theorem aO.min2 {xs ys : List Str} : aO c l (.builtin "min") [.list [sL xs, sL ys]] (sL (if ltL ys xs then ys else xs)) := fun A X s vs L B r => by
 have hz := r.bO; clear r; obtain ⟨_, r⟩ := hz
 have hz := r.aQ; clear r; obtain ⟨a, vs, n, ha, e, q⟩ := hz
 have hz := q.qH; clear q; obtain ⟨_, _, r1, r2⟩ := hz
 have k1 := r1
 have k2 := r2
 have hz := r1.aQ; clear r1; obtain ⟨a1, v1, n1, h1, e1, q1⟩ := hz
 have hz := r2.aQ; clear r2; obtain ⟨a2, v2, n2, h2, e2, q2⟩ := hz
 obtain ⟨us, hu⟩ := iR q1
 obtain ⟨ws, hw⟩ := iR q2
 refine zm (rb := ltL ys xs) B.handled ⟨_, e, rfl, _, rfl⟩ (fun s' Q' E' hk hq => ?_) fun h' tk hk => ?_
 ·refine Gl ?_ (hk _ _ e2) (hk _ _ e1) (by rw [hu, hw]; exact hq)
  have := L.units
  show A.units + 1 < _
  rw [mR]; omega
 ·have q3 : HX c [] s.heap h' := .cP hk
  refine ⟨⟨h', tk, q3⟩, ?_⟩
  cases ltL ys xs with
  | true => exact k2.hx0 q3 B.frs
  | false => exact k1.hx0 q3 B.frs
theorem aO.max2 {xs ys : List Str} : aO c l (.builtin "max") [.list [sL xs, sL ys]] (sL (if gtL ys xs then ys else xs)) := fun A X s vs L B r => by
 have hz := r.bO; clear r; obtain ⟨_, r⟩ := hz
 have hz := r.aQ; clear r; obtain ⟨a, vs, n, ha, e, q⟩ := hz
 have hz := q.qH; clear q; obtain ⟨_, _, r1, r2⟩ := hz
 have k1 := r1
 have k2 := r2
 have hz := r1.aQ; clear r1; obtain ⟨a1, v1, n1, h1, e1, q1⟩ := hz
 have hz := r2.aQ; clear r2; obtain ⟨a2, v2, n2, h2, e2, q2⟩ := hz
 obtain ⟨us, hu⟩ := iR q1
 obtain ⟨ws, hw⟩ := iR q2
 refine zp (rb := gtL ys xs) B.handled ⟨_, e, rfl, _, rfl⟩ (fun s' Q' E' hk hq => ?_) fun h' tk hk => ?_
 ·refine Gq ?_ (hk _ _ e2) (hk _ _ e1) (by rw [hu, hw]; exact hq)
  have := L.units
  show A.units + 1 < _
  rw [mR]; omega
 ·have q3 : HX c [] s.heap h' := .cP hk
  refine ⟨⟨h', tk, q3⟩, ?_⟩
  cases gtL ys xs with
  | true => exact k2.hx0 q3 B.frs
  | false => exact k1.hx0 q3 B.frs
theorem Tru.tuple (hz : ds.length <= 2 ^ 30) : Tru c (.tuple ds) (!ds.isEmpty) := fun l A X s v L B r => by
 have hz := r.cX; clear r; obtain ⟨_, _, _, ha, e, q⟩ := hz
 refine PyProof.Rows.truthy_tuple ⟨_, e, rfl, _, rfl⟩ (by rw [List.size_toArray, q.length]; omega) ⟨?_, .tk⟩
 rw [List.isEmpty_toArray]
 rw [q.isEmpty]
theorem P2.BP {i : Int} (h0 : 0 <= i) (h1 : i < 2 ^ 63) (hx : ds[i.toNat]? = some d) (hs : autoParam (∀ o i, subscripted slice false o i = operate [o, i] (getItem o i)) aU) :
  P2 c (subscriptTail value slice) (.tuple ds) (.int i) d := fun l A X s v1 v2 L B r1 r2 => by
 have hz := r2.int_inv; clear r2; obtain ⟨t⟩ := hz
 have hz := r1.cX; clear r1; obtain ⟨x, vs, n, ha, e, q⟩ := hz
 obtain ⟨v, hv, r⟩ := q.get _ hx
 have hlt : i.toNat < vs.toArray.size := by
  have := (List.getElem?_eq_some_iff.mp hv).1
  simpa using this
 refine tail_any (T := "tuple") ⟨_, e, rfl⟩ PySem.F.slot_tuple_getitem.lookup (PyProof.Rows.getItem_tuple (j := i.toNat) (x := v) ⟨_, e, rfl, _, rfl⟩ (by omega) h1 ?_ (by simpa using hv) ⟨.refl, r⟩) (hs _ _)
 unfold seqIndex?
 have hj : (if i < 0 then i + (vs.toArray.size : Int) else i) = i := if_neg (by omega)
 simp only [hj]
 rw [if_pos (by simp only [Bool.and_eq_true, decide_eq_true_eq]; omega)]
theorem Ev.BP {i : Int} (h1 : Ev c l X env Γ value (.tuple ds)) (h2 : Ev c l X env Γ slice (.int i)) (h0 : 0 <= i) (hi : i < 2 ^ 63) (hx : ds[i.toNat]? = some d) (hs : autoParam (∀ o i, subscripted slice false o i = operate [o, i] (getItem o i)) aU) : Ev c l X env Γ (.Subscript value slice pos) d :=
 Ev.sub h1 h2 (P2.BP h0 hi hx hs)
theorem P2.neS {a b : Str} : P2 c (compareOp .NotEq) (.str a) (.str b) (.bool (decide (a ≠ b))) := .rm fun l A X s ta tb _ _ => by
 refine PyProof.Rows.ne_str ⟨.refl, ?_⟩
 have e : (a != b) = decide (a ≠ b) := by by_cases h : a = b <;> simp [h]
 first
  | exact .bool _
  | (rw [e]; exact .bool _)
theorem P2.eqS {a b : Str} : P2 c (compareOp .Eq) (.str a) (.str b) (.bool (decide (a = b))) := .rm fun l A X s ta tb _ _ => by
 refine PyProof.Rows.eq_str ⟨.refl, ?_⟩
 have e : (a == b) = decide (a = b) := by by_cases h : a = b <;> simp [h]
 first
  | exact .bool _
  | (rw [e]; exact .bool _)
theorem rB : ∀ a b : List Str, sL a = sL b -> a = b := jE bV
section
variable {E : Err} 
theorem Ex.setC {x : Str} (hX : dg K s0) (h : ∀ X, EvC K.c K.l X K.env Γ e d) (k : Ex K A s0 E ((x, d) :: Γ1) R Δ ss O) (hx : autoParam (decide (x ∈ K.xs) = true) aK) (hΓ : autoParam (Γ.filter (fun p => p.1 != x) = Γ1) aK) (hR : autoParam (offB [x] (R.map (·.1)) = true) aK) (hs : autoParam (swapsWith e (some (.Name x px)) pos.line K.env = pure true) aR) :
  Ex K A s0 E Γ R Δ (.Assign [.Name x px] e pos :: ss) O := by
 have e2 : R.filter (fun p => p.1 != x) = R := List.filter_eq_self.mpr fun p hp => by
  have := List.all_eq_true.mp hR p.1 (lM (f := (·.1)) hp)
  simpa using this
 refine Ex.wj h (of_decide_eq_true hx) hX (fun D => ?_) hs
 rw [hΓ, e2]
 exact Ex.freeze hX k
end
noncomputable def wY : Option Stmt -> DefRec
 | some (.FunctionDef name args body _ _ _ scope _ _ pos) => ⟨name, args, body, scope, pos⟩
 | _ => { name := "", params := { posonlyargs := [], args := [], vararg := none, kwonlyargs := [], kw_defaults := [], kwarg := none, defaults := [] }, body := [], scope := { kind := .function, names := [], isGenerator := false, isCoroutine := false }, pos := ⟨0, 0, 0, 0⟩ }
noncomputable abbrev pg1 : Program := PySem.Challenge.pw_il0092_02
noncomputable def dr1 (i : Nat) : DefRec := wY (pg1.main.body[i]?)
noncomputable def Gs : Option Stmt -> List Stmt
 | some (.ClassDef _ _ _ body ..) => body
 | _ => []
noncomputable def dm1 (i j : Nat) : DefRec := wY ((Gs (pg1.main.body[i]?))[j]?)
noncomputable def mfd (d : DefRec) (q : Str) (dv pm code doc : Value) : FuncData :=
 {name := d.name, qualname := q, params := d.params, body := .stmts d.body, scope := d.scope, globals := mainGlobals, closure := [], defaults := dv, kwdefaults := .none, doc, pyModule := pm, code, builtins := builtinsNs }
noncomputable def kvE (P : Params) (n : Str) (t : Nat) (v : Value) : DictEntry := { hash := PyData.keyHash P n, key := .str n t, val := v }
noncomputable def K1 (P : Params) : Frag := [
  (1, { cls := .type "dict", data := .dict #[kvE P "builtins" 162 (.ref 4), kvE P "__main__" 163 (.ref 5)] 2 }),
  (3, { cls := .type "dict", data := .dict #[kvE P "__name__" 165 (.str "law_il0092_02" 537), kvE P "__doc__" 166 (.none), kvE P "__package__" 167 (.none), kvE P "__loader__" 168 (.builtin "__main__.__loader__#opaque"), kvE P "__spec__" 169 (.none), kvE P "__annotations__" 170 (.ref 6), kvE P "__builtins__" 171 (.ref 4), kvE P "__file__" 173 (.str "/claim/cut.py" 172), kvE P "__cached__" 174 (.none), kvE P "_wall" 193 (.ref 21), kvE P "_NODE_OUT" 198 (.int (-1) 197), kvE P "_NODE_DONE" 201 (.int (-2) 200), kvE P "_NodeInfo" 238 (.ref 40), kvE P "CycleError" 256 (.ref 55), kvE P "TopologicalSorter" 375 (.ref 137), kvE P "_plain_name" 386 (.ref 148), kvE P "ABCMeta" 412 (.ref 165), kvE P "_ABCLike" 455 (.ref 198), kvE P "_abc_plain_meta" 462 (.ref 207), kvE P "fspath" 474 (.ref 214), kvE P "_check_arg_types" 487 (.ref 221), kvE P "_get_sep" 496 (.ref 228), kvE P "join" 507 (.ref 235), kvE P "commonpath" 513 (.ref 240), kvE P "_deduplicate_unhashable" 524 (.ref 247), kvE P "_compare_args_orderless" 536 (.ref 254), kvE P "_law_ups" 547 (.ref 261), kvE P "_law_heirs" 553 (.ref 266), kvE P "_law_told" 559 (.ref 271), kvE P "_law_walk" 571 (.ref 278), kvE P "_law_waits" 577 (.ref 283), kvE P "_law_groups" 587 (.ref 290), kvE P "_law_lines" 593 (.ref 295), kvE P "law" 599 (.ref 300)] 34 }),
  (35, { cls := .type "code", data := .fields #[.str "__init__" 218, .str "_NodeInfo.__init__" 219, .str "/claim/cut.py" 220, .int 10 0, .int 2 0, .int 0 0, .int 0 0, .int 3 0, .ref 30, .bool true, .int 181 0, .ref 31, .none, .ref 32, .ref 33, .ref 34, .int 223 0, .int 10 0, .str "/claim/cut.py" 224] }),
  (36, { cls := .type "function", data := .func (mfd (dm1 4 1) "_NodeInfo.__init__" (.none) (.str "cpy313.graphlib" 194) (.ref 35) (.none)) }),
  (39, { cls := .type "dict", data := .dict #[kvE P "__module__" 209 (.str "cpy313.graphlib" 194), kvE P "__firstlineno__" 213 (.int 7 212), kvE P "__slots__" 217 (.ref 29), kvE P "__init__" 225 (.ref 36), kvE P "__static_attributes__" 229 (.ref 37), kvE P "node" 231 (.ref 41), kvE P "npredecessors" 233 (.ref 42), kvE P "successors" 235 (.ref 43), kvE P "__doc__" 236 (.none)] 5 }),
  (40, { cls := .type "type", data := .cls { name := "_NodeInfo", bases := [.type "object"], mro := [.ref 40, .type "object"], ns := 39, qualname := "_NodeInfo", hasDict := false, slotNames := ["node", "npredecessors", "successors"] }, slots := #[none, none, some (.str "_NodeInfo" 202), some (.str "_NodeInfo" 210), some (.builtin "object.__new__"), some (.bool false)] }),
  (41, { cls := .type "member_descriptor", data := .fields #[.str "node" 230, .ref 40, .builtin "proto.slot", .builtin "proto.slot#set", .int 2 0] }),
  (42, { cls := .type "member_descriptor", data := .fields #[.str "npredecessors" 232, .ref 40, .builtin "proto.slot", .builtin "proto.slot#set", .int 1 0] }),
  (43, { cls := .type "member_descriptor", data := .fields #[.str "successors" 234, .ref 40, .builtin "proto.slot", .builtin "proto.slot#set", .int 0 0] }),
  (66, { cls := .type "tuple", data := .seq #[.none] }),
  (72, { cls := .type "code", data := .fields #[.str "__init__" 269, .str "TopologicalSorter.__init__" 270, .str "/claim/cut.py" 271, .int 18 0, .int 2 0, .int 0 0, .int 0 0, .int 3 0, .ref 67, .bool true, .int 181 0, .ref 68, .none, .ref 69, .ref 70, .ref 71, .int 276 0, .int 18 0, .str "/claim/cut.py" 277] }),
  (73, { cls := .type "function", data := .func (mfd (dm1 6 0) "TopologicalSorter.__init__" (.ref 66) (.str "cpy313.graphlib" 194) (.ref 72) (.none)) }),
  (79, { cls := .type "code", data := .fields #[.str "_get_nodeinfo" 279, .str "TopologicalSorter._get_nodeinfo" 280, .str "/claim/cut.py" 281, .int 27 0, .int 2 0, .int 0 0, .int 0 0, .int 3 0, .ref 74, .bool true, .int 181 0, .ref 75, .none, .ref 76, .ref 77, .ref 78, .int 285 0, .int 27 0, .str "/claim/cut.py" 286] }),
  (80, { cls := .type "function", data := .func (mfd (dm1 6 1) "TopologicalSorter._get_nodeinfo" (.none) (.str "cpy313.graphlib" 194) (.ref 79) (.none)) }),
  (86, { cls := .type "code", data := .fields #[.str "add" 288, .str "TopologicalSorter.add" 289, .str "/claim/cut.py" 290, .int 32 0, .int 2 0, .int 0 0, .int 0 0, .int 7 0, .ref 81, .bool true, .int 181 0, .ref 82, .none, .ref 83, .ref 84, .ref 85, .int 297 0, .int 32 0, .str "/claim/cut.py" 298] }),
  (87, { cls := .type "function", data := .func (mfd (dm1 6 2) "TopologicalSorter.add" (.none) (.str "cpy313.graphlib" 194) (.ref 86) (.none)) }),
  (91, { cls := .type "code", data := .fields #[.str "prepare" 300, .str "TopologicalSorter.prepare" 301, .str "/claim/cut.py" 302, .int 41 0, .int 1 0, .int 0 0, .int 0 0, .int 3 0, .ref 88, .bool true, .int 181 0, .ref 89, .none, .none, .none, .ref 90, .int 303 0, .int 41 0, .str "/claim/cut.py" 304] }),
  (92, { cls := .type "function", data := .func (mfd (dm1 6 3) "TopologicalSorter.prepare" (.none) (.str "cpy313.graphlib" 194) (.ref 91) (.none)) }),
  (98, { cls := .type "code", data := .fields #[.str "get_ready" 306, .str "TopologicalSorter.get_ready" 307, .str "/claim/cut.py" 308, .int 49 0, .int 1 0, .int 0 0, .int 0 0, .int 3 0, .ref 93, .bool true, .int 181 0, .ref 94, .none, .ref 95, .ref 96, .ref 97, .int 313 0, .int 49 0, .str "/claim/cut.py" 314] }),
  (99, { cls := .type "function", data := .func (mfd (dm1 6 4) "TopologicalSorter.get_ready" (.none) (.str "cpy313.graphlib" 194) (.ref 98) (.none)) }),
  (105, { cls := .type "code", data := .fields #[.str "is_active" 316, .str "TopologicalSorter.is_active" 317, .str "/claim/cut.py" 318, .int 60 0, .int 1 0, .int 0 0, .int 0 0, .int 3 0, .ref 100, .bool true, .int 181 0, .ref 101, .none, .ref 102, .ref 103, .ref 104, .int 320 0, .int 60 0, .str "/claim/cut.py" 321] }),
  (106, { cls := .type "function", data := .func (mfd (dm1 6 5) "TopologicalSorter.is_active" (.none) (.str "cpy313.graphlib" 194) (.ref 105) (.none)) }),
  (119, { cls := .type "code", data := .fields #[.str "done" 330, .str "TopologicalSorter.done" 331, .str "/claim/cut.py" 332, .int 68 0, .int 1 0, .int 0 0, .int 0 0, .int 7 0, .ref 114, .bool true, .int 181 0, .ref 115, .none, .ref 116, .ref 117, .ref 118, .int 341 0, .int 68 0, .str "/claim/cut.py" 342] }),
  (120, { cls := .type "function", data := .func (mfd (dm1 6 7) "TopologicalSorter.done" (.none) (.str "cpy313.graphlib" 194) (.ref 119) (.none)) }),
  (126, { cls := .type "code", data := .fields #[.str "_find_cycle" 344, .str "TopologicalSorter._find_cycle" 345, .str "/claim/cut.py" 346, .int 91 0, .int 1 0, .int 0 0, .int 0 0, .int 3 0, .ref 121, .bool true, .int 181 0, .ref 122, .none, .ref 123, .ref 124, .ref 125, .int 354 0, .int 91 0, .str "/claim/cut.py" 355] }),
  (127, { cls := .type "function", data := .func (mfd (dm1 6 8) "TopologicalSorter._find_cycle" (.none) (.str "cpy313.graphlib" 194) (.ref 126) (.none)) }),
  (136, { cls := .type "dict", data := .dict #[kvE P "__module__" 264 (.str "cpy313.graphlib" 194), kvE P "__firstlineno__" 268 (.int 16 267), kvE P "__init__" 278 (.ref 73), kvE P "_get_nodeinfo" 287 (.ref 80), kvE P "add" 299 (.ref 87), kvE P "prepare" 305 (.ref 92), kvE P "get_ready" 315 (.ref 99), kvE P "is_active" 322 (.ref 106), kvE P "__bool__" 329 (.ref 113), kvE P "done" 343 (.ref 120), kvE P "_find_cycle" 356 (.ref 127), kvE P "static_order" 363 (.ref 134), kvE P "__static_attributes__" 368 (.ref 135), kvE P "__dict__" 370 (.ref 138), kvE P "__weakref__" 372 (.ref 139), kvE P "__doc__" 373 (.none)] 4 }),
  (137, { cls := .type "type", data := .cls { name := "TopologicalSorter", bases := [.type "object"], mro := [.ref 137, .type "object"], ns := 136, qualname := "TopologicalSorter" }, slots := #[none, none, some (.str "TopologicalSorter" 257), some (.str "TopologicalSorter" 265), some (.builtin "object.__new__"), some (.bool true)] })]
noncomputable def qv1 : Program := view pg1 [0, 2, 3, 4, 5, 6, 8, 10, 12, 13, 15, 17, 19, 20, 21, 23, 24, 26, 27, 28, 29, 30, 31, 32, 33]
noncomputable abbrev lo1 : List Str := ["_NodeInfo"]
noncomputable def as1 : List Addr := [1, 3, 35, 36, 39, 40, 41, 42, 43, 66, 72, 73, 79, 80, 86, 87, 91, 92, 98, 99, 105, 106, 119, 120, 126, 127, 136, 137]
noncomputable def hk1 : Hook := kHook K1 as1 fun P => rfl
theorem Mj : LeftO pg1 qv1 lo1 (fun _ => true) hk1.obs hk1.val 4300 := by
 intro w
 kernel_rfl
theorem Ml (call : WalkO qv1 lo1 (fun _ _ => True) hk1.says PySem.Challenge.rw_il0092_02.row.toRowW (dr1 33) [] fun f vs => PySem.call f vs) : PySem.Challenge.rw_il0092_02.Holds :=
 holds_law (by kernel_rfl) fun said =>
  holds_open (q := qv1) (loose := lo1) (Xt := fun _ => true) (XP := fun _ _ => True) (Yf := hk1.obs) (Ya := hk1.val) (YP := hk1.says) (d := dr1 33) (kwd := []) (N := 4300)
   Mj hk1.of hk1.keeps (fun _ _ => trivial) (fun _ _ _ _ _ => trivial) (by kernel_rfl) (by kernel_rfl) (by kernel_rfl) (fun _ _ => recFacts_nil rfl) (by kernel_rfl) said (by kernel_rfl)
   ⟨rfl, rfl, rfl, rfl, rfl, by decide +kernel⟩ ⟨[.list []], by decide +kernel, by decide +kernel⟩ call
section
theorem cO {l : List α} {a : α} (h : l[i]? = some a) : a ∈ l := lG h
variable {loose : List Str} {mg mb : Str -> Option Value}
noncomputable abbrev Wd1 (c : Cfg) (mg mb : Str -> Option Value) : Prop := Wd c qv1 (looseW qv1 lo1) mg mb
theorem rC (W : Wd1 c mg mb) : Glb c "range" (.type "range") := W.blt (by kernel_rfl) (by kernel_rfl)
theorem qd (W : Wd1 c mg mb) : Glb c "len" (.builtin "len") := W.blt (by kernel_rfl) (by kernel_rfl)
noncomputable abbrev rL (rows : List (List Int)) : PyData := .list (rows.map iL)
theorem vH : ∀ a b : List Int, iL a = iL b -> a = b := jE f9
theorem wZ (W : Wd1 c mg mb) (hl : l < 60) {ds : List PyData} (h : iJ ds) : Fn c l "_deduplicate_unhashable" [.list ds] (.list (dedup ds)) := by
 refine W.call (dr1 23) (cO (i := 8) (by kernel_rfl)) ["unhashable_params"] (by decide +kernel) rfl hl (fun pm code doc => bind1 fun a => by rfl) fun A s0 a L X pm code doc hX hA => ?_
 refine Ex.own (fun X => .nil) fun D => ?_
 refine Ex.seq (Ex1.Am (fun i Γ R Δ => Γ = ([("unhashable_params", .list ds)] : Gam) /\ R = ([("new_unhashable", D)] : Ros) /\ Δ = [bL _ D (.list (dedup (ds.take i)))])
  (bY [("unhashable_params", .list ds)] [("new_unhashable", D)] [bL _ D (.list (dedup ds))]) (.of fun X => .ofList (.n m0)) ⟨rfl, rfl, rfl⟩ (fun p h => h) (fun p h => h) (List.Sublist.refl _) hX ?_ ?_ ?_) (Ex.freeze hX (.ret (.of fun X => .n m0) (.inl rfl)))
 ·rintro i _ _ _ ⟨rfl, rfl, rfl⟩
  exact ⟨bC (by kernel_rfl), iI (by kernel_rfl)⟩
 ·rintro i d _ _ _ r hd ⟨rfl, rfl, rfl⟩
  have hdm : d ∈ ds := lG hd
  have hc : PyData.canLayAll0 (dedup (ds.take i)) = true := yE fun x hx => h.can x (List.mem_of_mem_take (jF _ x hx))
  have hz : (dedup (ds.take i)).length <= 10 ^ 6 := by
   have h1 := pK (ds.take i)
   have h2 : (ds.take i).length <= ds.length := List.length_take_le' ..
   have h3 := h.len
   omega
  have e : dedup (ds.take (i + 1)) = if (dedup (ds.take i)).any (fun y => PyData.eqv y d) then dedup (ds.take i) else dedup (ds.take i) ++ [d] := by
   rw [List.take_add_one, hd, Option.toList_some, uV]
  refine Ex.seq (Γ1 := [("t", d), ("unhashable_params", .list ds)]) (R1 := [("new_unhashable", D)]) (Δ1 := [r, bL _ D (.list (dedup (ds.take (i + 1))))]) ?_ (.wkG (fun p hp => .tail _ hp) (.nil (.inl ⟨_, _, _, .inl rfl, rfl, rfl, rfl⟩)))
  refine Ex1.ite (EtS.view (x := "new_unhashable") m0 m1 fun X => .cmp (.n m1) (.n m0) (.uJ (h.can d hdm) hc (h.dep d hdm))) (fun hb => ?_) fun hb => ?_
  ·rw [e, if_neg (by simpa using hb)]
   exact Ex.perm (List.Perm.swap ..) (Ex.seq (Ex1.append m0 (.of fun X => .n m0) hz) (Ex.perm (List.Perm.swap ..) (.nil rfl)))
  ·rw [e, if_pos (by simpa using hb)]
   exact .nil rfl
 ·rintro _ _ _ ⟨rfl, rfl, rfl⟩
  rw [List.take_length]
noncomputable def dM : List PyData -> List PyData -> Option (List PyData)
 | t, [] => some t
 | t, e :: es => if (t.any fun y => PyData.eqv y e) = true then dM (lX e t) es else none
noncomputable def tC (a b : List PyData) : Bool := match dM (dedup b) (dedup a) with
 | some t => t.isEmpty
 | none => false
theorem nJ (es es' : List PyData) : ∀ t, dM t (es ++ es') = (dM t es).bind fun t' => dM t' es' := by
 induction es with
 | nil => intro t; rfl
 | cons e es ih =>
  intro t
  rw [List.cons_append, dM, dM]
  split
  ·exact ih _
  ·rfl
theorem Jt (W : Wd1 c mg mb) : Glb c "list" (.type "list") := W.blt (by kernel_rfl) (by kernel_rfl)
theorem rD (W : Wd1 c mg mb) : Glb c "ValueError" (.type "ValueError") := W.blt (by kernel_rfl) (by kernel_rfl)
theorem BR (d : PyData) (ds : List PyData) :  ∀ y ∈ lX d ds, y ∈ ds := by
 induction ds with
 | nil =>
  intro y h
  exact h
 | cons x xs ih =>
  intro y h
  unfold lX at h
  split at h
  ·exact .tail _ h
  ·rcases lC h with rfl | h
   ·exact .head _
   ·exact .tail _ (ih y h)
theorem BW (d : PyData) (ds : List PyData) :  (lX d ds).length <= ds.length := by
 induction ds with
 | nil =>
  exact Nat.le_refl _
 | cons x xs ih =>
  unfold lX
  split
  ·simp
  ·simpa using ih
noncomputable def Ju (a b : List PyData) : Gam := [("second_unhashable", .list (dedup b)), ("first_unhashable", .list (dedup a)), ("first_args", .list a), ("second_args", .list b)]
inductive Gu (K : Act) (D : Addr) (a b : List PyData) : Out K -> Prop
 | nx (t : List PyData) (h : dM (dedup b) (dedup a) = some t) (hz : t.length <= 10 ^ 5) : Gu K D a b (.next (Ju a b) [("t", D)] [bL K.c D (.list t)])
 | rt (h : tC a b = false) : Gu K D a b (.ret (.bool false))
inductive Mp (K : Act) (D : Addr) (a b : List PyData) (i : Nat) : Gam -> Ros -> Del K -> Prop
 | mk (t : List PyData) (h : dM (dedup b) ((dedup a).take i) = some t) (hz : t.length <= 10 ^ 5) (hc : ∀ y ∈ t, y.canLay0 = true) : Mp K D a b i (Ju a b) [("t", D)] [bL K.c D (.list t)]
theorem Mq (W : Wd1 c mg mb) (hl : l < 59) {a b : List PyData} (ha : iJ a) (hb : iJ b) : Fn c l "_compare_args_orderless" [.list a, .list b] (.bool (tC a b)) := by
 have hfa : ∀ d ∈ dedup a, d.canLay0 = true /\ d.depth <= 1000 := fun d hd => ⟨ha.can d (jF _ d hd), ha.dep d (jF _ d hd)⟩
 have hlb : (dedup b).length <= 10 ^ 5 := Nat.le_trans (pK _) hb.len
 refine W.call (dr1 24) (cO (i := 9) (by kernel_rfl)) ["first_args", "second_args"] (by decide +kernel) rfl (by omega) (fun pm code doc => rZ fun a b => by rfl) fun A s0 ad L X pm code doc hX hA => ?_
 refine Ex.new (.of fun X => .bN (wZ (W.push _) (by show l + 1 < 60; omega) ha) (.cons (.n m0) .nil)) ?_
 refine Ex.new (.of fun X => .bN (wZ (W.push _) (by show l + 1 < 60; omega) hb) (.cons (.n m2) .nil)) ?_
 refine Ex.own (fun X => .listOf (Jt (W.push _)) (.n m0) (by omega)) fun D => ?_
 refine Ex.cons (Gu _ D a b) (Ex1.try (T := "ValueError") (cls := "ValueError") (P := fun _ _ _ => tC a b = false) (rD (W.push _)) (by kernel_rfl) (by kernel_rfl) (by kernel_rfl) (by kernel_rfl) ?_ ?_) (fun _ _ _ h => ?_) (fun _ _ _ h => nomatch h) (fun _ _ _ h => nomatch h) (fun _ h => ?_)
 ·refine Ex.cons _ (Ex1.Am (fun i Γ R Δ => Mp _ D a b i Γ R Δ) (Gu _ D a b) (.of fun X => .ofList (.n m1))
   (.mk (dedup b) rfl hlb fun d hd => hb.can d (jF _ d hd)) (fun p h => h) (fun p h => h) (List.Sublist.refl _) hX ?_ ?_ ?_ (hE := jG.passes)) (fun _ _ _ h => .nil h) (fun _ _ _ h => nomatch h) (fun _ _ _ h => nomatch h) (fun _ h => h)
  ·rintro i _ _ _ ⟨_, _, _, _⟩
   exact ⟨bC (by kernel_rfl), iI (by kernel_rfl)⟩
  ·rintro i d _ _ _ r hd ⟨t, ht, hz, hc⟩
   have hdm : d ∈ dedup a := lG hd
   have e1 : dM (dedup b) ((dedup a).take (i + 1)) = if (t.any fun y => PyData.eqv y d) = true then some (lX d t) else none := by
    rw [List.take_add_one, hd, Option.toList_some, nJ, ht]
    rfl
   refine Ex.perm (List.Perm.swap ..) ?_
   cases hany : t.any fun y => PyData.eqv y d with
   | true =>
    rw [hany, if_pos rfl] at e1
    exact Ex.seq (Ex1.Ar m0 (.of fun X => .n m0) (by omega) hc (hfa d hdm).1 (hfa d hdm).2 hany) (Ex.perm (List.Perm.swap ..) (.wkG (Γ' := Ju a b) (fun p hp => .tail _ hp) (.nil (.inl ⟨_, _, _, .inl rfl, .mk _ e1 (Nat.le_trans (BW _ _) hz) fun y hy => hc y (BR _ _ y hy)⟩))))
   | false =>
    rw [hany] at e1
    refine Ex.cons (fun _ => False) (Ex1.Av m0 (fun E => .of fun X => .n m0) hc (hfa d hdm).1 (hfa d hdm).2 hany ?_ (hst := hA)) (fun _ _ _ h => h.elim) (fun _ _ _ h => h.elim) (fun _ _ _ h => h.elim) (fun _ h => h.elim)
    have : dM (dedup b) (dedup a) = none := by
     have := nJ ((dedup a).take (i + 1)) ((dedup a).drop (i + 1)) (dedup b)
     rw [List.take_append_drop, e1] at this
     exact this
    unfold tC
    rw [this]
  ·rintro _ _ _ ⟨t, ht, hz, _⟩
   rw [List.take_length] at ht
   exact .nx t ht hz
 ·intro e s1 X Γ R Δ hP S
  refine wpAny_execs_cons (wpAny_Return_some (wpAny_Constant_bool ?_))
  exact ⟨.bool false, .rt hP, ⟨X, [], S.weak (fun _ z => nomatch z) (fun _ z => nomatch z) (List.nil_sublist _), trivial⟩, .bool _⟩
 ·obtain ⟨t, ht, hz⟩ := h
  refine .ret (EvS.view m0 m0 (.inl rfl) fun X => .not (.n m0) (.list (by omega))) (.inl ?_)
  unfold tC
  rw [ht, Bool.not_not]
 ·cases h with
  | rt e => exact .inl (by rw [e])
theorem kY (W : Wd1 c mg mb) : Glb c "enumerate" (.type "enumerate") := W.blt (by kernel_rfl) (by kernel_rfl)
end
section
variable {mg mb : Str -> Option Value}
theorem BX (W : Wd1 c mg mb) : Glb c "type" (.type "type") := W.blt (by kernel_rfl) (by kernel_rfl)
theorem Ik (W : Wd1 c mg mb) : Glb c "str" (.type "str") := W.blt (by kernel_rfl) (by kernel_rfl)
theorem mJ (W : Wd1 c mg mb) : Glb c "bytes" (.type "bytes") := W.blt (by kernel_rfl) (by kernel_rfl)
theorem w6 (W : Wd1 c mg mb) : Glb c "issubclass" (.builtin "issubclass") := W.blt (by kernel_rfl) (by kernel_rfl)
theorem tD (W : Wd1 c mg mb) : Glb c "isinstance" (.builtin "isinstance") := W.blt (by kernel_rfl) (by kernel_rfl)
theorem tE (W : Wd1 c mg mb) (hl : l < 60) (x : Str) : Fn c l "fspath" [.str x] (.str x) := by
 refine W.call (dr1 15) (cO (i := 3) (by kernel_rfl)) ["path"] (by decide +kernel) rfl hl (fun pm code doc => bind1 fun a => by rfl) fun A s0 a L X pm code doc hX hA => ?_
 refine Ex.new (.of fun X => .bN (.ofT (BX (W.push _)) .Ih) (.cons (.n m0) .nil)) ?_
 refine Ex.cons (fun o => o = .ret (.str x)) (Ex1.ite (b := true) (EtS.of fun X => Et.Bs (.n m0) (w6 (W.push _)) (Ik (W.push _)) (mJ (W.push _))) (fun _ => Ex.ret (.of fun X => .n m1) rfl) (fun h => by cases h)) ?_ ?_ ?_ ?_
 ·intro _ _ _ h; cases h
 ·intro _ _ _ h; cases h
 ·intro _ _ _ h; cases h
 ·intro d h; exact .inl h
theorem Mr (W : Wd1 c mg mb) (hl : l < 60) (x : Str) : Fn c l "_get_sep" [.str x] (.str "/") := by
 refine W.call (dr1 19) (cO (i := 5) (by kernel_rfl)) ["path"] (by decide +kernel) rfl hl (fun pm code doc => bind1 fun a => by rfl) fun A s0 a L X pm code doc hX hA => ?_
 refine Ex.cons (fun o => o = .ret (.str "/")) (Ex1.ite (b := false) (EtS.of fun X => Et.isBytes (.n m0) (tD (W.push _)) (mJ (W.push _))) (fun h => by cases h) (fun _ => Ex.ret (.of fun X => .str) rfl)) ?_ ?_ ?_ ?_
 ·intro _ _ _ h; cases h
 ·intro _ _ _ h; cases h
 ·intro _ _ _ h; cases h
 ·intro d h; exact .inl h
end
noncomputable def jN : Option Obj -> FuncData
 | some o => match o.data with
  | .func fd => fd
  | _ => mfd (wY none) "" .none .none .none .none
 | none => mfd (wY none) "" .none .none .none .none
noncomputable abbrev F1 (w : World) : Frag := K1 w.params
theorem eO {d : DefRec} {q : Str} (hF : F.In c.base) (hl : c.base.NoLimit) (dv : Value) (ho : (F.lookup a).isSome = true) (hd : ((F.lookup a).map (·.data)) = some (.func (mfd d q dv (jN (F.lookup a)).pyModule (jN (F.lookup a)).code (jN (F.lookup a)).doc))) (hc : codeIn F (jN (F.lookup a)).code q = true) :
  ∃ pm code doc, FnAt c a (mfd d q dv pm code doc) d.body := by
 obtain ⟨o, e⟩ := Option.isSome_iff_exists.mp ho
 refine ⟨(jN (F.lookup a)).pyModule, (jN (F.lookup a)).code, (jN (F.lookup a)).doc, ⟨o, hF a o e, ?_⟩, codeRec_of hF hc, hl, rfl, rfl, rfl, rfl⟩
 rw [e] at hd ⊢
 exact Option.some.inj hd
theorem Jv (hF : (F1 c.w).In c.base) (hl : c.base.NoLimit) : ∃ pm code doc, FnAt c 73 (mfd (dm1 6 0) "TopologicalSorter.__init__" (jN ((F1 c.w).lookup 73)).defaults pm code doc) (dm1 6 0).body := eO hF hl _ (by kernel_rfl) (by kernel_rfl) (by kernel_rfl)
theorem Jw (hF : (F1 c.w).In c.base) (hl : c.base.NoLimit) : ∃ pm code doc, FnAt c 80 (mfd (dm1 6 1) "TopologicalSorter._get_nodeinfo" .none pm code doc) (dm1 6 1).body := eO hF hl .none (by kernel_rfl) (by kernel_rfl) (by kernel_rfl)
theorem Ms (hF : (F1 c.w).In c.base) (hl : c.base.NoLimit) : ∃ pm code doc, FnAt c 87 (mfd (dm1 6 2) "TopologicalSorter.add" .none pm code doc) (dm1 6 2).body := eO hF hl .none (by kernel_rfl) (by kernel_rfl) (by kernel_rfl)
theorem zq (hF : (F1 c.w).In c.base) (hl : c.base.NoLimit) : ∃ pm code doc, FnAt c 92 (mfd (dm1 6 3) "TopologicalSorter.prepare" .none pm code doc) (dm1 6 3).body := eO hF hl .none (by kernel_rfl) (by kernel_rfl) (by kernel_rfl)
theorem Gv (hF : (F1 c.w).In c.base) (hl : c.base.NoLimit) : ∃ pm code doc, FnAt c 99 (mfd (dm1 6 4) "TopologicalSorter.get_ready" .none pm code doc) (dm1 6 4).body := eO hF hl .none (by kernel_rfl) (by kernel_rfl) (by kernel_rfl)
theorem BZ (hF : (F1 c.w).In c.base) (hl : c.base.NoLimit) : ∃ pm code doc, FnAt c 106 (mfd (dm1 6 5) "TopologicalSorter.is_active" .none pm code doc) (dm1 6 5).body := eO hF hl .none (by kernel_rfl) (by kernel_rfl) (by kernel_rfl)
theorem Jx (hF : (F1 c.w).In c.base) (hl : c.base.NoLimit) : ∃ pm code doc, FnAt c 120 (mfd (dm1 6 7) "TopologicalSorter.done" .none pm code doc) (dm1 6 7).body := eO hF hl .none (by kernel_rfl) (by kernel_rfl) (by kernel_rfl)
theorem Gw (hF : (F1 c.w).In c.base) (hl : c.base.NoLimit) : ∃ pm code doc, FnAt c 127 (mfd (dm1 6 8) "TopologicalSorter._find_cycle" .none pm code doc) (dm1 6 8).body := eO hF hl .none (by kernel_rfl) (by kernel_rfl) (by kernel_rfl)
theorem Gx (hF : (F1 c.w).In c.base) (hl : c.base.NoLimit) : ∃ pm code doc, FnAt c 36 (mfd (dm1 4 1) "_NodeInfo.__init__" .none pm code doc) (dm1 4 1).body := eO hF hl .none (by kernel_rfl) (by kernel_rfl) (by kernel_rfl)
section
variable {mg mb : Str -> Option Value}
theorem Wd.lim {p : Program} {loose : List Str} {mg mb : Str -> Option Value} (W : Wd c p loose mg mb) {d : DefRec} (hd : d ∈ recsOf p) : c.base.NoLimit := let ⟨_, _, _, _, _, F⟩ := W.fn d hd; F.lim
theorem Wd1.lim (W : Wd1 c mg mb) : c.base.NoLimit := Wd.lim W (cO (i := 8) (a := dr1 23) (by kernel_rfl))
theorem nM {ps : List Str} (hlen : ps.length = ds.length) (h : ∀ vs : List Value, vs.length = ps.length -> bindArgs fd ⟨vs, []⟩ = pure (ps.zip vs)) (A : Around) (X : List Addr) (s : Shared) (vs : List Value) (B : Bas c A X s.heap) (r : RdL c.w X s.heap vs ds) :
  wpAny c.M A.in1 (bindArgs fd ⟨vs, []⟩) (fun binds s1 => Pst c s s1 /\ ∃ us, binds = ps.zip us /\ RdL c.w X s1.heap us ds) NoE s := by
 rw [h vs (by rw [r.length, hlen])]
 exact wP ⟨.refl, vs, rfl, r⟩
theorem g_bool (W : Wd1 c mg mb) : Glb c "bool" (.type "bool") := W.blt (by kernel_rfl) (by kernel_rfl)
theorem EvS.n {E : Err} {x : Str} (h : (x, d) ∈ Γ) (hd : autoParam ((x == ("__debug__" : Str)) = false) aK) : EvS K A s0 E Γ R Δ (.Name x pos) d := .of fun X => .name h hd
end
variable {n : Nat}
section
variable {mg mb : Str -> Option Value}
noncomputable def cM (path b : Str) : Str :=
 if (Txt.startswith b "/" || !((path.length : Int) != 0)) = true then b else if Txt.endswith path "/" = true then path ++ b else path ++ (("/" : Str) ++ b)
theorem Jy (W : Wd1 c mg mb) (hl : l < 58) (a : Str) (xs : List Str) (hxs : xs.length <= 1000) (hb : ∀ b ∈ xs, b.length <= 100) (hp : ∀ i, ((xs.take i).foldl cM a).length <= 500) : Fn c l "join" (.str a :: xs.map .str) (.str (xs.foldl cM a)) := by
 obtain ⟨f, pm, code, doc, hm, F⟩ := W.fn (dr1 20) (cO (i := 6) (by kernel_rfl))
 obtain ⟨o, ho, hdat⟩ := F.at_
 refine ⟨.ref f, mY W.g hm, qI ho hdat, aO.ofA (gj (ps := ["a", "p"]) (es := [.str a, .tuple (xs.map .str)]) F (show fG (dr1 20).scope _ = true by decide +kernel) (by omega) rfl (pW (by rw [List.length_map]; omega) fun a vs => by cases vs <;> rfl) fun A s0 ad X0 hX hA => ?_)⟩
 refine Ex.set (Γ1 := [("p", .tuple (xs.map .str))]) (.of fun X => .bN (tE (W.push ad) (show l + 1 < 60 by omega) a) (.cons (.n m0) .nil)) ?_
 refine Ex.new (.of fun X => .bN (Mr (W.push ad) (show l + 1 < 60 by omega) a) (.cons (.n m0) .nil)) ?_
 refine Ex.new (.of fun X => .n m1) ?_
 refine Ex.seq (Γ1 := [("path", .str (xs.foldl cM a))]) (R1 := []) (Δ1 := []) (Ex1.Bt (Ex.seq (Ex1.yD (ks := xs) (g := .str) (fun i => [("path", .str ((xs.take i).foldl cM a)), ("sep", .str "/")]) (fun _ => []) (.of fun X => .iG (.n m3)) (au m0 (au m1 bU)) hX (fun i b r hb1 => ?_) rfl) (.wkG (au (by rw [List.take_length]; exact m0) bU) (.nil rfl)))) (Ex.ret (.of fun X => .n m0) ?_ ?_)
 ·have hbm : b ∈ xs := lG hb1
  have hbl := hb b hbm
  have hpl := hp i
  have e1 : (xs.take (i + 1)).foldl cM a = cM ((xs.take i).foldl cM a) b := by
   rw [List.take_add_one, hb1, Option.toList_some, List.foldl_append]; rfl
  rw [e1]
  generalize (xs.take i).foldl cM a = cur at hpl ⊢
  refine Ex.set (Γ1 := [("path", .str cur), ("sep", .str "/")]) (.of fun X => .bN (tE (W.push ad) (show l + 1 < 60 by omega) b) (.cons (.n m0) .nil)) ?_
  refine Ex.seq (Γ1 := [("path", .str (cM cur b)), ("sep", .str "/")]) (R1 := []) (Δ1 := [r]) ?_ (.nil rfl)
  refine Ex1.ite (EtS.of fun X => .or2 (.val (.rz (.n m0) (.n m2)) .bool) fun h => .not (.val (.n m1) (.str (by omega)))) (fun h => ?_) fun h => ?_
  ·refine Ex.set (Γ1 := [("b", .str b), ("sep", .str "/")]) (.of fun X => .n m0) ?_
   unfold cM
   rw [if_pos h]
   exact Ex.fin (au m0 (au m2 bU))
  ·have hn : ¬ (Txt.startswith b "/" || !((cur.length : Int) != 0)) = true := by rw [h]; exact Bool.false_ne_true
   unfold cM
   rw [if_neg hn]
   refine Ex.seq (Γ1 := _) (R1 := []) (Δ1 := [r]) (Ex1.ite (EtS.of fun X => .val (.LK (.n m1) (.n m2)) .bool) (fun h => ?_) fun h => ?_) (.nil rfl)
   ·rw [if_pos h]
    refine Ex.aug (Γ1 := [("b", .str b), ("sep", .str "/")]) (d1 := .str cur) (d2 := .str b) m1 (fun X => .n m0) (.Ii (by omega)) ?_
    exact Ex.fin (au m0 (au m2 bU))
   ·rw [if_neg (by rw [h]; exact Bool.false_ne_true)]
    have h1 : ((("/" : Str)) ++ b).length <= 101 := by
     rw [Str.length_append]
     have : (("/" : Str)).length = 1 := by decide
     omega
    refine Ex.aug (Γ1 := [("b", .str b), ("sep", .str "/")]) (d1 := .str cur) (d2 := .str (("/" : Str) ++ b)) m1 (fun X => .binop (.n m2) (.n m0) (.LC (by
     have : (("/" : Str)).length = 1 := by decide
     omega))) (.Ii (by omega)) ?_
    exact Ex.fin (au m0 (au m2 bU))
 ·trivial
 ·exact ⟨[], List.nil_sublist _, rfl, [], List.nil_sublist _, ⟨rfl, rfl⟩, fun _ h => h⟩
end
noncomputable def lcp : List Str -> List Str -> List Str
 | x :: xs, y :: ys => if x = y then x :: lcp xs ys else []
 | _, _ => []
theorem tG : ∀ xs ys : List Str, lcp xs ys = lcp ys xs
 | [], [] => rfl
 | [], _ :: _ => rfl
 | _ :: _, [] => rfl
 | x :: xs, y :: ys => by
  unfold lcp
  by_cases h : x = y
  ·subst h; simp [tG xs ys]
  ·rw [if_neg h, if_neg (Ne.symm h)]
theorem Ca : ∀ (i : Nat) (xs ys : List Str) {x y : Str}, xs.take i = ys.take i -> xs[i]? = some x -> ys[i]? = some y -> x ≠ y -> lcp xs ys = xs.take i
 | 0, x' :: xs, y' :: ys, x, y, _, h1, h2, hn => by
  cases h1; cases h2
  unfold lcp
  rw [if_neg hn]; rfl
 | i + 1, x' :: xs, y' :: ys, x, y, h, h1, h2, hn => by
  rw [List.take_succ_cons, List.take_succ_cons] at h
  injection h with h3 h4
  unfold lcp
  rw [if_pos h3, List.take_succ_cons, Ca i xs ys h4 (by simpa using h1) (by simpa using h2) hn]
 | _, [], _, _, _, _, h1, _, _ => by cases h1
 | _, _ :: _, [], _, _, _, _, h2, _ => by cases h2
theorem w7 : ∀ (xs ys : List Str), xs.take xs.length = ys.take xs.length -> lcp xs ys = xs
 | [], ys, _ => by cases ys <;> rfl
 | x :: xs, [], h => by simp at h
 | x :: xs, y :: ys, h => by
  rw [List.length_cons, List.take_succ_cons, List.take_succ_cons] at h
  injection h with h3 h4
  unfold lcp
  rw [if_pos h3, w7 xs ys h4]
theorem nO {f : Str -> Str -> Bool} {g : Nat -> Nat -> Bool} : ∀ (i : Nat) (xs ys : List Str), xs.take i = ys.take i -> (xs.length <= i \/ ys.length <= i) -> ∃ k, gZ f g xs ys = g (xs.length - k) (ys.length - k) /\ k <= xs.length /\ k <= ys.length
 | 0, xs, ys, _, h => by
  refine ⟨0, ?_, Nat.zero_le _, Nat.zero_le _⟩
  rw [g8]
  ·rfl
  ·rcases h with h | h
   ·exact .inl (List.eq_nil_of_length_eq_zero (by omega))
   ·exact .inr (List.eq_nil_of_length_eq_zero (by omega))
 | i + 1, [], ys, _, _ => ⟨0, by rw [g8 (.inl rfl)]; rfl, Nat.zero_le _, Nat.zero_le _⟩
 | i + 1, x :: xs, [], _, _ => ⟨0, by rw [g8 (.inr rfl)]; rfl, Nat.zero_le _, Nat.zero_le _⟩
 | i + 1, x :: xs, y :: ys, h, hl => by
  rw [List.take_succ_cons, List.take_succ_cons] at h
  injection h with h3 h4
  obtain ⟨k, e, h5, h6⟩ := nO (f := f) (g := g) i xs ys h4 (by simpa using hl)
  refine ⟨k + 1, ?_, by simpa using h5, by simpa using h6⟩
  have : gZ f g (x :: xs) (y :: ys) = gZ f g xs ys := by rw [gZ, if_pos h3]
  rw [this, e]
  simp
noncomputable abbrev pq (a b : List Str) : List Str := if ltL b a then b else a
noncomputable abbrev vI (a b : List Str) : List Str := if gtL b a then b else a
theorem kZ : ∀ a b : List Str, gtL b a = true -> ltL b a = true -> False
 | [], [], h, _ => by simp [gZ] at h
 | [], y :: ys, _, h => by simp [gZ] at h
 | x :: xs, [], h, _ => by simp [gZ] at h
 | x :: xs, y :: ys, h1, h2 => by
  unfold gtL gZ at h1
  unfold ltL gZ at h2
  by_cases h : y = x
  ·rw [if_pos h] at h1 h2
   exact kZ xs ys h1 h2
  ·rw [if_neg h] at h1 h2
   exact absurd (of_decide_eq_true h1) (List.lt_asymm (of_decide_eq_true h2))
theorem qe : ∀ a b : List Str, gtL b a = false -> ltL b a = false -> a = b
 | [], [], _, _ => rfl
 | [], y :: ys, h, _ => by simp [gZ] at h
 | x :: xs, [], _, h => by simp [gZ] at h
 | x :: xs, y :: ys, h1, h2 => by
  unfold gtL gZ at h1
  unfold ltL gZ at h2
  by_cases h : y = x
  ·rw [if_pos h] at h1 h2
   rw [h, qe xs ys h1 h2]
  ·rw [if_neg h] at h1 h2
   have e := List.le_antisymm (as := x.cps.toList) (bs := y.cps.toList) (of_decide_eq_false h2) (of_decide_eq_false h1)
   refine absurd ?_ h
   cases x; cases y
   simp only [Str.mk.injEq]
   exact (Array.toList_inj.mp e).symm
theorem Jz (a b : List Str) : lcp (pq a b) (vI a b) = lcp a b := by
 unfold pq vI
 cases h1 : ltL b a with
 | true =>
  cases h2 : gtL b a with
  | true => exact (kZ a b h2 h1).elim
  | false => exact tG b a
 | false =>
  cases h2 : gtL b a with
  | true => rfl
  | false => rw [qe a b h2 h1]; rfl
theorem JB (a b : List Str) {i : Nat} (h : (pq a b).take i = (vI a b).take i) (hi : i < (pq a b).length) : i < (vI a b).length := by
 unfold pq vI at *
 cases h1 : ltL b a with
 | true =>
  cases h2 : gtL b a with
  | true => exact (kZ a b h2 h1).elim
  | false =>
   rw [h1, h2] at h
   rw [h1] at hi
   simp only [if_true, Bool.false_eq_true, if_false] at *
   refine Nat.lt_of_not_le fun hle => ?_
   obtain ⟨k, e, k1, k2⟩ := nO (f := ltS) (g := fun m n => decide (m < n)) i b a h (.inr hle)
   have : ltL b a = decide (b.length - k < a.length - k) := e
   rw [h1] at this
   exact absurd (of_decide_eq_true this.symm) (Nat.not_lt.mpr (Nat.sub_le_sub_right (Nat.le_of_lt (Nat.lt_of_le_of_lt hle hi)) k))
 | false =>
  cases h2 : gtL b a with
  | false =>
   rw [h1] at hi
   simpa using hi
  | true =>
   rw [h1, h2] at h
   rw [h1] at hi
   simp only [if_true, Bool.false_eq_true, if_false] at *
   refine Nat.lt_of_not_le fun hle => ?_
   obtain ⟨k, e, k1, k2⟩ := nO (f := gtS) (g := fun m n => decide (m > n)) i b a h.symm (.inl hle)
   have : gtL b a = decide (b.length - k > a.length - k) := e
   rw [h2] at this
   exact absurd (of_decide_eq_true this.symm) (Nat.not_lt.mpr (Nat.sub_le_sub_right (Nat.le_of_lt (Nat.lt_of_le_of_lt hle hi)) k))
section
variable {mg mb : Str -> Option Value}
theorem jO {D : cV} : bf [(a, D)] a D' = [(a, D')] := by simp [bf]
noncomputable abbrev xg (dx : Addr) (ns : List Str) (k : PyData) (np : Int) (li : Addr) : cV := .inst 40 dx ns [] [(2, opq li), (1, .int np), (0, k)]
theorem Gy (W : Wd1 c mg mb) (hF : (F1 c.w).In c.base) (hl : l < 58) {x dx : Addr} {ns : List Str} {k : PyData} (hk : flat k = true) :
  FnA c l 36 [opq x, k] [(x, .inst 40 dx ns [] [])] (fun d L' => d = .none /\ ∃ li, L' = [(li, .data (.list [])), (x, xg dx ns k 0 li)]) := by
 obtain ⟨pm, code, doc, Fm⟩ := Gx hF W.lim
 refine gj (ps := ["self", "node"]) Fm (show fG (dm1 4 1).scope _ = true by decide +kernel) (by omega) rfl (nM rfl (rZ fun a b => by rfl)) fun A s0 ad X0 hX hA => ?_
 have hF' : (F1 c.w).In (c.push ad).base := hF
 have e0 : ∀ (K : Act) (L : aP), aj K.c L = aj K.c L ++ ([] : Del K) := fun K L => (List.append_nil _).symm
 rw [e0]
 refine Ex.seq (Ex1.setG (F := F1 c.w) (d := k) (C := 40) (dx := dx) (ns := ns) (fs := []) (gs := []) (a := x) (p := 41) (i := 0) hF' (.n m1) (.n m0) hk (.head _) (by kernel_rfl)) ?_
 rw [jO]
 refine Ex.seq (Ex1.setG (F := F1 c.w) (d := .int 0) (C := 40) (dx := dx) (ns := ns) (fs := []) (gs := [(0, k)]) (a := x) (p := 42) (i := 1) hF' (.of fun X => .int) (.n m0) rfl (.head _) (by kernel_rfl)) ?_
 rw [jO]
 refine Ex.j9 (Ex1.K9 (F := F1 c.w) (d := .list []) (C := 40) (dx := dx) (ns := ns) (fs := []) (gs := [(1, .int 0), (0, k)]) (a := x) (p := 43) (i := 2) hF' (fun X => .nil) (fun D => .n m0) (.head _) (by kernel_rfl)) fun o ho => ?_
 obtain ⟨D, hD, rfl⟩ := ho
 refine ⟨_, _, _, rfl, .nil ?_⟩
 rw [jO]
 refine ⟨rfl, _, by rw [List.append_nil]; exact List.Sublist.refl _, ⟨rfl, D, rfl⟩, fun a ha => ?_⟩
 exact lR [D] ha
end
section
variable {mg mb : Str -> Option Value} [DecidableEq κ]
theorem JC (W : Wd1 c mg mb) (hF : (F1 c.w).In c.base) : Glb c "_NodeInfo" (.ref 40) := mY W.g (mg_of hF W.g (by kernel_rfl))
theorem k_node (W : Wd1 c mg mb) (hF : (F1 c.w).In c.base) : gO c (.ref 40) := jr hF (by kernel_rfl)
theorem JD (W : Wd1 c mg mb) (hF : (F1 c.w).In c.base) (hl : l < 57) {k : PyData} (hk : flat k = true) :
  FnA c l 40 [k] [] (fun d L' => ∃ x dx, d = opq x /\ x ∈ fpA L' /\ ∃ li, L' = [(li, .data (.list [])), (x, xg dx [] k 0 li)]) :=
 H8 (F := F1 c.w) (fI := 36) hF (by omega) (by kernel_rfl) (by kernel_rfl) (by kernel_rfl) fun x dx => Gy W hF (by omega) hk
noncomputable abbrev sa1 (S Sx N2 : Addr) : SA := ⟨137, 40, S, Sx, N2⟩
noncomputable def Cd (st : St κ) (k : κ) (st' : St κ) : Prop := (k ∈ st.keys /\ st' = st) \/ (k ∉ st.keys /\ ∃ x dx li, st' = { st with nds := st.nds ++ [⟨k, x, dx, li, 0, []⟩] })
inductive Ce (a : SA) (enc : κ -> PyData) (st : St κ) (k : κ) (L : aP) (d : PyData) (L' : aP) : Prop
 | mk (st' : St κ) (n : Nd κ) (e : d = opq n.x) (hn : n ∈ st'.nds) (hk : n.k = k) (H : Srt a enc st' L') (hE : gW L L') (hI : Cd st k st')
theorem JF (hi : ∀ a b, enc a = enc b -> a = b) {kvs kvs' : List (κ × PyData)} (h : dD enc kvs = dD enc kvs') : kvs = kvs' := by
 refine List.map_inj_right (fun a b e => ?_) |>.mp (PyData.dict.inj h)
 obtain ⟨e1, e2⟩ := Prod.mk.inj e
 exact Prod.ext (hi _ _ e1) e2
theorem Cg {dk : bh c.w κ} {st : St κ} (h : Srt (sa1 S Sx N2) dk.enc st L) {k : κ} (hk : k ∉ st.keys) {d : PyData} {L' : aP} {kvs : List (κ × PyData)}
  (hP : ∃ L1, (∃ x dx, d = opq x /\ x ∈ fpA L1 /\ ∃ li, L1 = [(li, .data (.list [])), (x, xg dx [] (dk.enc k) 0 li)]) /\ L' = L1 ++ L) (hnd : (L'.map (·.1)).Nodup) (hkv : (N2, .data (dD dk.enc kvs)) ∈ L') :
  Ce (sa1 S Sx N2) dk.enc st k L d (bf L' N2 (.data (dD dk.enc (kvs ++ [(k, d)])))) := by
 obtain ⟨L1, ⟨x, dx, rfl, _, li, rfl⟩, rfl⟩ := hP
 rw [JF dk.inj (cV.data.inj (Bd hnd hkv (lR _ h.map)))]
 have hx : x ≠ li := fun e => (List.nodup_cons.mp hnd).1 (e ▸ .head _)
 have q := h.addN (n := ⟨k, x, dx, li, 0, []⟩) (L1 := [(li, .data (.list [])), (x, xg dx [] (dk.enc k) 0 li)]) hk hnd ⟨⟨_, m1, m2, m1, m0⟩, m0⟩ hx
 exact ⟨_, _, rfl, lR _ (.head _), rfl, q.1, q.2, .inr ⟨hk, x, dx, li, rfl⟩⟩
theorem Ci (W : Wd1 c mg mb) (hF : (F1 c.w).In c.base) (hl : l < 55) (dk : bh c.w κ) {S Sx N2 : Addr} {st : St κ} {L : aP} (h : Srt (sa1 S Sx N2) dk.enc st L) (k : κ) (hz : st.nds.length <= 10 ^ 6) :
  FnA c l 80 [opq S, dk.enc k] L (Ce (sa1 S Sx N2) dk.enc st k L) := by
 obtain ⟨pm, code, doc, Fm⟩ := Jw hF W.lim
 refine gj (ps := ["self", "node"]) Fm (show fG (dm1 6 1).scope _ = true by decide +kernel) (by omega) rfl (nM rfl (rZ fun a b => by rfl)) fun A s0 ad X0 hX hA => ?_
 have hF' : (F1 c.w).In (c.push ad).base := hF
 obtain ⟨fs, s1, s2, s3, _, _⟩ := h.self
 have e0 : ∀ (K : Act) (L : aP), aj K.c L = aj K.c L ++ ([] : Del K) := fun K L => (List.append_nil _).symm
 rw [e0]
 refine Ex.j9 (O1 := fun o => ∃ d L', Ce (sa1 S Sx N2) dk.enc st k L d L' /\ o = .next [("result", d), ("self", opq S), ("node", dk.enc k)] [] (aj _ L' ++ [])) (Ex1.Lf (d := (cj (st.nds.map fun n => (n.k, opq n.x)) k).getD .none) (EvS.Lb (κ := κ) dk (D := N2) (W.push ad).sys (EvS.fld (F := F1 c.w) hF' (.n m0) s1 s2 (by kernel_rfl)) (.n m1) h.map) ?_ (fun hn => ?_) (fun hn => ?_)) ?_
 ·rcases gC (st := st) (k := k) with ⟨_, e⟩ | ⟨n, _, _, e⟩ <;> rw [e] <;> rfl
 ·rcases gC (st := st) (k := k) with ⟨hk, e⟩ | ⟨n, _, _, e⟩
  ·refine Ex.wkG (Γ' := [("self", opq S), ("node", dk.enc k)]) (fun p hp => .tail _ hp) ?_
   refine Ex.j9 (Ex1.Bf (κ := κ) dk (D := N2) (k := k) (EvX.know (φ := fun d L' => (L'.map (·.1)).Nodup) (EvX.cls (JC (W.push ad) hF') (k_node (W.push ad) hF') (JD (W.push ad) hF' (show l + 1 < 57 by omega) (dk.flat k)) (.one (.n m1))) fun d L' s X _ S => S.Jb) ?_ ?_ ?_) ?_
   ·rintro d L' ⟨⟨L1, _, rfl⟩, _⟩
    exact .fld (F := F1 c.w) hF' (.n m0) (lR _ s1) s2 (by kernel_rfl)
   ·rintro d L' ⟨⟨L1, _, rfl⟩, _⟩
    exact .n m1
   ·rintro d L' ⟨⟨L1, ⟨x, dx, rfl, _⟩, rfl⟩, _⟩
    refine ⟨rfl, _, lR _ h.map, by rw [List.length_map]; exact hz, ?_⟩
    rw [List.map_map]; exact hk
   ·rintro o ⟨d, L', kvs, hP, hkv, e⟩
    exact ⟨_, _, _, e, .nil ⟨_, _, Cg h hk hP.1 hP.2 hkv, rfl⟩⟩
  ·rw [e] at hn; cases hn
 ·rcases gC (st := st) (k := k) with ⟨hk, e⟩ | ⟨n, hn1, hn2, e⟩
  ·rw [e] at hn; cases hn
  ·rw [e]
   refine .nil ⟨_, L, ⟨st, n, rfl, hn1, hn2, h, .refl, .inl ⟨?_, rfl⟩⟩, rfl⟩
   rw [<- hn2]
   exact lM (f := (·.k)) hn1
 ·rintro _ ⟨d, L', hP, rfl⟩
  refine ⟨_, _, _, rfl, .ret (d := d) (.n m0) trivial ⟨_, List.Sublist.refl _, ?_, L', by rw [List.append_nil]; exact List.Sublist.refl _, hP, ?_⟩⟩
  ·obtain ⟨st', n, rfl, _⟩ := hP; rfl
  ·obtain ⟨st', n, _, _, _, _, hE, _⟩ := hP; exact hE
end
section
variable {E : Err} {T : Del K} {P : aP -> Prop}
noncomputable def At (K : Act) (Γ0 : Gam) (T : Del K) (P : aP -> Prop) : Out K -> Prop
 | .next Γ R Δ => Γ = Γ0 /\ R = [] /\ ∃ L, Δ = aj K.c L ++ T /\ P L
 | _ => False
theorem Ex.at (hP : P L) : Ex K A s0 E Γ0 [] (aj K.c L ++ T) [] (At K Γ0 T P) := .nil ⟨rfl, rfl, L, rfl, hP⟩
theorem Ex.atW (hg : ∀ p ∈ Γ0, p ∈ Γ) (hP : P L) : Ex K A s0 E Γ [] (aj K.c L ++ T) [] (At K Γ0 T P) := .wkG hg (.at hP)
theorem Ex.rE {st : Stmt} (h : Ex1 K A s0 E Γ R Δ st (At K Γ0 T P)) (k : ∀ L, P L -> Ex K A s0 E Γ0 [] (aj K.c L ++ T) ss O) : Ex K A s0 E Γ R Δ (st :: ss) O :=
 .cons _ h (fun _ _ _ e => by obtain ⟨rfl, rfl, L, rfl, hp⟩ := e; exact k L hp) (fun _ _ _ e => e.elim) (fun _ _ _ e => e.elim) fun _ e => e.elim
theorem Ex.xq (h : Ex K A s0 E Γ R Δ ss (At K Γ0 (r :: T) P)) : Ex K A s0 E Γ R Δ ss fun o => ∃ L', o = .next Γ0 [] (r :: (aj K.c L' ++ T)) /\ P L' := fun s X S =>
 wK (h s X S) (fun f s' hp => by
  cases f with
  | next =>
   obtain ⟨X, _, _, _, ⟨rfl, rfl, L', rfl, q⟩, S'⟩ := hp
   exact ⟨X, _, _, _, ⟨L', rfl, q⟩, S'.perm cY.symm⟩
  | brk => obtain ⟨_, _, _, _, q, _⟩ := hp; exact q.elim
  | cont => obtain ⟨_, _, _, _, q, _⟩ := hp; exact q.elim
  | ret v => obtain ⟨_, q, _⟩ := hp; exact q.elim)
theorem Ex1.forL {x : Str} {ks : List α} (P : Nat -> aP -> Prop) (hI : oM K A s0 E Γ [] (aj K.c L ++ T) false iter (ks.map g)) (h0 : P 0 L) (hg : ∀ p ∈ Γ0, p ∈ Γ) (hx0 : dg K s0)
  (hb : ∀ i k L (r : Res K.c), ks[i]? = some k -> P i L -> Ex K A s0 E ((x, g k) :: Γ0) [] (aj K.c L ++ r :: T) body (At K Γ0 (r :: T) (P (i + 1))))
  (hoff : autoParam (offB [x] (Γ0.map (·.1)) = true) aK) (hsub : autoParam (subB [x] K.xs = true) aK) (hd : autoParam ((x == ("__debug__" : Str)) = false) aK) (hfold : autoParam (∀ x, foldedSetIterable iter K.env x = pure x) aI) (hE : autoParam (PassesOwn K.c.M A K.env E) aE) :
  Ex1 K A s0 E Γ [] (aj K.c L ++ T) (.For (.Name x p) iter body [] pos) (At K Γ0 T (P ks.length)) := by
 refine Ex1.Am (fun i Γ' R Δ => Γ' = Γ0 /\ R = [] /\ ∃ L, Δ = aj K.c L ++ T /\ P i L) _ hI ⟨rfl, rfl, L, rfl, h0⟩ hg (fun p h => h) (List.Sublist.refl _) hx0 ?_ ?_ ?_ hsub hd hfold hE
 ·rintro i _ _ _ ⟨rfl, rfl, _⟩
  exact ⟨bC hoff, fun p h => nomatch h⟩
 ·rintro i d _ _ _ r hd ⟨rfl, rfl, L, rfl, hp⟩
  obtain ⟨k, hk⟩ := dO hd
  refine Ex.weaken (Ex.xq (Ex.perm cY (hb i k L r hk hp))) fun o ho => .inl ?_
  obtain ⟨L', rfl, q⟩ := ho
  exact ⟨_, _, _, .inl rfl, rfl, rfl, L', rfl, q⟩
 ·rintro _ _ _ ⟨rfl, rfl, L, rfl, hp⟩
  rw [List.length_map] at hp
  exact ⟨rfl, rfl, L, rfl, hp⟩
theorem Ex1.Il {x y : Str} {q r : Pos} {k : Nat} {L : List (α × β)} {M : aP} (P : Nat -> aP -> Prop) (hI : oM K A s0 E Γ [] (aj K.c M ++ T) true iter (L.map fun z => .tuple [g1 z.1, g2 z.2])) (h0 : P 0 M) (hg : ∀ p ∈ Γ0, p ∈ Γ) (hx0 : dg K s0)
  (hb : ∀ i a b M (r : Res K.c), L[i]? = some (a, b) -> P i M -> Ex K A s0 E ((y, g2 b) :: (x, g1 a) :: Γ0) [] (aj K.c M ++ r :: T) body (At K Γ0 (r :: T) (P (i + 1)))) (h1 : ∀ a b, g1 a = g1 b -> a = b) (h2 : ∀ a b, g2 a = g2 b -> a = b)
  (hoff : autoParam (offB [x, y] (Γ0.map (·.1)) = true) aK) (hsub : autoParam (subB [x, y] K.xs = true) aK) (hd : autoParam ((y != x) = true) aK) (hfold : autoParam (∀ x, foldedSetIterable iter K.env x = pure x) aI) (hE : autoParam (PassesOwn K.c.M A K.env E) aE) :
  Ex1 K A s0 E Γ [] (aj K.c M ++ T) (.For (.Tuple [.Name x p, .Name y q] k r) iter body [] pos) (At K Γ0 T (P L.length)) := by
 refine Ex1.I5 (L := L) (g1 := g1) (g2 := g2) (fun i Γ' R Δ => Γ' = Γ0 /\ R = [] /\ ∃ L, Δ = aj K.c L ++ T /\ P i L) _ hI ⟨rfl, rfl, M, rfl, h0⟩ hg (fun p h => h) (List.Sublist.refl _) hx0 ?_ ?_ ?_ h1 h2 hsub hd hfold hE
 ·rintro i _ _ _ ⟨rfl, rfl, _⟩
  exact ⟨bC hoff, fun p h => nomatch h⟩
 ·rintro i a b _ _ _ r hd ⟨rfl, rfl, L, rfl, hp⟩
  refine Ex.weaken (Ex.xq (Ex.perm cY (hb i a b L r hd hp))) fun o ho => .inl ?_
  obtain ⟨L', rfl, q⟩ := ho
  exact ⟨_, _, _, .inl rfl, rfl, rfl, L', rfl, q⟩
 ·rintro _ _ _ ⟨rfl, rfl, L, rfl, hp⟩
  exact ⟨rfl, rfl, L, rfl, hp⟩
theorem At.turn {o : Out K} (h : At K Γ0 (r :: T) P o) : ∃ Γ' R' L', (o = .next Γ' R' (aj K.c L' ++ r :: T) \/ o = .cont Γ' R' (aj K.c L' ++ r :: T)) /\ (Γ' = Γ0 /\ R' = [] /\ P L') := by
 cases o with
 | next =>
  obtain ⟨rfl, rfl, L', rfl, q⟩ := h
  exact ⟨_, _, L', .inl rfl, rfl, rfl, q⟩
 | _ => exact h.elim
theorem Ex1.Mt {x : Str} {ks : List α} (P : Nat -> aP -> Prop) (hI : EvS K A s0 E Γ [] (aj K.c L ++ T) iter (opq D)) (hfl : ∀ k ∈ ks, flat (g k) = true) (h0 : P 0 L) (hg : ∀ p ∈ Γ0, p ∈ Γ) (hx0 : dg K s0)
  (hD : ∀ i L, P i L -> (D, .data (.list (ks.map g))) ∈ L)
  (hb : ∀ i k L (r : Res K.c), ks[i]? = some k -> P i L -> Ex K A s0 E ((x, g k) :: Γ0) [] (aj K.c L ++ r :: T) body (At K Γ0 (r :: T) (P (i + 1))))
  (hoff : autoParam (offB [x] (Γ0.map (·.1)) = true) aK) (hsub : autoParam (subB [x] K.xs = true) aK) (hdb : autoParam ((x == ("__debug__" : Str)) = false) aK) (hfold : autoParam (∀ x, foldedSetIterable iter K.env x = pure x) aI) (hE : autoParam (PassesOwn K.c.M A K.env E) aE) :
  Ex1 K A s0 E Γ [] (aj K.c L ++ T) (.For (.Name x p) iter body [] pos) (At K Γ0 T (P ks.length)) := by
 refine Ex1.forD (D := D) (ds := ks.map g) (fun i Γ' R L => Γ' = Γ0 /\ R = [] /\ P i L) _ hI (fun d hd => by obtain ⟨k, hk⟩ := bx hd; exact hfl k hk) ⟨rfl, rfl, h0⟩ hg (fun p h => h) hx0 ?_ ?_ ?_ hsub hdb hfold hE
 ·rintro i _ _ L ⟨rfl, rfl, hp⟩
  exact ⟨bC hoff, (fun p h => nomatch h), hD i L hp⟩
 ·rintro i d _ _ L r hd ⟨rfl, rfl, hp⟩
  obtain ⟨k, hk⟩ := dO hd
  exact Ex.weaken (hb i k L r hk hp) fun o ho => At.turn ho
 ·rintro _ _ L ⟨rfl, rfl, hp⟩
  rw [List.length_map] at hp
  exact ⟨rfl, rfl, L, rfl, hp⟩
inductive SI (a : SA) (enc : κ -> PyData) (L0 : aP) (ab : List (PN κ)) (rn : Option (Addr × List κ)) (po nf : Int) (L : aP) : Prop
 | mk (st' : St κ) (srt : Srt a enc st' L) (ext : gW L0 L) (ab' : st'.abs = ab) (rn' : st'.rn = rn) (po' : st'.po = po) (nf' : st'.nf = nf) : SI a enc L0 ab rn po nf L
end
variable {turn : Int}
section
variable {mg mb : Str -> Option Value} [DecidableEq κ]
theorem Cd.abs {st st' : St κ} (h : Cd st k st') : st'.abs = infoP st.abs k /\ st'.rn = st.rn /\ st'.po = st.po /\ st'.nf = st.nf := by
 rcases h with ⟨hk, rfl⟩ | ⟨hk, x, dx, li, rfl⟩
 ·exact ⟨by unfold infoP; rw [dz, if_pos hk], rfl, rfl, rfl⟩
 ·refine ⟨?_, rfl, rfl, rfl⟩
  unfold infoP
  rw [dz, if_neg hk]
  simp [St.abs]
theorem fQ : (i, d) ∈ vg i [d] gs := .head _
theorem cH (h : (j, d') ∈ gs) (hn : j ≠ i) : (j, d') ∈ vg i [d] gs := .tail _ (List.mem_filter.mpr ⟨h, by simpa using hn⟩)
noncomputable def AddQ (a : SA) (enc : κ -> PyData) (st : St κ) (L : aP) (ns : List (PN κ)) : PyData -> aP -> Prop := fun d L' => d = .none /\ SI a enc L ns st.rn st.po st.nf L'
theorem xr {st : St κ} {n : Nd κ} {g : Nd κ -> Nd κ} (hn : st.keys.Nodup) (hm : n ∈ st.nds) (h : ((g n).k, (g n).np, (g n).su) = g' (n.k, n.np, n.su)) : (Srt.upK st n.k g).abs = upP st.abs n.k g' := by
 unfold Srt.upK St.abs upP
 simp only [List.map_map]
 refine List.map_congr_left fun m hm' => ?_
 simp only [Function.comp]
 split
 ·rename_i e
  rw [vh hn _ hm' _ hm e]
  exact h
 ·rfl
theorem Mu (W : Wd1 c mg mb) (hF : (F1 c.w).In c.base) (hl : l < 52) (dk : bh c.w κ) {S Sx N2 : Addr} {st : St κ} {L : aP} (h : Srt (sa1 S Sx N2) dk.enc st L) (hr : st.rn = none) (k : κ) (ps : List κ) {N : Nat} (hz : dK N st.abs) (hN : N + ps.length + 1 <= 10 ^ 6) :
  FnA c l 87 (opq S :: dk.enc k :: ps.map dk.enc) L (AddQ (sa1 S Sx N2) dk.enc st L (lZ st.abs k ps)) := by
 obtain ⟨pm, code, doc, Fm⟩ := Ms hF W.lim
 refine gj (ps := ["self", "node", "predecessors"]) (es := [opq S, dk.enc k, .tuple (ps.map dk.enc)]) Fm (show fG (dm1 6 2).scope _ = true by decide +kernel) (by omega) rfl (yQ (by rw [List.length_map]; omega) fun a b vs => by cases vs <;> rfl) fun A s0 ad X0 hX hA => ?_
 have hF' : (F1 c.w).In (c.push ad).base := hF
 obtain ⟨fs, s1, s2, s3, s4, _⟩ := h.self
 rw [hr] at s3
 have e0 : ∀ (K : Act) (L : aP), aj K.c L = aj K.c L ++ ([] : Del K) := fun K L => (List.append_nil _).symm
 have hk94 : gO (c.push ad) (.ref 80) := jr hF' (by kernel_rfl)
 rw [e0]
 refine Ex.seq (Γ1 := [("self", opq S), ("node", dk.enc k), ("predecessors", .tuple (ps.map dk.enc))]) (R1 := []) (Δ1 := aj _ L ++ []) (Ex1.ite (EtS.isNotNone (EvS.fld (F := F1 c.w) hF' (.n m0) s1 s3 (by kernel_rfl))) (fun h => by cases h) fun _ => .nil rfl) ?_
 refine Ex.newX (EvX.meth (F := F1 c.w) hF' (.n m0) s1 (by kernel_rfl) (by decide +kernel) hk94 (Ci (W.push ad) hF' (show l + 1 < 55 by omega) dk h k (by rw [<- jK]; have := hz.1; omega)) (.one (.n m1))) ?_
 rintro d L1 ⟨st1, n1, rfl, hn1, hk1, H1, hE1, hI1⟩
 obtain ⟨gs, g1, g2, g3, g4⟩ := (H1.nd n1 hn1).at_
 obtain ⟨a1, a2, a3, a4⟩ := hI1.abs
 refine Ex.seq (Ex1.K6 (F := F1 c.w) (p := 42) (i := 1) (d1 := .int n1.np) (d2 := .int ps.length) (d := .int (n1.np + ps.length)) hF' (.n m0) ?_ g1 g3 .Bh rfl rfl (by kernel_rfl)) ?_
 ·have hlen : Fn (c.push ad) (l + 1) "len" [.tuple (ps.map dk.enc)] (.int ps.length) := by
   have := Fn.of (qd (W.push ad)) (aO.Lh (l := l + 1) (ds := ps.map dk.enc) (by rw [List.length_map]; omega))
   rw [List.length_map] at this
   exact this
  exact .H7 hlen (.n m3)
 obtain ⟨H2, hE2⟩ := H1.wF (v := n1.np + ps.length) hn1 (cH g2 (by decide)) fQ (cH g4 (by decide))
 have hab2 : (Srt.upK st1 n1.k fun m => { m with np := n1.np + ps.length }).abs = kI st.abs k ps.length := by
  rw [xr (g := fun m => { m with np := n1.np + ps.length }) (g' := fun m => (m.1, m.2.1 + ps.length, m.2.2)) H1.nk hn1 rfl, a1, hk1]
  rfl
 have base : dK (N + 1) (kI st.abs k ps.length) := hz.kI
 refine Ex.rE (Ex1.forL (ks := ps) (g := dk.enc) (Γ0 := [("nodeinfo", opq n1.x), ("self", opq S), ("node", dk.enc k), ("predecessors", .tuple (ps.map dk.enc))]) (T := []) (fun i => SI (sa1 S Sx N2) dk.enc L ((ps.take i).foldl (pX k) (kI st.abs k ps.length)) st.rn st.po st.nf)
   (.of fun X => .iG (.n m3)) ⟨_, H2, hE1.trans hE2, hab2, a2, a3, a4⟩ (fun p h => h) hX (fun i p L1 r hp hI => ?_)) fun L' hI => ?_
 ·obtain ⟨st', H, hE, hab, b2, b3, b4⟩ := hI
  have hi : i < ps.length := (List.getElem?_eq_some_iff.mp hp).1
  have hlim : dK (N + 1 + i) st'.abs := by
   rw [hab]
   exact (base.fold (k := k) (ps := ps.take i)).mono (by rw [List.length_take]; omega)
  obtain ⟨fs', t1, t2, _, _, _⟩ := H.self
  refine Ex.newX (EvX.meth (F := F1 c.w) hF' (.n m2) t1 (by kernel_rfl) (by decide +kernel) hk94 (Ci (W.push ad) hF' (show l + 1 < 55 by omega) dk H p (by rw [<- jK]; have := hlim.1; omega)) (.one (.n m0))) ?_
  rintro d L3 ⟨st3, n3, rfl, hn3, hk3, H3, hE3, hI3⟩
  obtain ⟨⟨gs3, q1, q2, q3, q4⟩, q5⟩ := H3.nd n3 hn3
  obtain ⟨c1, c2, c3, c4⟩ := hI3.abs
  have hlim3 : dK (N + 1 + i + 1) st3.abs := by rw [c1]; exact hlim.info
  refine Ex.seq (Ex1.mF (D := n3.li) (ds := n3.su.map dk.enc) (d := dk.enc k) (EvS.slt (F := F1 c.w) (p := 43) (i := 2) hF' (.n m0) q1 q4 (by kernel_rfl)) (.n m4) (dk.flat k) q5 ?_) ?_
  ·have h' : n3.su.length <= N + 1 + i + 1 := hlim3.2 _ (lM (f := fun n : Nd κ => (n.k, n.np, n.su)) hn3)
   rw [List.length_map]
   omega
  ·have q := H3.Le (ks := n3.su ++ [k]) hn3
   rw [List.map_append] at q
   refine .atW (fun p hp => .tail _ (.tail _ hp)) ⟨_, q.1, (hE.trans hE3).trans q.2, ?_, c2.trans b2, c3.trans b3, c4.trans b4⟩
   rw [xr (g := fun m => { m with su := n3.su ++ [k] }) (g' := fun m => (m.1, m.2.1, m.2.2 ++ [k])) H3.nk hn3 rfl, List.take_add_one, hp, List.foldl_append, <- hab, c1, hk3]
   rfl
 ·obtain ⟨st', H, hE, hab, b1, b2, b3⟩ := hI
  rw [List.take_length] at hab
  exact .nil ⟨rfl, L', by rw [List.append_nil]; exact List.Sublist.refl _, ⟨rfl, st', H, hE, hab, b1, b2, b3⟩, hE⟩
end
section
noncomputable def Cj : Option Obj -> Option (Array Value)
 | some o => match o.data with
  | .seq xs _ => some xs
  | _ => none
 | none => none
theorem Ck {xs : Array Value} (hF : F.In h) (e : Cj (F.lookup D) = some xs) : ∃ o n, h.get? D = some o /\ o.data = .seq xs n := by
 unfold Cj at e
 split at e
 ·rename_i o ho
  split at e
  ·rename_i ys n hd
   cases e
   exact ⟨o, n, hF _ _ ho, hd⟩
  ·cases e
 ·cases e
theorem EvF.Cm : EvF c l X env Γ (.Dict [] [] pos) (.dict []) := fun A s L G =>
 wpAny_Dict_empty ⟨.fH, _, ak (Nat.le_refl _), [], 0, hP _ rfl, .nil, .nil, .nil⟩
theorem dN {x : Str} {fs : List (Str × PyData)} : (x, d) ∈ jo x [d] fs := .head _
theorem bw {x y : Str} {fs : List (Str × PyData)} (h : (y, d') ∈ fs) (hn : autoParam ((y != x) = true) aD) : (y, d') ∈ jo x [d] fs := .tail _ (List.mem_filter.mpr ⟨h, hn⟩)
theorem ig {x : Addr} {d D1 : cV} (hne : D ≠ x) : bf [(D, d), (x, D1)] x D' = [(D, d), (x, D')] := by simp [bf, hne]
variable {mg mb : Str -> Option Value} [DecidableEq κ]
noncomputable abbrev aZ (enc : κ -> PyData) (g : List (κ × List κ)) : PyData := .dict (g.map fun p => (enc p.1, .list (p.2.map enc)))
noncomputable def bF (g : List (κ × List κ)) : List (PN κ) := g.foldl (fun ns p => lZ ns p.1 p.2) []
noncomputable def gsz (g : List (κ × List κ)) : Nat := (g.map fun p => p.2.length + 1).sum
theorem tH {g : List (κ × List κ)} : ∀ {N : Nat} {ns : List (PN κ)}, dK N ns -> dK (N + gsz g) (g.foldl (fun ns p => lZ ns p.1 p.2) ns) := by
 induction g with
 | nil =>
  intro _ _ h
  exact h
 | cons p g ih =>
  intro N ns h
  have := ih (h.lZ (k := p.1) (ps := p.2))
  rw [List.foldl_cons]
  refine this.mono ?_
  simp only [gsz, List.map_cons, List.sum_cons]
  omega
theorem Cp {g : List (κ × List κ)} {p : κ × List κ} (h : g[i]? = some p) : gsz (g.take i) + p.2.length + 1 <= gsz g := by
 obtain ⟨hi, e⟩ := List.getElem?_eq_some_iff.mp h
 have e1 : gsz g = gsz (g.take i) + gsz (g.drop i) := by
  unfold gsz
  rw [<- List.sum_append, <- List.map_append, List.take_append_drop]
 rw [List.drop_eq_getElem_cons hi] at e1
 have : gsz (g[i] :: g.drop (i + 1)) = g[i].2.length + 1 + gsz (g.drop (i + 1)) := by simp only [gsz, List.map_cons, List.sum_cons]
 rw [this, e] at e1
 omega
noncomputable def Cq (a : SA) (enc : κ -> PyData) (L0 : aP) (g : List (κ × List κ)) (L' : aP) : Prop := SI a enc L0 (bF g) none 0 0 L'
theorem zu {pm code doc : Value} (hh : ∃ o n, s.heap.get? D = some o /\ o.data = .seq #[.none] n) (r : RdL c.w X s.heap vs [d1, d2]) :
  wpAny c.M A.in1 (bindArgs (mfd (dm1 6 0) "TopologicalSorter.__init__" (.ref D) pm code doc) ⟨vs, []⟩) (fun binds s1 => Pst c s s1 /\ ∃ us, binds = (["self", "graph"] : List Str).zip us /\ RdL c.w X s1.heap us [d1, d2]) NoE s := by
 obtain ⟨o, n, ho, hd⟩ := hh
 obtain ⟨a, b, rfl⟩ : ∃ a b, vs = [a, b] := mz r.length
 have hb : ∃ k, bindArgs (mfd (dm1 6 0) "TopologicalSorter.__init__" (.ref D) pm code doc) ⟨[a, b], []⟩ = seqItems? (.ref D) >>= k /\ k (some #[.none]) = pure [(("self" : Str), a), (("graph" : Str), b)] := ⟨_, rfl, rfl⟩
 obtain ⟨k, h1, h2⟩ := hb
 rw [h1]
 refine wB (wpAny_seqItems ho hd ?_)
 rw [h2]
 exact wP ⟨.refl, [a, b], rfl, r⟩
noncomputable def L00 (x dx D : Addr) : aP := [(D, .data (.dict [])), (x, .inst 137 dx sN (jo "_nfinished" [.int 0] (jo "_npassedout" [.int 0] (jo "_ready_nodes" [.none] (jo "_node2info" [opq D] [])))) [])]
theorem srt0 {x : Addr} (hne : D ≠ x) : Srt (sa1 x dx D) enc ⟨none, 0, 0, []⟩ (L00 x dx D) :=
 ⟨⟨_, m1, bw (bw (bw dN)), bw (bw dN), bw dN, dN⟩, m0, (fun p hp => nomatch hp), (fun n hn => nomatch hn), .nil, by
   show [x, D].Nodup
   simp [hne.symm], by simp [L00, hne]⟩
theorem Gz (W : Wd1 c mg mb) (hF : (F1 c.w).In c.base) (hl : l < 48) (dk : bh c.w κ) {x dx : Addr} (g : List (κ × List κ)) (hz : gsz g <= 10 ^ 5) :
  FnA c l 73 [opq x, aZ dk.enc g] [(x, .inst 137 dx [] [] [])] (fun d L' => d = .none /\ ∃ N2, Cq (sa1 x dx N2) dk.enc [(x, .inst 137 dx [] [] [])] g L') := by
 obtain ⟨pm, code, doc, Fm⟩ := Jv hF W.lim
 rw [show (jN ((F1 c.w).lookup 73)).defaults = .ref 66 by kernel_rfl] at Fm
 refine gj (ps := ["self", "graph"]) (es := [opq x, aZ dk.enc g]) Fm (show fG (dm1 6 0).scope _ = true by decide +kernel) (by omega) rfl (fun A X s vs B r => zu (Ck (hF.keeps B.stays) (show Cj ((F1 c.w).lookup 66) = some #[.none] by kernel_rfl)) r) fun A s0 ad X0 hX hA => ?_
 have hF' : (F1 c.w).In (c.push ad).base := hF
 have e0 : ∀ (K : Act) (L : aP), aj K.c L = aj K.c L ++ ([] : Del K) := fun K L => (List.append_nil _).symm
 rw [e0]
 refine Ex.j9 (Ex1.K8 (F := F1 c.w) (d := .dict []) (C := 137) (dx := dx) (ns := []) (fs := []) (gs := []) (a := x) hF' (fun X => .Cm) (fun D => .n m0) (.head _) (by kernel_rfl) (by decide)) fun o ho => ?_
 obtain ⟨D, hD, rfl⟩ := ho
 refine ⟨_, _, _, rfl, ?_⟩
 have hne : D ≠ x := fun e => hD _ (.head _) e.symm
 rw [jO]
 refine Ex.seq (Ex1.sI (F := F1 c.w) (d := .none) (C := 137) (dx := dx) (a := x) hF' (.of fun X => .none) (.n m0) rfl (.tail _ (.head _)) (by kernel_rfl) (by decide)) ?_
 rw [ig hne]
 refine Ex.seq (Ex1.sI (F := F1 c.w) (d := .int 0) (C := 137) (dx := dx) (a := x) hF' (.of fun X => .int) (.n m0) rfl (.tail _ (.head _)) (by kernel_rfl) (by decide)) ?_
 rw [ig hne]
 refine Ex.seq (Ex1.sI (F := F1 c.w) (d := .int 0) (C := 137) (dx := dx) (a := x) hF' (.of fun X => .int) (.n m0) rfl (.tail _ (.head _)) (by kernel_rfl) (by decide)) ?_
 rw [ig hne]
 show Ex _ _ _ _ _ _ (aj _ (L00 x dx D) ++ []) _ _
 refine Ex.rE (Γ0 := [("self", opq x), ("graph", aZ dk.enc g)]) (T := []) (P := SI (sa1 x dx D) dk.enc [(x, .inst 137 dx [] [] [])] (bF g) none 0 0) (Ex1.ite (EtS.isNotNone (.n m1)) (fun _ => ?_) fun h => by cases h) fun L' hI => ?_
 ·refine Ex.rE (Ex1.Il (L := g) (g1 := dk.enc) (g2 := fun ps => .list (ps.map dk.enc)) (Γ0 := [("self", opq x), ("graph", aZ dk.enc g)]) (T := []) (fun i => SI (sa1 x dx D) dk.enc [(x, .inst 137 dx [] [] [])] (bF (g.take i)) none 0 0)
   (.of fun X => ?_) ⟨⟨none, 0, 0, []⟩, srt0 hne, qQ (M := [_]), rfl, rfl, rfl, rfl⟩ (fun p h => h) hX (fun i k ps L1 r hd hI => ?_) dk.inj (jE dk.inj)) fun L' hI => .at (by rw [List.take_length] at hI; exact hI)
  ·refine EvI.as (EvI.ofItems (c := c.push ad) dk (W.push ad).sys (ks := g.map (·.1)) (ds := g.map fun p => .list (p.2.map dk.enc)) (by simp) (Ev.as (Ev.n m1) ?_)) ?_
   ·congr 1
    rw [List.map_map, List.zip_map']
    rfl
   ·unfold wJ
    rw [List.zip_map', List.map_map]
    rfl
  ·obtain ⟨st', H, hE, hab, b1, b2, b3⟩ := hI
   have hsz : gsz (g.take i) + ps.length + 1 <= gsz g := Cp hd
   have hlim : dK (gsz (g.take i)) st'.abs := by
    rw [hab]
    have := tH (g := g.take i) (N := 0) (ns := []) ⟨Nat.le_refl _, fun _ h => nomatch h⟩
    rwa [Nat.zero_add] at this
   obtain ⟨fs', t1, t2, _, _, _⟩ := H.self
   refine Ex.Ja (Ex1.Ba (EvX.H9 (F := F1 c.w) hF' (.n m2) t1 (by kernel_rfl) (by decide +kernel) (Mu (W.push ad) hF' (show l + 1 < 52 by omega) dk H b1 k ps hlim (by omega)) fun q Δ => .FQ (.n m1) (.n m0) (dk.flat k) rfl (by rw [List.length_map]; omega)) fun d L2 h => h.1) fun d L2 hP => .atW (fun p hp => .tail _ (.tail _ hp)) ?_
   obtain ⟨_, st2, H2, hE2, hab2, c1, c2, c3⟩ := hP
   refine ⟨st2, H2, hE.trans hE2, ?_, c1.trans b1, c2.trans b2, c3.trans b3⟩
   rw [hab2, hab, List.take_add_one, hd]
   unfold bF
   rw [List.foldl_append]
   rfl
 ·exact .nil ⟨rfl, L', by rw [List.append_nil]; exact List.Sublist.refl _, ⟨rfl, D, hI⟩, by obtain ⟨_, _, hE, _⟩ := hI; exact hE⟩
end
section
noncomputable def intOf : Option (Option Value) -> Option Int
 | some (some (.int i _)) => some i
 | _ => none
theorem tL {o : Option (Option Value)} {i : Int} (h : intOf o = some i) : ∃ t, o = some (some (.int i t)) := by
 unfold intOf at h
 split at h
 ·cases h; exact ⟨_, rfl⟩
 ·cases h
variable {mg mb : Str -> Option Value} [DecidableEq κ]
theorem Im (W : Wd1 c mg mb) (hF : (F1 c.w).In c.base) : ∃ t, Glb c "_NODE_OUT" (.int (-1) t) := by
 obtain ⟨t, e⟩ := tL (show intOf (nsIn (F1 c.w) mainGlobals "_NODE_OUT") = some (-1) by kernel_rfl)
 exact ⟨t, mY W.g (mg_of hF W.g e)⟩
theorem JG (W : Wd1 c mg mb) (hF : (F1 c.w).In c.base) : ∃ t, Glb c "_NODE_DONE" (.int (-2) t) := by
 obtain ⟨t, e⟩ := tL (show intOf (nsIn (F1 c.w) mainGlobals "_NODE_DONE") = some (-2) by kernel_rfl)
 exact ⟨t, mY W.g (mg_of hF W.g e)⟩
theorem xu (W : Wd1 c mg mb) : Glb c "tuple" (.type "tuple") := W.blt (by kernel_rfl) (by kernel_rfl)
inductive KAt (st : St κ) (k : κ) : Prop
 | mk (n : Nd κ) (hn : n ∈ st.nds) (hk : n.k = k) (g : cj (st.nds.map fun n => (n.k, opq n.x)) k = some (opq n.x)) : KAt st k
theorem rF {st : St κ} (hk : k ∈ st.keys) (hn : st.keys.Nodup) : KAt st k := by
 rcases gC (st := st) (k := k) with ⟨h, _⟩ | ⟨n, h1, h2, h3⟩
 ·exact absurd hk h
 ·refine ⟨n, h1, h2, ?_⟩
  cases e : cj (st.nds.map fun n => (n.k, opq n.x)) k with
  | none => rw [e] at h3; cases h3
  | some d => rw [e] at h3; exact congrArg some h3
theorem xG {ns : List (PN κ)} {g : PN κ -> PN κ} (hg : ∀ n, (g n).1 = n.1) : (upP ns k g).map (·.1) = ns.map (·.1) := by
 unfold upP
 rw [List.map_map]
 refine List.map_congr_left fun n _ => ?_
 simp only [Function.comp]
 split
 ·exact hg n
 ·rfl
noncomputable def JH (a : SA) (enc : κ -> PyData) (st : St κ) (RL : Addr) (ks : List κ) (L : aP) : PyData -> aP -> Prop := fun d L' => d = .tuple (ks.map enc) /\ SI a enc L (fL ks st.abs) (some (RL, [])) (st.po + ks.length) st.nf L'
theorem Cr : ∀ {ks : List κ} {ns : List (PN κ)}, (fL ks ns).map (·.1) = ns.map (·.1) := fun {ks} => by
 induction ks with
 | nil => intro ns; rfl
 | cons k ks ih => intro ns; exact ih.trans (xG fun n => rfl)
theorem Cu {st : St κ} : st.abs.map (·.1) = st.keys := by
 unfold St.abs St.keys
 rw [List.map_map]; rfl
theorem GC (W : Wd1 c mg mb) (hF : (F1 c.w).In c.base) (hl : l < 55) (dk : bh c.w κ) {S Sx N2 RL : Addr} {st : St κ} {L : aP} {ks : List κ} (h : Srt (sa1 S Sx N2) dk.enc st L) (hr : st.rn = some (RL, ks)) (hks : ∀ k ∈ ks, k ∈ st.keys) (hz : ks.length <= 10 ^ 5) :
  FnA c l 99 [opq S] L (JH (sa1 S Sx N2) dk.enc st RL ks L) := by
 obtain ⟨pm, code, doc, Fm⟩ := Gv hF W.lim
 refine gj (ps := ["self"]) Fm (show fG (dm1 6 4).scope _ = true by decide +kernel) (by omega) rfl (nM rfl (bind1 fun a => by rfl)) fun A s0 ad X0 hX hA => ?_
 have hF' : (F1 c.w).In (c.push ad).base := hF
 obtain ⟨t, hout⟩ := Im (W.push ad) hF'
 obtain ⟨fs, s1, s2, s3, s4, s5⟩ := h.self
 have s3' : (("_ready_nodes", opq RL) : Str × PyData) ∈ fs := by rw [hr] at s3; exact s3
 have hrl := h.rdy _ hr
 have e0 : ∀ (K : Act) (L : aP), aj K.c L = aj K.c L ++ ([] : Del K) := fun K L => (List.append_nil _).symm
 rw [e0]
 refine Ex.seq (Γ1 := [("self", opq S)]) (R1 := []) (Δ1 := aj _ L ++ []) (Ex1.ite (EtS.isNone (EvS.fld (F := F1 c.w) hF' (.n m0) s1 s3' (by kernel_rfl))) (fun h => by cases h) fun _ => .nil rfl) ?_
 have hz' : (ks.map dk.enc).length <= 10 ^ 6 := by rw [List.length_map]; omega
 have hsafe : wz (.tuple (ks.map dk.enc)) = true := by
  show (ks.map dk.enc).all flat = true
  rw [List.all_map]
  exact List.all_eq_true.mpr fun k _ => dk.flat k
 refine Ex.new (EvS.sV (.ofT (xu (W.push ad)) (.Jc hz')) (EvS.fld (F := F1 c.w) hF' (.n m0) s1 s3' (by kernel_rfl)) hrl hsafe) ?_
 refine Ex.new (EvS.fld (F := F1 c.w) hF' (.n m1) s1 s2 (by kernel_rfl)) ?_
 refine Ex.rE (Ex1.forL (ks := ks) (g := dk.enc) (Γ0 := [("n2i", opq N2), ("result", .tuple (ks.map dk.enc)), ("self", opq S)]) (T := []) (fun i => SI (sa1 S Sx N2) dk.enc L (fL (ks.take i) st.abs) (some (RL, ks)) st.po st.nf)
   (.of fun X => .iG (.n m1)) ⟨st, h, .refl, rfl, hr, rfl, rfl⟩ (fun p h => h) hX (fun i p L1 r hp hI => ?_)) fun L1 hI => ?_
 ·obtain ⟨st', H, hE, hab, b1, b2, b3⟩ := hI
  have hk : st'.keys = st.keys := by rw [<- Cu, <- Cu, hab, Cr]
  have hpk : p ∈ st'.keys := hk ▸ hks p (lG hp)
  obtain ⟨n, hn, hnk, hg⟩ := rF hpk H.nk
  obtain ⟨gs, q1, q2, q3, q4⟩ := (H.nd n hn).at_
  refine Ex.seq (Ex1.setG (F := F1 c.w) (p := 42) (i := 1) (d := .int (-1)) hF' (.of fun X => .g hout fun h => .int _ _) (EvS.Je (κ := κ) dk (.n m1) (.n m0) H.map hg) rfl q1 (by kernel_rfl)) ?_
  obtain ⟨H2, hE2⟩ := H.wF (v := -1) hn (cH q2 (by decide)) fQ (cH q4 (by decide))
  refine .atW (fun p hp => .tail _ hp) ⟨_, H2, hE.trans hE2, ?_, b1, b2, b3⟩
  rw [qU (g' := npP (-1)) fun _ => rfl, hnk, hab, List.take_add_one, hp]
  unfold fL
  rw [List.foldl_append]
  rfl
 ·obtain ⟨st1, H1, hE1, hab, b1, b2, b3⟩ := hI
  rw [List.take_length] at hab
  obtain ⟨fs1, t1, t2, t3, t4, t5⟩ := H1.self
  have t3' : (("_ready_nodes", opq RL) : Str × PyData) ∈ fs1 := by rw [b1] at t3; exact t3
  refine Ex.seq (Ex1.Jf (EvS.fld (F := F1 c.w) hF' (.n m2) t1 t3' (by kernel_rfl)) (H1.rdy _ b1) hz') ?_
  obtain ⟨H2, hE2⟩ := H1.Fz (ks' := []) b1
  obtain ⟨fs2, u1, u2, u3, u4, u5⟩ := H2.self
  have hlen : Fn (c.push ad) (l + 1) "len" [.tuple (ks.map dk.enc)] (.int ks.length) := by
   have := Fn.of (qd (W.push ad)) (aO.Lh (l := l + 1) (ds := ks.map dk.enc) (by rw [List.length_map]; omega))
   rw [List.length_map] at this
   exact this
  refine Ex.seq (Ex1.K5 (F := F1 c.w) (d1 := .int st1.po) (d2 := .int ks.length) (d := .int (st1.po + ks.length)) hF' (.n m2) (.H7 hlen (.n m1)) u1 u4 .Bh rfl rfl (by kernel_rfl) (by decide)) ?_
  obtain ⟨H3, hE3⟩ := H2.Fq (po := st1.po + ks.length) (nf := st1.nf) (fs' := jo "_npassedout" [.int (st1.po + ks.length)] fs2) (bw u2) (bw u3) dN (bw u5)
  exact .ret (.n m1) trivial ⟨_, List.Sublist.refl _, hsafe, _, by rw [List.append_nil]; exact List.Sublist.refl _, ⟨rfl, _, H3, (hE1.trans hE2).trans hE3, hab, rfl, congrArg (· + (ks.length : Int)) b2, b3⟩, (hE1.trans hE2).trans hE3⟩
end
section
variable {mg mb : Str -> Option Value}
theorem Wd.sV {p : Program} {loose : List Str} {mg mb : Str -> Option Value} (W : Wd c p loose mg mb) (d : DefRec) (hd : d ∈ recsOf p) {ι : Type} {ds : ι -> List PyData} {r : ι -> PyData} (ps : List Str) (hok : fG d.scope ps = true) (hlen : ∀ i, ps.length = (ds i).length) (hl : l < 60)
  (hbind : ∀ (pm code doc : Value) (vs : List Value), vs.length = ps.length -> bindArgs (fdOf d pm code doc) ⟨vs, []⟩ = pure (ps.zip vs))
  (h : ∀ (i : ι) (A : Around) (s0 : Shared) (a L : Addr) (X : List Addr) (pm code doc : Value), dg (cQ c l (fdOf d pm code doc) L a X) s0 -> (∃ outer, A.frames = some ((cQ c l (fdOf d pm code doc) L a X).env :: outer)) -> Ex (cQ c l (fdOf d pm code doc) L a X) A s0 NoE (ps.zip (ds i)) [] [] d.body fun o => o = .ret (r i) \/ (r i = .none /\ ∃ Γ R Δ, o = .next Γ R Δ)) : ∃ v, Glb c d.name v /\ gO c v /\ ∀ i, aO c l v (ds i) (r i) := by
 obtain ⟨a, pm, code, doc, hm, F⟩ := W.fn d hd
 obtain ⟨o, ho, hdat⟩ := F.at_
 exact ⟨.ref a, mY W.g hm, qI ho hdat, fun i => Al F hok (hlen i) hl (fun vs hv => hbind pm code doc vs hv) fun A s0 L X hX hA => h i A s0 a L X pm code doc hX hA⟩
theorem zx (W : Wd1 c mg mb) (hl : l < 60) : ∃ v, Glb c "fspath" v /\ ∀ x : Str, aO c l v [.str x] (.str x) := by
 obtain ⟨v, g, _, h⟩ := Wd.sV (l := l) W (dr1 15) (cO (i := 3) (by kernel_rfl)) (ι := Str) (ds := fun x => [.str x]) (r := .str) ["path"] (by decide +kernel) (fun _ => rfl) hl (fun pm code doc => bind1 fun a => by rfl) fun x A s0 a L X pm code doc hX hA => by
  refine Ex.new (.of fun X => .bN (.ofT (BX (W.push _)) .Ih) (.cons (.n m0) .nil)) ?_
  refine Ex.cons (fun o => o = .ret (.str x)) (Ex1.ite (b := true) (EtS.of fun X => Et.Bs (.n m0) (w6 (W.push _)) (Ik (W.push _)) (mJ (W.push _))) (fun _ => Ex.ret (.of fun X => .n m1) rfl) (fun h => by cases h)) ?_ ?_ ?_ ?_
  ·intro _ _ _ h; cases h
  ·intro _ _ _ h; cases h
  ·intro _ _ _ h; cases h
  ·intro d h; exact .inl h
 exact ⟨v, g, h⟩
theorem nP (xs : List α) (i : Nat) : i <= xs.length -> (List.range i).filterMap (xs[·]?) = xs.take i := by
 induction i with
 | zero => intro _; rfl
 | succ i ih =>
  intro h
  rw [List.range_succ, List.filterMap_append, ih (by omega), List.take_add_one]
  congr 1
theorem fU (xs : List α) (i : Nat) (hi : i <= xs.length) : mX xs none (some (i : Int)) none = xs.take i := by
 have e1 : sliceBounds none (some (i : Int)) none xs.length = (0, (i : Int), 1) := by
  simp only [sliceBounds, Option.getD_none]
  rw [if_neg (show ¬ ((i : Int) < 0) from by omega)]
  simp
  omega
 unfold mX
 rw [e1]
 have e2 : sliceRange 0 (i : Int) 1 = List.range i := by
  unfold sliceRange
  simp only [show ((1 : Int) > 0) = True from by simp, if_true]
  by_cases h : (0 : Int) < i
  ·rw [if_pos h]
   have : (((i : Int) - 0 + 1 - 1) / 1).toNat = i := by simp
   rw [this]
   refine List.ext_getElem (by simp) fun n h1 h2 => by simp
  ·have : i = 0 := by omega
   subst this
   simp
 rw [e2]
 exact nP xs i hi
noncomputable def aV (p : Str) : List Str := (Txt.split p "/").filter fun c => ((c.length : Int) != 0) && decide (c ≠ ".")
structure rG (p : Str) : Prop where
 abs : Txt.startswith p "/" = true
 len : p.length <= 500
 spl : (Builtin.Str.partsBetween p (Builtin.Str.occurrences p "/" 0 p.length (p.length + 1)) ("/" : Str).length).length <= 1000
 few : (Txt.split p "/").length <= 1000
 each : ∀ c ∈ Txt.split p "/", c.length <= 1000
theorem Mv (W : Wd1 c mg mb) : Glb c "map" (.type "map") := W.blt (by kernel_rfl) (by kernel_rfl)
theorem Mw (W : Wd1 c mg mb) : Glb c "min" (.builtin "min") := W.blt (by kernel_rfl) (by kernel_rfl)
theorem Io (W : Wd1 c mg mb) : Glb c "max" (.builtin "max") := W.blt (by kernel_rfl) (by kernel_rfl)
inductive Mx (K : Act) (s : List Str) : Out K -> Prop
 | mk (Γ : Gam) (h1 : (("common", sL s) : Str × PyData) ∈ Γ) (h2 : (("isabs", PyData.bool true) : Str × PyData) ∈ Γ) (h3 : (("sep", PyData.str "/") : Str × PyData) ∈ Γ) (h4 : offB ["prefix"] (Γ.map (·.1)) = true) : Mx K s (.next Γ [] [])
noncomputable def GD (s1 s2 : List Str) : Gam := [("common", sL s1), ("s2", sL s2), ("s1", sL s1), ("isabs", .bool true), ("sep", .str "/")]
inductive GF (K : Act) (s1 s2 : List Str) (r : Res K.c) (a : Nat) (b c : Str) : Gam -> Ros -> Del K -> Prop
 | mk (e : b = c) : GF K s1 s2 r a b c (("c", .str b) :: ("i", .int (a : Nat)) :: GD s1 s2) [] [r]
inductive GJ (K : Act) (s1 : List Str) (r : Res K.c) (a : Nat) (b c : Str) : Gam -> Ros -> Del K -> Prop
 | mk (e : b ≠ c) : GJ K s1 r a b c [("common", sL (s1.take a)), ("isabs", .bool true), ("sep", .str "/")] [] [r]
noncomputable def ComB (K : Act) (s1 s2 : List Str) (r : Res K.c) (a : Nat) (b c : Str) : Out K -> Prop
 | .next Γ R D => GF K s1 s2 r a b c Γ R D
 | .brk Γ R D => GJ K s1 r a b c Γ R D
 | _ => False
theorem Cv (W : Wd1 c mg mb) (hl : l < 57) {p q : Str} (hp : rG p) (hq : rG q) (hj : JoinOk "/" (lcp (aV p) (aV q)) = true) (hz : (Txt.join "/" (lcp (aV p) (aV q))).length <= 500) :
  Fn c l "commonpath" [.list [.str p, .str q]] (.str (("/" : Str) ++ Txt.join "/" (lcp (aV p) (aV q)))) := by
 refine W.call (dr1 21) (cO (i := 7) (by kernel_rfl)) ["paths"] (by decide +kernel) rfl (by omega) (fun pm code doc => bind1 fun a => by rfl) fun A s0 fa ad X pm code doc hX hA => ?_
 obtain ⟨fv, gf, hf⟩ := zx (l := l + 1 + 1) (W.push ad) (by omega)
 have hpq : ∀ x ∈ [p, q], rG x := fun x hx => by
  rcases lC hx with rfl | hx
  ·exact hp
  ·rw [lS hx]; exact hq
 refine Ex.set (Γ1 := []) (.of fun X => Ev.BL (xs := [p, q]) (xu (W.push ad)) (Mv (W.push ad)) (show l + 1 < 60 by omega) (by simp) gf (fun x _ => hf x) (.n m0)) ?_
 refine Ex.seq (Γ1 := _) (R1 := []) (Δ1 := []) (Ex1.ite (b := false) (EtS.of fun X => .not (.val (.n m0) (.tuple (by simp)))) (fun h => by cases h) fun _ => .nil rfl) ?_
 refine Ex.seq (Γ1 := [("curdir", .str "."), ("sep", .str "/"), ("paths", .tuple [.str p, .str q])]) (R1 := []) (Δ1 := []) (Ex1.ite (b := false) (EtS.of fun X => Et.isBytes (.BP (.n m0) .int (by decide) (by decide) rfl) (tD (W.push ad)) (mJ (W.push ad))) (fun h => by cases h) fun _ => Ex.new (.of fun X => .str) (Ex.new (.of fun X => .str) (.nil rfl))) ?_
 refine Ex.cons (fun o => o = .ret (.str (("/" : Str) ++ Txt.join "/" (lcp (aV p) (aV q))))) (Ex1.Bt ?_) (fun _ _ _ h => by cases h) (fun _ _ _ h => by cases h) (fun _ _ _ h => by cases h) fun d h => .inl h
 refine Ex.newC hX (fun X => (EvC.nm (Γc := [("sep", .str "/")]) (L := [p, q]) (g := .str) (fun x => sL (Txt.split x "/")) bV (.iG (.n m2)) (.cons m1 .nil) (fun cs C XL x hx => .Jr (.n m0) (.n m1) (by decide) (by have := (hpq x hx).len; omega) (by have := (hpq x hx).spl; omega)) (by simp))) ?_
 refine Ex.seq (Γ1 := [("isabs", .bool true), ("split_paths", .list [sL (Txt.split p "/"), sL (Txt.split q "/")]), ("curdir", .str "."), ("sep", .str "/"), ("paths", .tuple [.str p, .str q])]) (R1 := []) (Δ1 := []) (Ex1.Bt (Ex.Gg (fun X => Gf.comp (Γc := [("sep", .str "/")]) (ds := [.str p, .str q]) (by simp) (.iG (.n m3)) (.cons m2 .nil) (fun cs C XL d hd => ?_)) (.nil rfl))) ?_
 ·rcases lC hd with rfl | hd
  ·exact (Ev.rz (.n m0) (.n m1)).as (by rw [hp.abs])
  ·rw [lS hd]
   exact (Ev.rz (.n m0) (.n m1)).as (by rw [hq.abs])
 refine Ex.setC (Γ1 := [("isabs", .bool true), ("curdir", .str "."), ("sep", .str "/"), ("paths", .tuple [.str p, .str q])]) hX (fun X => (EvC.nm (Γc := [("curdir", .str ".")]) (L := [Txt.split p "/", Txt.split q "/"]) (g := sL) (fun s => sL (s.filter fun c => ((c.length : Int) != 0) && decide (c ≠ "."))) rB (.ofList (.n m1)) (.cons m2 .nil)
  (fun cs C XL s hs => (EvC.oN (Γc := [("curdir", .str ".")]) (L := s) (g := .str) (fun c => ((c.length : Int) != 0) && decide (c ≠ ".")) .str bV (.ofList (.n m0)) (.cons m1 .nil) (fun cs C XL x hx => .and2 (.val (.n m0) (.str ?_)) fun _ => .cmp (.n m0) (.n m1) .neS) (fun cs C XL x hx _ => .n m0) ?_).ev) (by simp))) ?_
 ·rcases lC hs with rfl | hs
  ·have := hp.each x hx; omega
  ·rw [lS hs] at hx; have := hq.each x hx; omega
 ·rcases lC hs with rfl | hs
  ·have := hp.few; omega
  ·rw [lS hs]; have := hq.few; omega
 refine Ex.new (.of fun X => .bN (.of (Mw (W.push ad)) (.min2 (xs := aV p) (ys := aV q))) (.cons (.n m0) .nil)) ?_
 refine Ex.new (.of fun X => .bN (.of (Io (W.push ad)) (.max2 (xs := aV p) (ys := aV q))) (.cons (.n m1) .nil)) ?_
 refine Ex.new (.of fun X => .n m1) ?_
 have hS := @JB (aV p) (aV q)
 have hlc := Jz (aV p) (aV q)
 have hlen : (pq (aV p) (aV q)).length <= 1000 := by
  unfold pq
  split
  ·exact Nat.le_trans (List.length_filter_le ..) hq.few
  ·exact Nat.le_trans (List.length_filter_le ..) hp.few
 show Ex _ _ _ _ [("common", sL (pq (aV p) (aV q))), ("s2", sL (vI (aV p) (aV q))), ("s1", sL (pq (aV p) (aV q))), ("split_paths", _), ("isabs", .bool true), ("curdir", .str "."), ("sep", .str "/"), ("paths", _)] _ _ _ _
 generalize pq (aV p) (aV q) = s1 at hS hlc hlen ⊢
 generalize vI (aV p) (aV q) = s2 at hS hlc ⊢
 refine Ex.j9 (O1 := Mx _ (lcp s1 s2)) (Ex1.I5 (L := dh s1) (g1 := fun (i : Nat) => .int (i : Nat)) (g2 := .str)
  (fun i Γ R Δ => Γ = GD s1 s2 /\ R = ([] : Ros) /\ Δ = [] /\ s1.take i = s2.take i) _ (.of fun X => .enum (kY (W.push ad)) (.n m2)) (Γ' := GD s1 s2) ⟨rfl, rfl, rfl, rfl⟩ (au m0 (au m1 (au m2 (au m4 (au m6 bU))))) (fun p h => h) (List.Sublist.refl _) hX ?_ ?_ ?_ gb bV) ?_
 ·rintro i _ _ _ ⟨rfl, rfl, rfl, _⟩
  exact ⟨bC (by kernel_rfl), iI (by kernel_rfl)⟩
 ·rintro i a b _ _ _ r hd ⟨rfl, rfl, rfl, hi⟩
  obtain ⟨rfl, hb⟩ := eX hd
  have hlt : a < s1.length := (List.getElem?_eq_some_iff.mp hb).1
  have hlt2 := hS hi hlt
  have hc2 : s2[a]? = some s2[a] := List.getElem?_eq_getElem hlt2
  generalize s2[a] = c2 at hc2
  refine Ex.cons (ComB _ s1 s2 r a b c2)
   (Ex1.ite (b := decide (b ≠ c2)) (EtS.of fun X => .cmp (.n m0) (.item (i := (a : Nat)) (.n m3) (.n m1) (by omega) (by omega) (by rw [Int.toNat_natCast, List.getElem?_map, hc2]; rfl)) .neS) (fun h => ?_) fun h => ?_) (fun _ _ _ h => ?_) (fun _ _ _ h => ?_) (fun _ _ _ h => h.elim) (fun _ h => h.elim)
  ·refine Ex.set (Γ1 := [("c", .str b), ("i", .int (a : Nat)), ("s2", sL s2), ("s1", sL s1), ("isabs", .bool true), ("sep", .str "/")]) (.of fun X => (Ev.slice (lo := none) (hi := some (a : Int)) (st := none) (.n m4) .none (.some (Ev.n m1)) .none (by simp) (by simp; omega)).as (by rw [fU _ _ (by simp; omega), <- List.map_take])) ?_
   exact Ex.wkG (au m0 (au m5 (au m6 bU))) (Ex.brk (GJ.mk (of_decide_eq_true h)))
  ·exact .nil (GF.mk (Classical.not_not.mp (of_decide_eq_false h)))
  ·obtain ⟨e⟩ := (h : GF _ s1 s2 r a b c2 _ _ _)
   refine Ex.wkG (Γ' := GD s1 s2) (fun p hp => .tail _ (.tail _ hp)) (.nil (.inl ⟨_, _, _, .inl rfl, rfl, rfl, rfl, ?_⟩))
   rw [List.take_add_one, List.take_add_one, hi, hb, hc2, e]
  ·obtain ⟨e⟩ := (h : GJ _ s1 r a b c2 _ _ _)
   refine .inr (.inl ⟨_, _, _, rfl, .mk _ ?_ m1 m2 (by kernel_rfl)⟩)
   rw [Ca a s1 s2 hi hb hc2 e]
   exact m0
 ·rintro _ _ _ ⟨rfl, rfl, rfl, hi⟩
  rw [eV] at hi
  refine .mk _ ?_ m3 m4 (by kernel_rfl)
  rw [w7 _ _ hi]
  exact m0
 ·rintro _ ⟨Γ, g1, g2, g3, g4⟩
  refine ⟨_, _, _, rfl, ?_⟩
  rw [hlc] at g1
  refine Ex.new (.of fun X => .zX (b := true) (.val (.n g2) .bool) (fun _ => .n g3) (fun h => by cases h)) ?_ (by kernel_rfl) g4
  exact Ex.ret (.of fun X => .binop (.n m0) (.LR (.n (.tail _ g3)) (.n (.tail _ g1)) hj) (.LC (by
   have : (("/" : Str)).length = 1 := by decide
   omega))) rfl
end
section
variable {mg mb : Str -> Option Value} [DecidableEq κ]
theorem EvS.as {E : Err} (h : EvS K A s0 E Γ R Δ e d) (e' : d = d') : EvS K A s0 E Γ R Δ e d' := e' ▸ h
theorem Mz (W : Wd1 c mg mb) (hF : (F1 c.w).In c.base) (hl : l < 58) (dk : bh c.w κ) {S Sx N2 RL : Addr} {st : St κ} {L : aP} {ks : List κ} (h : Srt (sa1 S Sx N2) dk.enc st L) (hr : st.rn = some (RL, ks)) (hz : ks.length <= 10 ^ 6) :
  FnA c l 106 [opq S] L (fun d L' => d = .bool (decide (st.nf < st.po) || !ks.isEmpty) /\ L' = L) := by
 obtain ⟨pm, code, doc, Fm⟩ := BZ hF W.lim
 refine gj (ps := ["self"]) Fm (show fG (dm1 6 5).scope _ = true by decide +kernel) (by omega) rfl (nM rfl (bind1 fun a => by rfl)) fun A s0 ad X0 hX hA => ?_
 have hF' : (F1 c.w).In (c.push ad).base := hF
 obtain ⟨fs, s1, s2, s3, s4, s5⟩ := h.self
 have s3' : (("_ready_nodes", opq RL) : Str × PyData) ∈ fs := by rw [hr] at s3; exact s3
 have e0 : ∀ (K : Act) (L : aP), aj K.c L = aj K.c L ++ ([] : Del K) := fun K L => (List.append_nil _).symm
 rw [e0]
 refine Ex.seq (Γ1 := [("self", opq S)]) (R1 := []) (Δ1 := aj _ L ++ []) (Ex1.ite (EtS.isNone (EvS.fld (F := F1 c.w) hF' (.n m0) s1 s3' (by kernel_rfl))) (fun h => by cases h) fun _ => .nil rfl) ?_
 have hb : Fn (c.push ad) (l + 1) "bool" [.list (ks.map dk.enc)] (.bool !ks.isEmpty) := by
  have := Fn.ofT (g_bool (W.push ad)) (aO.K7 (l := l + 1) (ds := ks.map dk.enc) (by rw [List.length_map]; omega))
  rw [List.isEmpty_map] at this
  exact this
 refine .ret (d := .bool (decide (st.nf < st.po) || !ks.isEmpty)) (.or2 (.cmp (EvS.fld (F := F1 c.w) hF' (.n m0) s1 s5 (by kernel_rfl)) (EvS.fld (F := F1 c.w) hF' (.n m0) s1 s4 (by kernel_rfl)) rfl .ltI) fun _ => .sV hb (EvS.fld (F := F1 c.w) hF' (.n m0) s1 s3' (by kernel_rfl)) (h.rdy _ hr) rfl) trivial ?_
 exact ⟨_, List.Sublist.refl _, rfl, L, by rw [List.append_nil]; exact List.Sublist.refl _, ⟨rfl, rfl⟩, fun a h => h⟩
noncomputable def MF (a : SA) (enc : κ -> PyData) (st : St κ) (RL : Addr) (rd ks : List κ) (L : aP) : PyData -> aP -> Prop := fun d L' => d = .none /\ SI a enc L (eZ ks (st.abs, rd)).1 (some (RL, (eZ ks (st.abs, rd)).2)) st.po (st.nf + ks.length) L'
inductive DI (a : SA) (enc : κ -> PyData) (L0 : aP) (RL : Addr) (st : St κ) (pr : List (PN κ) × List κ) (N : Nat) (nf : Int) (L : aP) : Prop
 | mk (st' : St κ) (rd' : List κ) (srt : Srt a enc st' L) (ext : gW L0 L) (ab : (st'.abs, rd') = pr) (shp : st'.shp = st.shp) (rn : st'.rn = some (RL, rd')) (len : rd'.length <= N) (po : st'.po = st.po) (nf' : st'.nf = nf) : DI a enc L0 RL st pr N nf L
noncomputable def G3 (N2 S : Addr) (enc : κ -> PyData) (ks : List κ) : Gam := [("n2i", opq N2), ("self", opq S), ("nodes", .tuple (ks.map enc))]
theorem JK (W : Wd1 c mg mb) (hF : (F1 c.w).In c.base) (hl : l < 55) (dk : bh c.w κ) {S Sx N2 RL : Addr} {st : St κ} {L : aP} {rd ks : List κ} (h : Srt (sa1 S Sx N2) dk.enc st L) (hr : st.rn = some (RL, rd)) (hks : ∀ k ∈ ks, k ∈ st.keys) (hsu : ∀ n ∈ st.nds, ∀ s ∈ n.su, s ∈ st.keys)
  (hout : ∀ i k, ks[i]? = some k -> jt (eZ (ks.take i) (st.abs, rd)).1 k = -1) {N : Nat} (hN : ∀ n ∈ st.nds, n.su.length <= N) (hz : rd.length + ks.length * N <= 10 ^ 6) (hz2 : ks.length <= 10 ^ 6) :
  FnA c l 120 (opq S :: ks.map dk.enc) L (MF (sa1 S Sx N2) dk.enc st RL rd ks L) := by
 obtain ⟨pm, code, doc, Fm⟩ := Jx hF W.lim
 refine gj (ps := ["self", "nodes"]) (es := [opq S, .tuple (ks.map dk.enc)]) Fm (show fG (dm1 6 7).scope _ = true by decide +kernel) (by omega) rfl (pW (by rw [List.length_map]; omega) fun a vs => by cases vs <;> rfl) fun A s0 ad X0 hX hA => ?_
 have hF' : (F1 c.w).In (c.push ad).base := hF
 obtain ⟨t1, gout⟩ := Im (W.push ad) hF'
 obtain ⟨t2, gdone⟩ := JG (W.push ad) hF'
 obtain ⟨fs, s1, s2, s3, s4, s5⟩ := h.self
 have s3' : (("_ready_nodes", opq RL) : Str × PyData) ∈ fs := by rw [hr] at s3; exact s3
 have e0 : ∀ (K : Act) (L : aP), aj K.c L = aj K.c L ++ ([] : Del K) := fun K L => (List.append_nil _).symm
 rw [e0]
 refine Ex.seq (Γ1 := [("self", opq S), ("nodes", .tuple (ks.map dk.enc))]) (R1 := []) (Δ1 := aj _ L ++ []) (Ex1.ite (EtS.isNone (EvS.fld (F := F1 c.w) hF' (.n m0) s1 s3' (by kernel_rfl))) (fun h => by cases h) fun _ => .nil rfl) ?_
 refine Ex.new (EvS.fld (F := F1 c.w) hF' (.n m0) s1 s2 (by kernel_rfl)) ?_
 refine Ex.rE (Ex1.forL (ks := ks) (g := dk.enc) (Γ0 := G3 N2 S dk.enc ks) (T := []) (fun i => DI (sa1 S Sx N2) dk.enc L RL st (eZ (ks.take i) (st.abs, rd)) (rd.length + i * N) (st.nf + i))
  (.of fun X => .iG (.n m2)) ⟨st, rd, h, .refl, rfl, rfl, hr, by omega, rfl, by omega⟩ (fun p h => h) hX (fun i p L1 r hp hI => ?_)) fun L' hI => ?_
 ·obtain ⟨st1, rd1, H1, hE1, hab1, hsh1, b1, hrd1, b2, b3⟩ := hI
  have hi : i < ks.length := (List.getElem?_eq_some_iff.mp hp).1
  have hpk : p ∈ st1.keys := sX hsh1 ▸ hks p (lG hp)
  obtain ⟨n, hn, hnk, hg⟩ := rF hpk H1.nk
  obtain ⟨⟨gs, q1, q2, q3, q4⟩, q5⟩ := H1.nd n hn
  have hnp : n.np = -1 := by
   have := hout i p hp
   rw [<- hab1] at this
   rw [<- wN H1.nk hn, hnk]
   exact this
  refine Ex.seq (Γ1 := ("nodeinfo", opq n.x) :: ("node", dk.enc p) :: G3 N2 S dk.enc ks) (R1 := []) (Δ1 := aj _ L1 ++ [r]) (Ex1.Lf (d := opq n.x) (EvS.as (EvS.Lb (κ := κ) dk (D := N2) (W.push ad).sys (.n m1) (.n m0) H1.map) (by rw [hg]; rfl)) rfl (fun h => by cases h) fun _ => .nil rfl) ?_
  refine Ex.new (EvS.slt (F := F1 c.w) (p := 42) (i := 1) hF' (.n m0) q1 q3 (by kernel_rfl)) ?_
  rw [hnp]
  refine Ex.seq (Γ1 := ("stat", .int (-1)) :: ("nodeinfo", opq n.x) :: ("node", dk.enc p) :: G3 N2 S dk.enc ks) (R1 := []) (Δ1 := aj _ L1 ++ [r]) (Ex1.ite (b := false) (EtS.of fun X => .cmp (.n m0) (.g gout fun h => .int _ _) .neI) (fun h => by cases h) fun _ => .nil rfl) ?_
  refine Ex.seq (Ex1.setG (F := F1 c.w) (p := 42) (i := 1) (d := .int (-2)) hF' (.of fun X => .g gdone fun h => .int _ _) (.n m1) rfl q1 (by kernel_rfl)) ?_
  obtain ⟨H2, hE2⟩ := H1.wF (v := -2) hn (cH q2 (by decide)) fQ (cH q4 (by decide))
  have hab2 : (Srt.upK st1 n.k fun m => { m with np := -2 }).abs = upP st1.abs p (npP (-2)) := by rw [qU (g' := npP (-2)) fun _ => rfl, hnk]
  obtain ⟨n2, hn2, e1, e2, e3, e4⟩ := qZ (mH (st := st1) (k := n.k) (v := -2)) hn
  have hsu1 : d9 st1.abs p = n.su := by rw [<- hnk]; exact FT H1.nk hn
  obtain ⟨gs2, p1, p2, p3, p4⟩ := (H2.nd n2 hn2).at_
  obtain ⟨n0, hn0, _, _, _, e⟩ := qZ hsh1.symm hn
  refine Ex.rE (Ex1.Mt (D := n.li) (ks := n.su) (g := dk.enc) (Γ0 := ("stat", .int (-1)) :: ("nodeinfo", opq n.x) :: ("node", dk.enc p) :: G3 N2 S dk.enc ks) (T := [r]) (fun j => DI (sa1 S Sx N2) dk.enc L RL st ((n.su.take j).foldl kJ (upP st1.abs p (npP (-2)), rd1)) (rd1.length + j) (st.nf + i))
    (EvS.slt (F := F1 c.w) (p := 43) (i := 2) hF' (.n m1) (e2 ▸ p1) (e3 ▸ p4) (by kernel_rfl)) (fun k _ => dk.flat k)
    ⟨_, rd1, H2, hE1.trans hE2, by rw [hab2]; rfl, mH.trans hsh1, b1, Nat.le_refl _, b2, b3⟩ (fun p h => h) hX (fun j L' hI => ?_) fun j q L3 r2 hq hI => ?_) fun L3 hI => ?_
  ·obtain ⟨st3, rd3, H, _, _, hsh, _⟩ := hI
   obtain ⟨n4, hn4, f1, f2, f3, f4⟩ := qZ (hsh.trans hsh1.symm) hn
   have := (H.nd n4 hn4).lst
   rw [f3, f4] at this
   exact this
  ·obtain ⟨st3, rd3, H3, hE3, hab3, hsh3, c1, hrd3, c2, c3⟩ := hI
   have hqk : q ∈ st3.keys := sX hsh3 ▸ hsu n0 hn0 q (e ▸ lG hq)
   obtain ⟨m, hm, hmk, hg3⟩ := rF hqk H3.nk
   obtain ⟨gs3, u1, u2, u3, u4⟩ := (H3.nd m hm).at_
   have hj : j < n.su.length := (List.getElem?_eq_some_iff.mp hq).1
   have hnN : n.su.length <= N := e ▸ hN n0 hn0
   refine Ex.new (EvS.Je (κ := κ) dk (.n m4) (.n m0) H3.map hg3) ?_
   refine Ex.seq (Ex1.K6 (F := F1 c.w) (p := 42) (i := 1) (d1 := .int m.np) (d2 := .int 1) (d := .int (m.np - 1)) hF' (.n m0) (.of fun X => .int) u1 u3 .Lg rfl rfl (by kernel_rfl)) ?_
   obtain ⟨H4, hE4⟩ := H3.wF (v := m.np - 1) hm (cH u2 (by decide)) fQ (cH u4 (by decide))
   have hmn : jt st3.abs q = m.np := by rw [<- hmk]; exact wN H3.nk hm
   have hab4 : (Srt.upK st3 m.k fun n => { n with np := m.np - 1 }).abs = upP st3.abs q (npP (jt st3.abs q - 1)) := by rw [qU (g' := npP (m.np - 1)) fun _ => rfl, hmk, hmn]
   have hs1 : (n.su.take (j + 1)).foldl kJ (upP st1.abs p (npP (-2)), rd1) = kJ (st3.abs, rd3) q := by
    rw [List.take_add_one, hq, List.foldl_append, <- hab3]
    rfl
   rw [hs1]
   refine Ex.rE (Γ0 := ("successor_info", opq m.x) :: ("successor", dk.enc q) :: ("stat", .int (-1)) :: ("nodeinfo", opq n.x) :: ("node", dk.enc p) :: G3 N2 S dk.enc ks) (T := [r2, r]) (P := DI (sa1 S Sx N2) dk.enc L RL st (kJ (st3.abs, rd3) q) (rd1.length + (j + 1)) (st.nf + i))
    (Ex1.ite (EtS.cmp (EvS.slt (F := F1 c.w) (p := 42) (i := 1) hF' (.n m0) (dX u1) fQ (by kernel_rfl)) (.of fun X => .int) rfl .eqI) (fun hz => ?_) fun hz => ?_) fun L5 hI5 => .atW (fun p hp => .tail _ (.tail _ hp)) hI5
   ·have hz' : m.np - 1 = 0 := by simpa using hz
    obtain ⟨fs4, w1, w2, w3, w4, w5⟩ := H4.self
    have w3' : (("_ready_nodes", opq RL) : Str × PyData) ∈ fs4 := by
     have : (Srt.upK st3 m.k fun n => { n with np := m.np - 1 }).rn = some (RL, rd3) := c1
     rw [this] at w3; exact w3
    refine Ex.seq (Ex1.mF (D := RL) (ds := rd3.map dk.enc) (d := dk.enc q) (EvS.fld (F := F1 c.w) hF' (.n m6) w1 w3' (by kernel_rfl)) (.n m1) (dk.flat q) (H4.rdy (RL, rd3) c1) ?_) ?_
    ·rw [List.length_map]
     have h1 : i * N + N <= ks.length * N := by
      have := Nat.mul_le_mul_right N (show i + 1 <= ks.length from hi)
      rwa [Nat.add_mul, Nat.one_mul] at this
     omega
    ·have q5 := H4.Fz (r := RL) (ks := rd3) (ks' := rd3 ++ [q]) c1
     rw [List.map_append] at q5
     refine .at ⟨_, rd3 ++ [q], q5.1, (hE3.trans hE4).trans q5.2, ?_, (mH (st := st3) (k := m.k) (v := m.np - 1)).trans hsh3, rfl, by rw [List.length_append]; exact Nat.add_le_add_right hrd3 1, c2, c3⟩
     show ((Srt.upK st3 m.k fun n => { n with np := m.np - 1 }).abs, rd3 ++ [q]) = _
     rw [hab4]
     unfold kJ
     rw [if_pos (by rw [hmn]; exact hz')]
   ·have hz' : ¬ m.np - 1 = 0 := by simpa using hz
    refine .at ⟨_, rd3, H4, hE3.trans hE4, ?_, mH.trans hsh3, c1, Nat.le_succ_of_le hrd3, c2, c3⟩
    rw [hab4]
    unfold kJ
    rw [if_neg (by rw [hmn]; exact hz')]
  ·obtain ⟨st3, rd3, H3, hE3, hab3, hsh3, c1, hrd3, c2, c3⟩ := hI
   obtain ⟨fs4, w1, w2, w3, w4, w5⟩ := H3.self
   refine Ex.seq (Ex1.K5 (F := F1 c.w) (d1 := .int st3.nf) (d2 := .int 1) (d := .int (st3.nf + 1)) hF' (.n m4) (.of fun X => .int) w1 w5 .Bh rfl rfl (by kernel_rfl) (by decide)) ?_
   obtain ⟨H4, hE4⟩ := H3.Fq (po := st3.po) (nf := st3.nf + 1) (fs' := jo "_nfinished" [.int (st3.nf + 1)] fs4) (bw w2) (bw w3) (bw w4) dN
   refine .atW (fun p hp => .tail _ (.tail _ (.tail _ hp))) ⟨_, rd3, H4, hE3.trans hE4, ?_, hsh3, c1, ?_, c2, ?_⟩
   ·show (st3.abs, rd3) = _
    rw [hab3, List.take_length, List.take_add_one, hp]
    unfold eZ
    rw [List.foldl_append]
    show _ = qX (eZ (ks.take i) (st.abs, rd)) p
    rw [<- hab1]
    unfold qX
    rw [hsu1]
   ·have hnN : n.su.length <= N := e ▸ hN n0 hn0
    rw [Nat.add_mul, Nat.one_mul]; omega
   ·show st3.nf + 1 = _
    omega
 ·obtain ⟨st', rd', H, hE, hab, hsh, b1, hrd, b2, b3⟩ := hI
  rw [List.take_length] at hab
  have h1 : st'.abs = _ := congrArg Prod.fst hab
  have h2 : rd' = _ := congrArg Prod.snd hab
  exact .nil ⟨rfl, L', by rw [List.append_nil]; exact List.Sublist.refl _, ⟨rfl, st', H, hE, h1, h2 ▸ b1, b2, b3⟩, hE⟩
end
section
variable {mg mb : Str -> Option Value} [DecidableEq κ]
noncomputable def ndD (N : Addr) (enc : κ -> PyData) (n : PN κ) : PyData := mL N [] [0, 1, 2] [] [enc n.1, .int n.2.1, .list (n.2.2.map enc)]
noncomputable def Cw (T N : Addr) (enc : κ -> PyData) (ns : List (PN κ)) : PyData := mL T ["_node2info"] [] [dD enc (ns.map fun n => (n.1, ndD N enc n))] []
noncomputable def RSF (K : Act) (enc : κ -> PyData) (stk : List (Frm κ)) : Del K := stk.map fun f => fP K.c f.m f.I (f.su.map enc) f.i
theorem GK {ns : List (PN κ)} (N : Addr) (enc : κ -> PyData) (hn : (ns.map (·.1)).Nodup) {n : PN κ} (h : n ∈ ns) : cj (ns.map fun n => (n.1, ndD N enc n)) n.1 = some (ndD N enc n) := by
 unfold cj
 have : (ns.map fun n => (n.1, ndD N enc n)).find? (fun p => p.1 = n.1) = some (n.1, ndD N enc n) := by
  rw [List.find?_map]
  have e : ((fun p : κ × PyData => decide (p.1 = n.1)) ∘ fun n => (n.1, ndD N enc n)) = fun m : PN κ => decide (m.1 = n.1) := rfl
  rw [e, mG hn h]
  rfl
 rw [this]; rfl
theorem GP {ns : List (PN κ)} (hn : (ns.map (·.1)).Nodup) {n : PN κ} (h : n ∈ ns) : d9 ns n.1 = n.2.2 := by
 unfold d9
 rw [mG hn h]; rfl
noncomputable def vJ (enc : κ -> PyData) (ns : List (PN κ)) (D1 D2 D3 D4 : Addr) : Gam := [("node2stacki", opq D4), ("seen", opq D3), ("itstack", opq D2), ("stack", opq D1), ("n2i", dD enc (ns.map fun n => (n.1, ndD 40 enc n))), ("self", Cw 137 40 enc ns)]
noncomputable abbrev kcyc (c : Cfg) (l : Nat) (pm code doc : Value) (ad : Addr) (X : List Addr) : Act := cQ c l (mfd (dm1 6 8) "TopologicalSorter._find_cycle" .none pm code doc) ad 127 X
theorem Cx {ns : List (PN κ)} {s : κ} (h : s ∈ d9 ns k) : ∃ n ∈ ns, n.1 = k /\ s ∈ n.2.2 := by
 unfold d9 at h
 cases e : ns.find? fun n => n.1 = k with
 | none => rw [e] at h; cases h
 | some n =>
  rw [e] at h
  exact ⟨n, List.mem_of_find?_eq_some e, by simpa using List.find?_some e, h⟩
theorem zy {kvs : List (κ × α)} (h : k ∉ kvs.map (·.1)) : cj kvs k = none := by
 unfold cj
 rw [Option.map_eq_none_iff, List.find?_eq_none]
 intro p hp e
 exact h (List.mem_map.mpr ⟨p, hp, by simpa using e⟩)
theorem EtS.as {E : Err} {b' : Bool} (h : EtS K A s0 E Γ R Δ e b) (e' : b = b') : EtS K A s0 E Γ R Δ e b' := e' ▸ h
set_option genInjectivity false in
set_option genSizeOf false in
structure CyP (κ : Type) [DecidableEq κ] where
 c : Cfg
 l : Nat
 pm : Value
 code : Value
 doc : Value
 ad : Addr
 X : List Addr
 dk : bh c.w κ
 ns : List (PN κ)
 rk : κ -> Nat
 D1 : Addr
 D2 : Addr
 D3 : Addr
 D4 : Addr
noncomputable def CyP.Kx (p : CyP κ) : Act := kcyc p.c p.l p.pm p.code p.doc p.ad p.X
noncomputable def CyP.G (p : CyP κ) : Gam := vJ p.dk.enc p.ns p.D1 p.D2 p.D3 p.D4
noncomputable def CyP.Nx (p : CyP κ) (k : κ) : Gam := ("node", p.dk.enc k) :: p.G
noncomputable def CyP.ksx (p : CyP κ) : List κ := p.ns.map (·.1)
noncomputable def CyP.Lx (p : CyP κ) (a b d : List PyData) (kvs : List (κ × PyData)) : aP := [(p.D4, .data (dD p.dk.enc kvs)), (p.D2, .data (.list b)), (p.D1, .data (.list a))]
noncomputable def CyP.ms (p : CyP κ) (stk : List (Frm κ)) : List PyData := stk.reverse.map fun f => opq f.m
noncomputable def CyP.kd (p : CyP κ) (stk : List (Frm κ)) : List PyData := stk.reverse.map fun f => p.dk.enc f.k
noncomputable def CyP.Tx (p : CyP κ) (sk : List κ) (stk : List (Frm κ)) (r : Res p.Kx.c) : Del p.Kx := cD p.Kx.c p.dk p.D3 sk :: (RSF p.Kx p.dk.enc stk ++ [r])
noncomputable def CyP.Dx (p : CyP κ) (stk : List (Frm κ)) (kvs : List (κ × PyData)) (sk : List κ) (r : Res p.Kx.c) : Del p.Kx := aj p.Kx.c (p.Lx (p.kd stk) (p.ms stk) [] kvs) ++ p.Tx sk stk r
structure jc (p : CyP κ) : Prop where
 sys : sysModules ∈ p.Kx.c.fr
 fr : (F1 p.c.w).In p.Kx.c.base
 iter : Glb p.Kx.c "iter" (.builtin "iter")
 stop : Glb p.Kx.c "StopIteration" (.type "StopIteration")
 len : Glb p.Kx.c "len" (.builtin "len")
 sc : Scan p.dk
 nd : (p.ns.map (·.1)).Nodup
 sz : p.ns.length <= 3000
 suk : ∀ n ∈ p.ns, ∀ s ∈ n.2.2, s ∈ p.ns.map (·.1)
 rk : ∀ n ∈ p.ns, ∀ s ∈ n.2.2, p.rk s < p.rk n.1
 h42 : p.D4 ≠ p.D2
 h41 : p.D4 ≠ p.D1
 h21 : p.D2 ≠ p.D1
section
variable {p : CyP κ} {r : Res p.Kx.c} {E : Err}
theorem CyP.q1 : (("node2stacki", opq p.D4) : Str × PyData) ∈ p.G := by unfold CyP.G vJ; exact m0
theorem CyP.q2 : (("seen", opq p.D3) : Str × PyData) ∈ p.G := by unfold CyP.G vJ; exact m1
theorem CyP.q3 : (("itstack", opq p.D2) : Str × PyData) ∈ p.G := by unfold CyP.G vJ; exact m2
theorem CyP.q4 : (("stack", opq p.D1) : Str × PyData) ∈ p.G := by unfold CyP.G vJ; exact m3
theorem CyP.q5 : (("n2i", dD p.dk.enc (p.ns.map fun n => (n.1, ndD 40 p.dk.enc n))) : Str × PyData) ∈ p.G := by unfold CyP.G vJ; exact m4
theorem CyP.off : offB ["node"] (p.G.map (·.1)) = true := by unfold CyP.G vJ; kernel_rfl
theorem CyP.filt : ((("node", d) : Str × PyData) :: p.G).filter (fun x => x.1 != ("node" : Str)) = p.G := by
 rw [List.filter_cons_of_neg (by simp)]
 exact bM fun x hx e => bC CyP.off x hx (e ▸ .head _)
theorem CyP.in (ok : jc p) {Γ : Gam} (hΓ : ∀ x ∈ p.G, x ∈ Γ) {k : κ} (hk : (("node", p.dk.enc k) : Str × PyData) ∈ Γ) {L : aP} {sk : List κ} {M : Del p.Kx} {p1 p2 p3 : Pos} :
  EtS p.Kx A s0 NoE Γ [] (aj p.Kx.c L ++ (cD p.Kx.c p.dk p.D3 sk :: M)) (.Compare (.Name "node" p1) [.In] [.Name "seen" p2] p3) (decide (k ∈ sk)) :=
 EtS.inSet (K := p.Kx) (κ := κ) p.dk ok.sc (.n hk) (.n (hΓ _ CyP.q2)) (lR _ (.head _))
theorem jc.key (ok : jc p) {k : κ} (hk : k ∈ p.ksx) : ∃ n ∈ p.ns, n.1 = k /\ d9 p.ns k = n.2.2 /\ cj (p.ns.map fun n => (n.1, ndD 40 p.dk.enc n)) k = some (ndD 40 p.dk.enc n) := by
 obtain ⟨n, h1⟩ := bx hk
 exact ⟨n, h1, rfl, GP ok.nd h1, GK 40 p.dk.enc ok.nd h1⟩
theorem jc.klen (ok : jc p) : p.ksx.length <= 3000 := by unfold CyP.ksx; rw [List.length_map]; exact ok.sz
theorem jc.u2 (ok : jc p) {a b d e : List PyData} {kvs : List (κ × PyData)} : bf (p.Lx a b d kvs) p.D2 (.data (.list e)) = p.Lx a e d kvs := by simp [CyP.Lx, bf, ok.h42, ok.h21.symm]
theorem jc.u4 (ok : jc p) {a b d : List PyData} {kvs kws : List (κ × PyData)} : bf (p.Lx a b d kvs) p.D4 (.data (dD p.dk.enc kws)) = p.Lx a b d kws := by simp [CyP.Lx, bf, ok.h42.symm, ok.h41.symm]
theorem jc.u1 (ok : jc p) {a b d e : List PyData} {kvs : List (κ × PyData)} : bf (p.Lx a b d kvs) p.D1 (.data (.list e)) = p.Lx e b d kvs := by simp [CyP.Lx, bf, ok.h41, ok.h21]
theorem xH (ok : jc p) (h : kO p.ksx sk) : sk.length <= 3000 := by
 have h1 := ok.klen
 have : sk.length + (p.ksx.filter fun u => decide (u ∉ sk)).length <= p.ksx.length := h
 omega
inductive CyI (p : CyP κ) (r : Res p.Kx.c) (n : Nat) : Gam -> Ros -> Del p.Kx -> Prop
 | mk (k : κ) (stk : List (Frm κ)) (sk : List κ) (kvs : List (κ × PyData)) (hk : k ∈ p.ksx) (hG : eF p.ksx (d9 p.ns) p.rk sk stk) (hc : kO p.ksx sk) (hl : stk.length <= sk.length) (hr : ∀ g ∈ stk.head?, p.rk k < p.rk g.k)
   (hkv : kvs.map (·.1) = stk.reverse.map (·.k)) (hm : muF p.ksx (d9 p.ns) sk stk = n) : CyI p r n (p.Nx k) [] (p.Dx stk kvs sk r)
inductive CyM (p : CyP κ) (r : Res p.Kx.c) (k : κ) (n : Nat) : Out p.Kx -> Prop
 | mk (stk : List (Frm κ)) (sk : List κ) (kvs : List (κ × PyData)) (hG : eF p.ksx (d9 p.ns) p.rk sk stk) (hc : kO p.ksx sk) (hl : stk.length <= sk.length)
   (hkv : kvs.map (·.1) = stk.reverse.map (·.k)) (hm : muF p.ksx (d9 p.ns) sk stk <= n) : CyM p r k n (.next (p.Nx k) [] (p.Dx stk kvs sk r))
inductive CyW (p : CyP κ) (r : Res p.Kx.c) (k : κ) (sk : List κ) (n q : Nat) : Gam -> Ros -> Del p.Kx -> Prop
 | mk (stk : List (Frm κ)) (kvs : List (κ × PyData)) (hq : q = stk.length) (hG : eF p.ksx (d9 p.ns) p.rk sk stk) (hl : stk.length <= sk.length)
   (hkv : kvs.map (·.1) = stk.reverse.map (·.k)) (hm : muF p.ksx (d9 p.ns) sk stk <= n) : CyW p r k sk n q (p.Nx k) [] (p.Dx stk kvs sk r)
inductive CyN (p : CyP κ) (r : Res p.Kx.c) (sk : List κ) (n : Nat) : Gam -> Ros -> Del p.Kx -> Prop
 | mk (s : κ) (stk : List (Frm κ)) (kvs : List (κ × PyData)) (hs : s ∈ p.ksx) (hG : eF p.ksx (d9 p.ns) p.rk sk stk) (hl : stk.length <= sk.length) (hr : ∀ g ∈ stk.head?, p.rk s < p.rk g.k)
   (hkv : kvs.map (·.1) = stk.reverse.map (·.k)) (hm : muF p.ksx (d9 p.ns) sk stk < n) : CyN p r sk n (p.Nx s) [] (p.Dx stk kvs sk r)
inductive CyB (p : CyP κ) (r : Res p.Kx.c) (k : κ) (sk : List κ) : Gam -> Ros -> Del p.Kx -> Prop
 | mk : CyB p r k sk (p.Nx k) [] (p.Dx [] [] sk r)
noncomputable def CyO (p : CyP κ) (r : Res p.Kx.c) (k : κ) (sk : List κ) (n : Nat) : Out p.Kx -> Prop
 | .next Γ R D => CyN p r sk n Γ R D
 | .brk Γ R D => CyB p r k sk Γ R D
 | _ => False
inductive MJ (p : CyP κ) : Gam -> Ros -> Del p.Kx -> Prop
 | mk (sk : List κ) (h : kO p.ksx sk) : MJ p p.G [] (aj p.Kx.c (p.Lx [] [] [] []) ++ [cD p.Kx.c p.dk p.D3 sk])
inductive MK (p : CyP κ) : Out p.Kx -> Prop
 | mk (sk : List κ) : MK p (.next p.G [] (aj p.Kx.c (p.Lx [] [] [] []) ++ [cD p.Kx.c p.dk p.D3 sk]))
inductive GQ (p : CyP κ) (r : Res p.Kx.c) : Out p.Kx -> Prop
 | mk (k : κ) (sk : List κ) (h : kO p.ksx sk) : GQ p r (.next (p.Nx k) [] (p.Dx [] [] sk r))
noncomputable def JL : List Stmt := match (dm1 6 8).body.drop 5 with
 | .For _ _ b _ _ :: _ => b
 | _ => []
noncomputable def xJ : List Stmt := match JL.drop 1 with
 | .While _ b _ _ :: _ => b
 | _ => []
noncomputable def MN : List Stmt × List Stmt := match xJ.drop 1 with
 | .While _ b e _ :: _ => (b, e)
 | _ => ([], [])
theorem vK {f : Frm κ} : p.Dx (⟨f.k, f.su, f.m, I, i⟩ :: rest) kvs sk r = aj p.Kx.c (p.Lx (p.kd rest ++ [p.dk.enc f.k]) (p.ms rest ++ [opq f.m]) [] kvs) ++ (cD p.Kx.c p.dk p.D3 sk :: fP p.Kx.c f.m I (f.su.map p.dk.enc) i :: (RSF p.Kx p.dk.enc rest ++ [r])) := by
 simp [CyP.Dx, CyP.Tx, CyP.kd, CyP.ms, RSF]
theorem Cy {f : Frm κ} (hkv : kvs.map (·.1) = (f :: rest).reverse.map (·.k)) : ∃ kvs' v, kvs = kvs' ++ [(f.k, v)] /\ kvs'.map (·.1) = rest.reverse.map (·.k) := by
 rw [List.reverse_cons, List.map_append] at hkv
 obtain ⟨k1, k2, e, h1, h2⟩ := List.map_eq_append_iff.mp hkv
 obtain ⟨q, rfl⟩ := List.length_eq_one_iff.mp (show k2.length = 1 by have := congrArg List.length h2; simpa using this)
 have hq : q.1 = f.k := by simpa using h2
 exact ⟨k1, q.2, by rw [e, <- hq], h1⟩
theorem JM (ok : jc p) {k : κ} {sk : List κ} {n : Nat} (hA : ∃ outer, A.frames = some (p.Kx.env :: outer)) (hX : dg p.Kx s0) {f : Frm κ} {rest : List (Frm κ)} {kvs : List (κ × PyData)} (hsl : sk.length <= 3000) (hG : eF p.ksx (d9 p.ns) p.rk sk (f :: rest)) (hl : (f :: rest).length <= sk.length)
  (hkv : kvs.map (·.1) = (f :: rest).reverse.map (·.k)) (hm : muF p.ksx (d9 p.ns) sk (f :: rest) <= n) :
  Ex p.Kx A s0 NoE (p.Nx k) [] (p.Dx (f :: rest) kvs sk r) MN.1 fun o => (∃ m Γ' R' Δ', m < (f :: rest).length /\ (o = .next Γ' R' Δ' \/ o = .cont Γ' R' Δ') /\ CyW p r k sk n m Γ' R' Δ') \/ (∃ Γ' R' Δ', o = .brk Γ' R' Δ' /\ CyO p r k sk n (.next Γ' R' Δ')) \/ ∃ d, o = .ret d /\ CyO p r k sk n (.ret d) := by
 have eL0 : p.Dx (f :: rest) kvs sk r = _ := vK (I := f.I) (i := f.i)
 rw [eL0]
 have hrl : rest.length <= 3000 := by rw [List.length_cons] at hl; omega
 have hms : (p.ms rest).length = rest.length := by unfold CyP.ms; rw [List.length_map, List.length_reverse]
 have hkd : (p.kd rest).length = rest.length := by unfold CyP.kd; rw [List.length_map, List.length_reverse]
 have hlast : ∀ (E : Err) (p1 p2 p3 p4 : Pos) (M : Del p.Kx) (rf : Res p.Kx.c), EvS p.Kx A s0 E (p.Nx k) [] (rf :: (aj p.Kx.c (p.Lx (p.kd rest ++ [p.dk.enc f.k]) (p.ms rest ++ [opq f.m]) [] kvs) ++ M)) (.Subscript (.Name "itstack" p1) (.UnaryOp .USub (.Constant (.int 1) 0 p2) p3) p4) (opq f.m) := fun E p1 p2 p3 p4 M rf =>
  EvS.perm List.perm_middle.symm (EvS.last (D := p.D2) (ds := p.ms rest) (.n (.tail _ CyP.q3)) m1 (by rw [hms]; omega))
 refine Ex.perm Ig ?_
 by_cases hi : f.i < f.su.length
 ·have hsi : f.su[f.i]? = some f.su[f.i] := List.getElem?_eq_getElem hi
  generalize f.su[f.i] = s at hsi
  have hfs : s ∈ d9 p.ns f.k := by rw [<- hG.suc f (.head _)]; exact lG hsi
  obtain ⟨nf, hnf, hnfk, hnfs⟩ := Cx hfs
  have hsr : p.rk s < p.rk f.k := by rw [<- hnfk]; exact ok.rk nf hnf s hnfs
  refine Ex.cons (fun o => o = .brk (p.Nx s) [] (p.Dx (⟨f.k, f.su, f.m, f.I, f.i + 1⟩ :: rest) kvs sk r))
   (Ex1.try (T := "StopIteration") (cls := "StopIteration") (P := fun _ _ _ => False) ok.stop (by kernel_rfl) (by kernel_rfl) (by kernel_rfl) (by kernel_rfl) ?_ fun e s1 X1 _ _ _ h => h.elim) (fun _ _ _ e => nomatch e) (fun _ _ _ e => ?_) (fun _ _ _ e => nomatch e) (fun _ e => nomatch e)
  ·refine Ex.seq (Ex1.Bp (d := p.dk.enc s) (hlast _ _ _ _ _ _ _) (by rw [List.getElem?_map, hsi]; rfl) (p.dk.flat s)) ?_
   unfold CyP.Nx
   rw [CyP.filt]
   refine Ex.perm Ig.symm (Ex.brk ?_)
   rw [vK]
  ·refine .inr (.inl ⟨_, _, _, e, CyN.mk s _ kvs (ok.suk nf hnf s hnfs) hG.step hl (fun g hg => by cases hg; exact hsr) (hkv.trans (by rw [List.reverse_cons, List.reverse_cons, List.map_append, List.map_append]; rfl)) ?_⟩)
   unfold muF at hm ⊢
   simp only [List.map_cons, List.sum_cons] at hm ⊢
   omega
 ·obtain ⟨kvs', v, rfl, hkv'⟩ := Cy hkv
  have hkvl : kvs'.length = rest.length := by
   have := congrArg List.length hkv'
   rw [List.length_map, List.length_map, List.length_reverse] at this
   exact this
  have hfn : f.k ∉ kvs'.map (·.1) := fun hm => by
   rw [hkv'] at hm
   obtain ⟨g, hg, e⟩ := List.mem_map.mp hm
   have := (List.pairwise_cons.mp hG.desc).1 g (List.mem_reverse.mp hg)
   rw [e] at this
   exact Nat.lt_irrefl _ this
  refine Ex.cons (fun o => o = .next (p.Nx k) [] (p.Dx rest kvs' sk r))
   (Ex1.try (T := "StopIteration") (cls := "StopIteration") (P := fun Γ R Δ => Γ = p.Nx k /\ R = ([] : Ros) /\ Δ = aj p.Kx.c (p.Lx (p.kd rest ++ [p.dk.enc f.k]) (p.ms rest ++ [opq f.m]) [] (kvs' ++ [(f.k, v)])) ++ p.Tx sk rest r) ok.stop (by kernel_rfl) (by kernel_rfl) (by kernel_rfl) (by kernel_rfl) ?_ ?_) (fun _ _ _ e => ?_) (fun _ _ _ e => nomatch e) (fun _ _ _ e => nomatch e) (fun _ e => nomatch e)
  ·exact Ex.cons (fun _ => False) (Ex1.FZ (hlast _ _ _ _ _ _ _) (by rw [List.length_map]; omega) hA ⟨p.ad, rfl⟩ hX ⟨rfl, rfl, rfl⟩) (fun _ _ _ h => h.elim) (fun _ _ _ h => h.elim) (fun _ _ _ h => h.elim) (fun _ h => h.elim)
  ·rintro e s1 X1 _ _ _ ⟨rfl, rfl, rfl⟩ S1
   refine wpAny_execs_cons (wK (vq (κ := κ) p.dk (D1 := p.D1) (D2 := p.D4) (ds := p.kd rest) (kvs := kvs') (k := f.k) (d := v) S1 (.tail _ CyP.q4) (.tail _ CyP.q1) m2 m0 ok.h41 (by rw [hkd]; omega) (by omega) hfn) (fun fl s2 q => ?_))
   obtain ⟨rfl, S2⟩ := q
   rw [ok.u1, ok.u4] at S2
   refine wpAny_execs_cons (wK (Ga (D := p.D2) (ds := p.ms rest) (d := opq f.m) S2 (.tail _ CyP.q3) m1 (by rw [hms]; omega)) (fun fl s3 q => ?_))
   obtain ⟨rfl, S3⟩ := q
   rw [ok.u2] at S3
   exact wpAny_execs_nil ⟨_, _, _, _, rfl, S3⟩
  ·cases e
   refine .nil (.inl ⟨rest.length, _, _, _, Nat.lt_succ_self _, .inl rfl, .mk rest kvs' rfl hG.pop (by rw [List.length_cons] at hl; omega) hkv' ?_⟩)
   unfold muF at hm ⊢
   simp only [List.map_cons, List.sum_cons] at hm ⊢
   omega
theorem nQ {D : Del K} {r s : Res K.c} : List.Perm (r :: (D ++ [s])) (D ++ [s, r]) := by
 have : D ++ [s, r] = (D ++ [s]) ++ [r] := by simp
 rw [this]
 exact (List.perm_append_singleton r (D ++ [s])).symm
theorem Cz (ok : jc p) {n : Nat} {Γ : Gam} {R : Ros} {Δ : Del p.Kx} (hA : ∃ outer, A.frames = some (p.Kx.env :: outer)) (hX : dg p.Kx s0) (h : CyI p r n Γ R Δ) :
  Ex p.Kx A s0 NoE Γ R Δ xJ fun o => (∃ m Γ' R' Δ', m < n /\ (o = .next Γ' R' Δ' \/ o = .cont Γ' R' Δ') /\ CyI p r m Γ' R' Δ') \/ (∃ Γ' R' Δ', o = .brk Γ' R' Δ' /\ GQ p r (.next Γ' R' Δ')) \/ ∃ d, o = .ret d /\ GQ p r (.ret d) := by
 obtain ⟨k, stk, sk, kvs, hk, hG, hcnt, hlen, hrk1, hkv, hmu⟩ := h
 obtain ⟨nk, hnk1, hnk2, hnk3, hnk4⟩ := ok.key hk
 have hskl := xH ok hcnt
 have hms : (p.ms stk).length = stk.length := by unfold CyP.ms; rw [List.length_map, List.length_reverse]
 have hkd : (p.kd stk).length = stk.length := by unfold CyP.kd; rw [List.length_map, List.length_reverse]
 have hkvl : kvs.length = stk.length := by
  have := congrArg List.length hkv
  rw [List.length_map, List.length_map, List.length_reverse] at this
  exact this
 have hfresh := hG.fresh hrk1
 have hkn : k ∉ kvs.map (·.1) := fun hm => by
  rw [hkv] at hm
  obtain ⟨f, hf, e⟩ := List.mem_map.mp hm
  exact hfresh f (List.mem_reverse.mp hf) e
 refine Ex.j9 (O1 := CyM p r k n) (Ex1.ite (CyP.in ok (fun x hx => .tail _ hx) (.head _)) (fun hin => ?_) fun hin => ?_) ?_
 ·refine Ex.seq (Ex1.ite (b := false) (EtS.as (EtS.Ls (K := p.Kx) (κ := κ) p.dk ok.sys (D := p.D4) (k := k) (kvs := kvs) (.n m0) (.n (.tail _ CyP.q1)) m0) (by rw [zy hkn]; rfl)) (fun h => by cases h) fun _ => .nil rfl) (.nil (.mk stk sk kvs hG hcnt hlen hkv (Nat.le_of_eq hmu)))
 ·have hin' : k ∉ sk := by simpa using hin
  refine Ex.perm List.perm_middle ?_
  refine Ex.seq (Ex1.Jm (K := p.Kx) (κ := κ) p.dk ok.sc (.n (.tail _ CyP.q2)) (.n m0) hin' (by omega)) ?_
  refine Ex.perm List.perm_middle.symm ?_
  refine Ex.j9 (Ex1.appendR (K := p.Kx) (D := p.D2) (ds := p.ms stk) (.n (.tail _ CyP.q3)) (EvR.next ok.iter fun X => Ev.Jh (F := F1 p.c.w) (p := 43) (i := 2) 2 ok.fr (Ev.Lr (c := p.Kx.c) (κ := κ) p.dk (.n (.tail _ CyP.q5)) (.n m0) hnk4) rfl rfl (by kernel_rfl)) m1 (by rw [hms]; omega)) ?_
  rintro _ ⟨m, r2, ⟨I, rfl⟩, rfl⟩
  refine ⟨_, _, _, rfl, ?_⟩
  rw [ok.u2]
  have hlenF : Fn p.Kx.c p.Kx.l "len" [.list (p.kd stk)] (.int stk.length) := by
   have := Fn.of ok.len (aO.Fg (l := p.Kx.l) (ds := p.kd stk) (by rw [hkd]; omega))
   rw [hkd] at this
   exact this
  refine Ex.seq (Ex1.dstF (κ := κ) p.dk (D := p.D4) (k := k) (d := .int stk.length) (kvs := kvs) (EvS.sV (D := p.D1) hlenF (.n (.tail _ CyP.q4)) m2 rfl) (.n (.tail _ CyP.q1)) (.n m0) rfl m0 (by omega) hkn) ?_
  rw [ok.u4]
  refine Ex.seq (Ex1.mF (D := p.D1) (ds := p.kd stk) (d := p.dk.enc k) (.n (.tail _ CyP.q4)) (.n m0) (p.dk.flat k) m2 (by rw [hkd]; omega)) ?_
  rw [ok.u1]
  refine Ex.perm (List.Perm.append_left _ (List.Perm.swap ..)) ?_
  have hD := vK (p := p) (r := r) (f := ⟨k, nk.2.2, m, I, 0⟩) (rest := stk) (kvs := kvs ++ [(k, .int stk.length)]) (sk := sk ++ [k]) (I := I) (i := 0)
  have fin : CyM p r k n (.next (p.Nx k) [] (p.Dx (⟨k, nk.2.2, m, I, 0⟩ :: stk) (kvs ++ [(k, .int stk.length)]) (sk ++ [k]) r)) := .mk _ _ _ (hG.push (f := ⟨k, nk.2.2, m, I, 0⟩) hnk3.symm hrk1) (hcnt.push hk hin') (by rw [List.length_append]; exact Nat.succ_le_succ hlen) (by rw [List.map_append, hkv, List.reverse_cons, List.map_append]; rfl) (by
   rw [<- hmu]
   have := sum_filter (fun u => 1 + (d9 p.ns u).length) hk hin'
   unfold muF
   simp only [List.map_cons, List.sum_cons]
   rw [hnk3] at this
   omega)
  rw [hD] at fin
  exact .nil fin
 ·rintro _ ⟨stk, sk, kvs, hG, hcnt, hlen, hkv, hmu⟩
  refine ⟨_, _, _, rfl, ?_⟩
  have hskl := xH ok hcnt
  refine Ex.cons (CyO p r k sk n) (Ex1.yW (fun q Γ R Δ => CyW p r k sk n q Γ R Δ) _ (fun q Γ R Δ hW => ?_) _ (.mk stk kvs rfl hG hlen hkv hmu)) (fun _ _ _ h => ?_) (fun _ _ _ h => ?_) (fun _ _ _ h => h.elim) (fun _ h => h.elim)
  ·obtain ⟨stk, kvs, hq, hG, hlen, hkv, hmu⟩ := hW
   refine ⟨!(p.kd stk).isEmpty, EtS.truV (D := p.D1) (.n (.tail _ CyP.q4)) m2 (Tru.list (by unfold CyP.kd; rw [List.length_map, List.length_reverse]; omega)), fun hne => ?_, fun hem => ?_⟩
   ·cases stk with
    | nil => cases hne
    | cons f rest => rw [hq]; exact JM ok hA hX hskl hG hlen hkv hmu
   ·obtain rfl : stk = [] := by simpa [CyP.kd] using hem
    obtain rfl : kvs = [] := by simpa using hkv
    exact .brk CyB.mk
  ·obtain ⟨s, stk, kvs, h1, h2, h3, h4, h5, h6⟩ := (h : CyN p r sk n _ _ _)
   exact .nil (.inl ⟨_, _, _, _, h6, .inl rfl, .mk s stk sk kvs h1 h2 hcnt h3 h4 h5 rfl⟩)
  ·obtain ⟨⟩ := (h : CyB p r k sk _ _ _)
   exact .inr (.inl ⟨_, _, _, rfl, .mk k sk hcnt⟩)
end
noncomputable def JN : List Stmt := (dm1 6 8).body.drop 5
theorem CG (p : CyP κ) (ok : jc p) {A : Around} {s0 : Shared} (hA : ∃ outer, A.frames = some (p.Kx.env :: outer)) (hX : dg p.Kx s0) {O : Out p.Kx -> Prop} (hO : O (.ret .none)) : Ex p.Kx A s0 NoE p.G [] (aj p.Kx.c (p.Lx [] [] [] []) ++ [cD p.Kx.c p.dk p.D3 []]) JN O := by
 refine Ex.j9 (O1 := MK p) (Ex1.Am (fun _ Γ R Δ => MJ p Γ R Δ) _
  (.of fun X => EvI.ofKeys (c := p.Kx.c) p.dk ok.sys (ks := p.ksx) (ds := p.ns.map fun n => ndD 40 p.dk.enc n) (by unfold CyP.ksx; rw [List.length_map, List.length_map]) (Ev.as (Ev.n CyP.q5) ?_)) (.mk [] kO.nil) (fun p h => h) (fun p h => h) (List.Sublist.refl _) hX ?_ ?_ ?_) ?_
 ·rw [pU]
  simp [CyP.ksx, List.map_map, Function.comp_def]
 ·rintro i _ _ _ ⟨sk, _⟩
  exact ⟨bC CyP.off, iI (by kernel_rfl)⟩
 ·rintro i d _ _ _ r hd ⟨sk, hcnt⟩
  obtain ⟨k, hp⟩ := dO hd
  have hkk : k ∈ p.ksx := lG hp
  refine Ex.perm nQ ?_
  by_cases hin : k ∈ sk
  ·refine Ex.cons (fun o => o = .cont p.G [] (r :: (aj p.Kx.c (p.Lx [] [] [] []) ++ [cD p.Kx.c p.dk p.D3 sk]))) (Ex1.ite (CyP.in ok (fun x hx => .tail _ hx) (.head _)) (fun _ => Ex.wkG (Γ' := p.G) (fun p hp => .tail _ hp) (Ex.perm nQ.symm (Ex.cont rfl))) fun h => absurd h (by simp [hin])) (fun _ _ _ e => nomatch e) (fun _ _ _ e => nomatch e) (fun _ _ _ e => by cases e; exact .inl ⟨_, _, _, .inr rfl, .mk sk hcnt⟩) (fun _ e => nomatch e)
  ·refine Ex.seq (Γ1 := p.Nx k) (R1 := []) (Δ1 := p.Dx [] [] sk r) (Ex1.ite (CyP.in ok (fun x hx => .tail _ hx) (.head _)) (fun h => absurd h (by simp [hin])) fun _ => .nil rfl) ?_
   refine Ex.j9 (O1 := GQ p r) (Ex1.while (fun n Γ R Δ => CyI p r n Γ R Δ) _ (fun n Γ R Δ hI => ⟨true, EtS.val (.of fun X => .bool) .bool, fun _ => Cz ok hA hX hI, fun h => by cases h⟩) _
     (.mk k [] sk [] hkk ⟨(fun f h => nomatch h), (fun f h => nomatch h), .nil⟩ hcnt (Nat.zero_le _) (fun g h => nomatch h) rfl rfl)) ?_
   rintro _ ⟨k', sk', hc'⟩
   exact ⟨_, _, _, rfl, Ex.wkG (Γ' := p.G) (fun p hp => .tail _ hp) (Ex.perm nQ.symm (.nil (.inl ⟨_, _, _, .inl rfl, .mk sk' hc'⟩)))⟩
 ·rintro _ _ _ ⟨sk, _⟩
  exact .mk sk
 ·rintro _ ⟨sk⟩
  exact ⟨_, _, _, rfl, .ret (.of fun X => .none) hO⟩
theorem GR (W : Wd1 c mg mb) (hF : (F1 c.w).In c.base) (hl : l < 55) (dk : bh c.w κ) (hsc : Scan dk) {ns : List (PN κ)} (hn : (ns.map (·.1)).Nodup) (hz : ns.length <= 3000) (hsz : ∀ n ∈ ns, n.2.2.length <= 10 ^ 5) (hsu : ∀ n ∈ ns, ∀ s ∈ n.2.2, s ∈ ns.map (·.1)) (rk : κ -> Nat) (hrk : ∀ n ∈ ns, ∀ s ∈ n.2.2, rk s < rk n.1) :
  ∀ A X s vs, Lev l A -> Bas c A X s.heap -> RdL c.w X s.heap vs [Cw 137 40 dk.enc ns] -> codeAny c.M A (.call (.ref 127) ⟨vs, []⟩) (yG (Yield c X s .none)) s := by
 obtain ⟨pm, code, doc, Fm⟩ := Gw hF W.lim
 refine Ji (ps := ["self"]) Fm (show fG (dm1 6 8).scope _ = true by decide +kernel) rfl (by omega) (bind1 fun a => by rfl) fun A s0 ad X hX hA => ?_
 have hF' : (F1 c.w).In (c.push ad).base := hF
 refine Ex.new (.of fun X => Ev.Lq (F := F1 c.w) (C := 137) 0 hF' (.n m0) rfl rfl (by kernel_rfl)) ?_
 show Ex _ _ _ _ _ _ (aj _ [] ++ []) _ _
 refine Ex.newF (fun X => .nil) fun D1 _ => ?_
 refine Ex.newF (fun X => .nil) fun D2 h2 => ?_
 have g_set : Glb (c.push ad) "set" (.type "set") := (W.push ad).blt (by kernel_rfl) (by kernel_rfl)
 refine Ex.Jl (EvR.set (κ := κ) dk g_set) fun D3 r hr => ?_
 subst hr
 refine Ex.perm (cY (D := aj _ [(D2, .data (.list [])), (D1, .data (.list []))]) (Δ := [])).symm.symm ?_
 refine Ex.newF (fun X => .Cm) fun D4 h4 => ?_
 have ok : jc (κ := κ) ⟨c, l, pm, code, doc, ad, X, dk, ns, rk, D1, D2, D3, D4⟩ := ⟨(W.push ad).sys, hF, (W.push ad).blt (by kernel_rfl) (by kernel_rfl), (W.push ad).blt (by kernel_rfl) (by kernel_rfl), qd (W.push ad), hsc, hn, hz, hsu, hrk, fun e => h4 _ (.head _) e.symm, fun e => h4 _ (.tail _ (.head _)) e.symm, fun e => h2 _ (.head _) e.symm⟩
 exact CG ⟨_, _, _, _, _, _, _, _, _, _, _, _, _, _⟩ ok hA hX (.inl rfl)
end
section
section
variable [DecidableEq κ]
theorem tM {f : α -> PyData} {l : List α} : ∀ {vs : List Value}, RdL w X h vs (l.map f) -> (∀ a ∈ l, ∀ v, Rd w X h v (f a) -> Rd w X' h v (g a)) -> RdL w X' h vs (l.map g) := by
 induction l with
 | nil => intro vs r _; rw [r.nil_inv]; exact .nil
 | cons a l ih =>
  intro vs r k
  obtain ⟨v, us, r1, r2⟩ := r.cons_inv
  exact .cons (k a (.head _) _ r1) (ih r2 fun b hb => k b (.tail _ hb))
theorem CJ {a : SA} (hfl : ∀ k, flat (enc k) = true) {st : St κ} {L : aP} {X : List Addr} {h : Heap} (H : Srt a enc st L) (Ln : pP c X h L) : Rd c.w (X.filter (· ∉ fpA L)) h (.ref a.S) (Cw a.T a.N enc st.abs) := by
 have off : ∀ {p : Addr × cV}, p ∈ L -> ∀ b ∈ p.2.fp p.1, b ∉ X.filter (· ∉ fpA L) := fun {p} hp b hb z => by
  have hm : b ∈ fpA L := by unfold fpA; exact List.mem_flatMap.mpr ⟨p, hp, hb⟩
  exact (fO b z).2 hm
 have at_ : ∀ {x : Addr} {D : cV}, (x, D) ∈ L -> (cN c x D).P X h := fun hp => Ln.at_ _ (lM (f := fun p => cN c p.1 p.2) hp)
 obtain ⟨fs, s1, s2, _, _, _⟩ := H.self
 obtain ⟨sl, es, n, e1, e2, hk, hf, hg⟩ := at_ s1
 obtain ⟨v, hv, r⟩ := hf _ s2
 rw [gn r] at hv
 refine .inst (us := [.ref a.N2]) (ws := []) (off s1 _ (.head _)) (off s1 _ (.tail _ (.head _))) e1 e2 ⟨fun p hp => ?_, fun p hp => nomatch hp⟩ (.cons ?_ .nil) .nil
 ·have hp' : p = ((("_node2info" : Str), Value.ref a.N2) : Str × Value) := by simpa using hp
  rw [hp']; exact hv
 ·have hN : bT c X h a.N2 (dD enc (st.nds.map fun n => (n.k, opq n.x))) := at_ H.map
  obtain ⟨es2, n2, f1, f2, f3, f4⟩ := (show Kq c.w X h a.N2 _ from hN)
  have k1 : ((st.nds.map fun n => (n.k, opq n.x)).map fun p => (enc p.1, p.2)).map (·.1) = st.nds.map fun n => enc n.k := by simp [List.map_map, Function.comp_def]
  have k2 : ((st.abs.map fun n => (n.1, ndD a.N enc n)).map fun p => (enc p.1, p.2)).map (·.1) = st.nds.map fun n => enc n.k := by simp [St.abs, List.map_map, Function.comp_def]
  have v1 : ((st.nds.map fun n => (n.k, opq n.x)).map fun p => (enc p.1, p.2)).map (·.2) = st.nds.map fun n => opq n.x := by simp [List.map_map, Function.comp_def]
  have v2 : ((st.abs.map fun n => (n.1, ndD a.N enc n)).map fun p => (enc p.1, p.2)).map (·.2) = st.nds.map fun n => ndD a.N enc (n.k, n.np, n.su) := by simp [St.abs, List.map_map, Function.comp_def]
  rw [k1] at f2 f3
  rw [v1] at f4
  refine .dict (off H.map _ (.head _)) f1 (by rw [k2]; exact f2) (by rw [k2]; exact f3) ?_
  rw [v2]
  refine tM f4 fun n hn v rv => ?_
  rw [gn rv]
  obtain ⟨⟨gs, g1, g2, g3, g4⟩, g5⟩ := H.nd n hn
  obtain ⟨sl3, es3, n3, i1, i2, ik, iff, igg⟩ := at_ g1
  obtain ⟨v0, j0, r0⟩ := igg _ g2
  obtain ⟨v1, j1, r1⟩ := igg _ g3
  obtain ⟨v2, j2, r2⟩ := igg _ g4
  rw [gn r2] at j2
  refine .inst (us := []) (ws := [v0, v1, .ref n.li]) (off g1 _ (.head _)) (off g1 _ (.tail _ (.head _))) i1 i2 ⟨(fun p hp => nomatch hp), fun p hp => ?_⟩ .nil (.cons (r0.flat (hfl _)) (.cons (r1.flat rfl) (.cons ?_ .nil)))
  ·have hp' : p = (0, v0) \/ p = (1, v1) \/ p = (2, Value.ref n.li) := by simpa using hp
   rcases hp' with rfl | rfl | rfl
   ·exact j0
   ·exact j1
   ·exact j2
  ·have hl : bT c X h n.li (.list (n.su.map enc)) := at_ g5
   exact hl.rd (off g5 _ (.head _)) fun b hb => (fO b hb).1
theorem Sat.MP {a : SA} (hfl : ∀ k, flat (enc k) = true) {st : St κ} {x : Str} (H : Srt a enc st L) (S : Sat K X Γ R (aj K.c L ++ Δ) A s0 s) (hx : (x, opq a.S) ∈ Γ) :
  Good K.c A (X.filter (· ∉ fpA L)) K.env ((x, Cw a.T a.N enc st.abs) :: Γ) s.heap := by
 have hF : ∀ b ∈ K.c.fr, b ∈ X.filter (· ∉ fpA L) := fun b hb => List.mem_filter.mpr ⟨S.good.bas.frs b hb, by simpa using fun z => (S.sH.off b z).2.2 hb⟩
 have G1 : Good K.c A (X.filter (· ∉ fpA L)) K.env Γ s.heap := { S.good with
   bas := { S.good.bas with alloc := fun b hb => S.good.bas.alloc b (fO b hb).1, frs := hF }
   vars := fun p hp => let ⟨v, H, r⟩ := S.good.vars p hp; ⟨v, H, r.sub fun b hb => (fO b hb).1⟩ }
 obtain ⟨v, Hv, rv⟩ := S.good.vars _ hx
 rw [gn rv] at Hv
 exact G1.put Hv (CJ hfl H S.sH)
theorem Ex1.JQ {E : Err} {name : Str} {ns : List Str} {fs : List (Str × PyData)} (hF : F.In K.c.base)
  (hv : ∀ s X, Sat K X Γ R (aj K.c L ++ Δ) A s0 s -> wpAny K.c.M A (eval e K.env) (FrP K.c X d s) NoE s) (ho : ∀ D, EvS K A s0 E Γ R (aj K.c ((D, .data d) :: L) ++ Δ) o (opq a)) (h : (a, .inst C dx ns fs gs) ∈ L) (hk : okA F C name = true) (hz : ns.length <= 100)
  (hs : autoParam (swapsWith e (some (.Attribute o name np)) pos.line K.env = pure false) aR) : Ex1 K A s0 E Γ R (aj K.c L ++ Δ) (.Assign [.Attribute o name np] e pos) (fun q => ∃ D, (∀ p ∈ L, p.1 ≠ D) /\ q = .next Γ R (aj K.c ((D, .data d) :: bf L a (.inst C dx (jf name ns) (jo name [opq D] fs) gs)) ++ Δ)) := fun s X S =>
 plainObj_wpAny_Assign_Attribute (wM (hv s X S) (fun v s1 q => by
  obtain ⟨p, D, hD, od⟩ := q
  have S1 : Sat K (D :: X) Γ R (aj K.c ((D, .data d) :: L) ++ Δ) A s0 s1 := S.take p hD od
  exact (ho D).ref S1 fun s2 S2 => Mine.sI hF S2 (.tail _ h) hk hz (ds := [opq D]) (fun d' hd' => lS hd' ▸ .opq D) fun s3 S3 => ⟨_, _, _, _, ⟨D, S1.jq, rfl⟩, (kE (Ne.symm (S1.jq _ h))) ▸ S3⟩) fun _ _ f => f.elim) hs
end
variable {mg mb : Str -> Option Value} [DecidableEq κ]
noncomputable def fj (ns : List (PN κ)) : List κ := (ns.filter fun n => n.2.1 == 0).map (·.1)
noncomputable def M4 (a : SA) (enc : κ -> PyData) (st : St κ) (L : aP) : PyData -> aP -> Prop := fun d L' => d = .none /\ ∃ RL, SI a enc L st.abs (some (RL, fj st.abs)) st.po st.nf L'
theorem zA (W : Wd1 c mg mb) (hF : (F1 c.w).In c.base) (hl : l < 52) (dk : bh c.w κ) (hsc : Scan dk) {S Sx N2 : Addr} {st : St κ} {L : aP} (h : Srt (sa1 S Sx N2) dk.enc st L) (hr : st.rn = none) (hz : st.nds.length <= 3000) (hsz : ∀ n ∈ st.abs, n.2.2.length <= 10 ^ 5) (hsu : ∀ n ∈ st.abs, ∀ s ∈ n.2.2, s ∈ st.keys) (rk : κ -> Nat) (hrk : ∀ n ∈ st.abs, ∀ s ∈ n.2.2, rk s < rk n.1) :
  FnA c l 92 [opq S] L (M4 (sa1 S Sx N2) dk.enc st L) := by
 obtain ⟨pm, code, doc, Fm⟩ := zq hF W.lim
 refine gj (ps := ["self"]) Fm (show fG (dm1 6 3).scope _ = true by decide +kernel) (by omega) rfl (nM rfl (bind1 fun a => by rfl)) fun A s0 ad X0 hX hA => ?_
 have hF' : (F1 c.w).In (c.push ad).base := hF
 obtain ⟨fs, s1, s2, s3, s4, s5⟩ := h.self
 rw [hr] at s3
 have e0 : ∀ (K : Act) (L : aP), aj K.c L = aj K.c L ++ ([] : Del K) := fun K L => (List.append_nil _).symm
 rw [e0]
 refine Ex.seq (Γ1 := [("self", opq S)]) (R1 := []) (Δ1 := aj _ L ++ []) (Ex1.ite (EtS.isNotNone (EvS.fld (F := F1 c.w) hF' (.n m0) s1 s3 (by kernel_rfl))) (fun h => by cases h) fun _ => .nil rfl) ?_
 refine Ex.j9 (Ex1.JQ (F := F1 c.w) (d := .list ((fj st.abs).map dk.enc)) (C := 137) (dx := Sx) (ns := sN) (fs := fs) (gs := []) (a := S) hF' (fun s X SS => ?_) (fun D => .n m0) s1 (by kernel_rfl) (by decide)) fun o ho => ?_
 ·have G := SS.MP (x := "self") dk.flat h (.head _)
  have inj : ∀ a b : PN κ, ndD 40 dk.enc a = ndD 40 dk.enc b -> a = b := fun a b e => by
   obtain ⟨a1, a2, a3⟩ := a
   obtain ⟨b1, b2, b3⟩ := b
   simp only [ndD, PyData.dict.injEq, List.cons.injEq, Prod.mk.injEq, PyData.list.injEq, PyData.int.injEq, and_true, true_and] at e
   obtain ⟨e1, e2, e3⟩ := e
   have h1 := dk.inj _ _ e1
   have h3 := jE dk.inj a3 b3 (congrArg PyData.list e3)
   rw [h1, e2, h3]
  refine wK ((show EvF (c.push ad) (l + 1) _ _ [("self", Cw 137 40 dk.enc st.abs), ("self", opq S)] _ (.list ((fj st.abs).map dk.enc)) from ?ev) A s SS.lev G) (fun v s1 q => ?_)
  case ev =>
   refine EvC.fresh (EvC.as (EvC.oN (c := c.push ad) (L := st.abs) (g := ndD 40 dk.enc) (Γc := []) (fun n : PN κ => n.2.1 == 0) (fun n => dk.enc n.1) inj (EvI.Jd (c := c.push ad) dk (W.push ad).sys (ks := st.abs.map (·.1)) (ds := st.abs.map (ndD 40 dk.enc)) (by simp) (Ev.as (Ev.Lq (F := F1 c.w) (C := 137) 0 hF' (.n m0) rfl rfl (by kernel_rfl)) ?_)) .nil
    (fun cs C XL n _ => .cmp (Ev.Jh (F := F1 c.w) (p := 42) (i := 1) 1 hF' (.n m0) rfl rfl (by kernel_rfl)) .int .eqI) (fun cs C XL n _ _ => Ev.Jh (F := F1 c.w) (p := 41) (i := 0) 0 hF' (.n m0) rfl rfl (by kernel_rfl)) (by rw [jK]; omega)) ?_)
   ·rw [pU]
    simp [List.map_map, Function.comp_def]
   ·simp [fj, List.map_map, Function.comp_def]
  obtain ⟨p, D, hD, us, n, e, r⟩ := q
  exact ⟨p, D, hD, us, n, e, tM (f := dk.enc) (g := dk.enc) r fun k _ v rv => rv.flat (dk.flat k)⟩
 ·obtain ⟨D, hD, rfl⟩ := ho
  refine ⟨_, _, _, rfl, ?_⟩
  obtain ⟨H2, hE2⟩ := h.setP (r := D) (ks := fj st.abs) (fs' := jo "_ready_nodes" [opq D] fs) hr (fun hm => by obtain ⟨p, hp, e⟩ := List.mem_map.mp hm; exact hD p hp e) (bw s2) dN (bw s4) (bw s5)
  have hab : ({ st with rn := some (D, fj st.abs) } : St κ).abs = st.abs := rfl
  obtain ⟨fs2, t1, t2, _, _, _⟩ := H2.self
  refine Ex.newX (EvX.meth (F := F1 c.w) (f := 127) hF' (.n m0) t1 (by kernel_rfl) (by decide +kernel) (jr hF' (by kernel_rfl)) (FnA.ofC rfl (GR (W.push ad) hF' (show l + 1 < 55 by omega) dk hsc (ns := st.abs) (by rw [dz]; exact h.nk) (by rw [jK]; exact hz) hsz (by rw [dz]; exact hsu) rk hrk) (fun X hp hFr Ln => CJ dk.flat H2 Ln)) .nil) ?_
  rintro d L2 ⟨rfl, rfl⟩
  refine Ex.seq (Γ1 := [("cycle", .none), ("self", opq S)]) (R1 := []) (Ex1.ite (EtS.val (.n m0) .none) (fun h => by cases h) fun _ => .nil rfl) (.nil ?_)
  exact ⟨rfl, _, by rw [List.append_nil]; exact List.Sublist.refl _, ⟨rfl, D, _, H2, hE2, rfl, rfl, rfl, rfl⟩, hE2⟩
end
section
variable [DecidableEq κ]
end
section
variable {mg mb : Str -> Option Value}
noncomputable def zB (n : Int) : Nat -> Int
 | 0 => n
 | i + 1 => (zB n i).fdiv ((i : Int) + 1)
noncomputable def jP (n : Int) (k : Nat) : List Int := (List.range k).map fun i => (zB n i).fmod ((i : Int) + 1)
theorem zE (n : Int) (k : Nat) : jP n (k + 1) = jP n k ++ [(zB n k).fmod ((k : Int) + 1)] := by rw [jP, List.range_succ, List.map_append]; rfl
theorem CK (n : Int) (k : Nat) : (jP n k).length = k := by rw [jP, List.length_map, List.length_range]
theorem noP7 {n : Int} {p : Nat} (h : p < 7) : Builtin.divisionGoesByPylong n ((p : Int) + 1) = false := by
 have : ∀ p : Nat, p < 7 -> ((p : Int) + 1).natAbs.log2 < 9000 := by decide
 exact PyProof.noPylong_of_log2 (this p h)
theorem M5 (W : Wd1 c mg mb) (hl : l < 58) (n : Int) : Fn c l "_law_ups" [.int n] (iL (jP n 7)) := by
 refine W.call (dr1 26) (cO (i := 10) (by kernel_rfl)) ["number"] (by decide +kernel) rfl (by omega) (fun pm code doc => bind1 fun a => by rfl) fun A s0 ad L X pm code doc hX hA => ?_
 refine Ex.own (fun X => .nil) fun D => ?_
 refine Ex.seq (Ex1.Ao (fun i => [("number", .int (zB n i))]) (fun i => bL _ D (iL (jP n i))) (.of fun X => EvI.range (n := 7) (rC (W.push _)) .int (by decide)) (fun p h => h) hX (fun i k r hk => ?_) (List.length_range (n := 7))) (Ex.freeze hX (.ret (.of fun X => .n m0) (.inl rfl)))
 obtain ⟨hi, e⟩ := List.getElem?_eq_some_iff.mp hk
 rw [List.getElem_range] at e
 subst e
 rw [List.length_range] at hi
 refine Ex.seq (Ex1.append m0 (.of fun X => .binop (.n m1) (.binop (.n m0) .int .add) (.mod (by omega))) (by rw [List.length_map, jP, List.length_map, List.length_range]; omega)) ?_
 refine Ex.set (Γ1 := [("place", .int (i : Nat))]) (.of fun X => .binop (.n m1) (.binop (.n m0) .int .add) (.div (by omega) (noP7 hi))) ?_
 rw [zE, iL, List.map_append]
 exact .fin (au m0 bU)
noncomputable def ao (ups : List Int) (node : Int) : List Int := ((dh ups).filter fun z => z.2 == node).map fun z => ((z.1 : Int) + 1)
theorem xK (W : Wd1 c mg mb) (hl : l < 58) (ups : List Int) (node : Int) (hz : ups.length <= 100) : Fn c l "_law_heirs" [.int node, iL ups] (iL (ao ups node)) := by
 refine W.call (dr1 27) (cO (i := 11) (by kernel_rfl)) ["node", "ups"] (by decide +kernel) rfl (by omega) (fun pm code doc => rZ fun a b => by rfl) fun A s0 ad L X pm code doc hX hA => ?_
 refine Ex.ret (.of fun X => ((EvC.prIf (L := dh ups) (g1 := fun (i : Nat) => .int (i : Nat)) (g2 := .int) (Γc := [("node", .int node)]) (fun _ up => up == node) (fun (i : Nat) _ => .int ((i : Int) + 1)) gb f9 (.enum (L := ups) (g := .int) (kY (W.push _)) (.n m1)) (.cons m0 .nil)
  (fun cs C XL a b _ => .cmp (.n m0) (.n m2) .eqI) (fun cs C XL a b _ _ => .binop (.n m1) .int .add) (by rw [eV]; omega)).ev).as ?_) (.inl rfl)
 rw [ao, iL, List.map_map]
 rfl
end
section
section
variable {s'' : Shared} 
theorem FrP.from (p : Pst c s s') (q : FrP c X d s' v s'') : FrP c X d s v s'' := by
 obtain ⟨p2, D, hn, o⟩ := q
 exact ⟨p.trans p2, D, p.hx.none_of (fun z => nomatch z) hn, o⟩
theorem EvF.ite {body orelse : Expr} {e : PyData} (ht : Et c l X env Γ test b) (h1 : b = true -> EvF c l X env Γ body d) (h2 : b = false -> EvF c l X env Γ orelse e) : EvF c l X env Γ (.IfExp test body orelse pos) (if b then d else e) := fun A s L G => by
 refine wpAny_IfExp (wK (ht A s L G) (fun r s' q => ?_))
 obtain ⟨rfl, p⟩ := q
 cases r with
 | true => exact wK (h1 rfl A s' L (G.hx0 p.hx)) (fun _ _ q => .from p q)
 | false => exact wK (h2 rfl A s' L (G.hx0 p.hx)) (fun _ _ q => .from p q)
theorem Ev.neg {i : Int} (h : Ev c l X env Γ e (.int i)) : Ev c l X env Γ (.UnaryOp .USub e pos) (.int (-i)) := fun A s L G =>
 wpAny_UnaryOp (h.use L G fun v s1 p1 r1 _ => by
  have hz := r1.int_inv; clear r1; obtain ⟨t⟩ := hz
  exact P.neg_int ⟨p1.trans .tk, .int _ _⟩)
theorem CN {f g : α -> Option β} {L : List α} (h : ∀ a ∈ L, f a = g a) : L.filterMap f = L.filterMap g := by
 induction L with
 | nil => rfl
 | cons a L ih => rw [List.filterMap_cons, List.filterMap_cons, h a (.head _), ih fun b hb => h b (.tail _ hb)]
theorem CP (xs : List α) : mX xs none none (some (-1)) = xs.reverse := by
 have e1 : sliceBounds none none (some (-1)) xs.length = ((xs.length : Int) - 1, -1, -1) := by simp [sliceBounds]
 unfold mX
 rw [e1]
 have e2 : sliceRange ((xs.length : Int) - 1) (-1) (-1) = (List.range xs.length).map fun k => xs.length - 1 - k := by
  unfold sliceRange
  dsimp only
  rw [if_neg (by decide), Int.neg_neg, Int.ediv_one]
  have : (if (xs.length : Int) - 1 > -1 then (xs.length : Int) - 1 - -1 - -1 - 1 else 0).toNat = xs.length := by
   by_cases h : xs.length = 0
   ·rw [if_neg (by omega)]; omega
   ·rw [if_pos (by omega)]; omega
  rw [this]
  refine List.map_congr_left fun k _ => ?_
  rw [Int.neg_mul, Int.one_mul, <- Int.sub_eq_add_neg, Int.sub_sub, Nat.sub_sub]
  exact Int.toNat_sub xs.length (1 + k)
 rw [e2, List.filterMap_map]
 have h := nP xs.reverse xs.reverse.length (Nat.le_refl _)
 rw [List.take_length, List.length_reverse] at h
 rw [<- h]
 refine CN fun k hk => ?_
 exact (List.getElem?_reverse (List.mem_range.mp hk)).symm
noncomputable def bR (ups : List Int) : Nat -> Int -> Int -> List Int
 | 0, _, _ => []
 | f + 1, node, depth => (if ao ups node = [] then [node] else []) ++ (if depth.fmod 2 = 1 then (ao ups node).reverse else ao ups node).flatMap fun h => bR ups f h (depth + 1)
end
structure dY (ups : List Int) : Prop where
 len : ups.length = 7
 le : ∀ (i : Nat) (u : Int), ups[i]? = some u -> 0 <= u /\ u <= (i : Int)
theorem dZ {ups : List Int} (h : dY ups) {node k : Int} (hk : k ∈ ao ups node) : node < k /\ 0 <= node /\ k <= 7 := by
 obtain ⟨z, hz, rfl⟩ := List.mem_map.mp hk
 obtain ⟨hz, e⟩ := List.mem_filter.mp hz
 have hu := pL (j := z.1) (a := z.2) hz
 rw [eq_of_beq e] at hu
 have := h.le _ _ hu
 have h7 : z.1 < 7 := h.len ▸ (List.getElem?_eq_some_iff.mp hu).1
 exact ⟨Int.lt_add_one_of_le this.2, this.1, Int.ofNat_le.mpr h7⟩
theorem lt7 {a b : Int} (h : a < b) (h7 : b <= 7) : (7 - b).toNat + 1 <= (7 - a).toNat := (Int.toNat_lt_toNat (Int.sub_pos_of_lt (Int.lt_of_lt_of_le h h7))).mpr (Int.sub_lt_sub_left h 7)
theorem le7 {a : Int} (h : 0 <= a) : (7 - a).toNat <= 7 := Int.toNat_le.mpr (Int.sub_le_self 7 h)
theorem JR {a : Int} (h : 0 <= a) : 2 ^ (7 - a).toNat <= 128 := Nat.pow_le_pow_right (by decide) (le7 h)
theorem zF {ups : List Int} (h : dY ups) (node : Int) : (ao ups node).length <= 7 := by
 rw [ao, List.length_map]
 exact Nat.le_trans (List.length_filter_le ..) (by rw [eV, h.len]; exact Nat.le_refl _)
theorem CQ (L : List α) : (dh L).Pairwise fun a b => a.1 < b.1 := List.pairwise_iff_getElem.mpr fun i j hi hj hij => by
 simp [dh]
 exact hij
theorem dG (ups : List Int) (node : Int) : (ao ups node).Pairwise (· < ·) := by
 unfold ao
 rw [List.pairwise_map]
 refine (List.Pairwise.filter _ ?_).imp fun {a b} (h : a.1 < b.1) => (by omega : (a.1 : Int) + 1 < (b.1 : Int) + 1)
 exact CQ ups
theorem GX {L : List Int} : L.Pairwise (· < ·) -> ∀ {node : Int}, (∀ h ∈ L, node < h /\ h <= 7) -> (L.map fun h => 2 ^ (7 - h).toNat).sum + 1 <= 2 ^ (7 - node).toNat := by
 induction L with
 | nil => exact fun _ _ _ => Nat.one_le_two_pow
 | cons k L ih =>
  intro hp node hk
  have hp := List.pairwise_cons.mp hp
  have h1 := ih hp.2 (node := k) fun h hh => ⟨hp.1 h hh, (hk h (.tail _ hh)).2⟩
  have h2 := hk k (.head _)
  have h4 : 2 ^ ((7 - k).toNat + 1) <= 2 ^ (7 - node).toNat := Nat.pow_le_pow_right (by decide) (lt7 h2.1 h2.2)
  rw [List.map_cons, List.sum_cons, Nat.add_assoc]
  rw [Nat.pow_succ, Nat.mul_two] at h4
  exact Nat.le_trans (Nat.add_le_add_left h1 _) h4
theorem JT {f g : α -> Nat} {L : List α} (h : ∀ a ∈ L, f a <= g a) : (L.map f).sum <= (L.map g).sum := by
 induction L with
 | nil => exact Nat.le_refl _
 | cons a L ih =>
  rw [List.map_cons, List.map_cons, List.sum_cons, List.sum_cons]
  exact Nat.add_le_add (h a (.head _)) (ih fun b hb => h b (.tail _ hb))
theorem lg {ups : List Int} (h : dY ups) (node : Int) : ((ao ups node).map fun h => 2 ^ (7 - h).toNat).sum + 1 <= 2 ^ (7 - node).toNat :=
 GX (dG ups node) fun k hk => ⟨(dZ h hk).1, (dZ h hk).2.2⟩
theorem tO {ups : List Int} (h : dY ups) : ∀ f node d, (bR ups f node d).length <= 2 ^ (7 - node).toNat := by
 intro f
 induction f with
 | zero => exact fun _ _ => Nat.zero_le _
 | succ f ih =>
  intro node d
  have h1 := lg h node
  have h2 : ∀ L : List Int, L.Perm (ao ups node) -> (L.flatMap fun h => bR ups f h (d + 1)).length + 1 <= 2 ^ (7 - node).toNat := fun L hp => by
   rw [List.length_flatMap]
   refine Nat.le_trans (Nat.add_le_add_right (JT fun a _ => ih a (d + 1)) 1) ?_
   rw [(hp.map _).sum_nat]
   exact h1
  unfold bR
  rw [List.length_append]
  have h3 : (if d.fmod 2 = 1 then (ao ups node).reverse else ao ups node).Perm (ao ups node) := by
   split
   ·exact List.reverse_perm _
   ·exact .refl _
  have h4 := h2 _ h3
  have h5 : (if ao ups node = [] then [node] else []).length <= 1 := by split <;> simp
  exact Nat.le_trans (Nat.add_le_add_right h5 _) (Nat.add_comm _ 1 ▸ h4)
variable {mg mb : Str -> Option Value}
theorem GZ (bs : List Int) : (PyData.list (bs.map .int)).depth <= 1000 := by
 have : PyData.depthAll (bs.map .int) <= 1 := by
  induction bs with
  | nil => simp [PyData.depthAll]
  | cons b bs ih => simp only [List.map_cons, PyData.depthAll, PyData.depth]; omega
 simp only [PyData.depth]; omega
theorem P2.M6 {a : List Int} : P2 c (compareOp .Eq) (iL a) (.list []) (.bool (decide (a = []))) := by
 have := P2.eq (c := c) (d1 := iL a) (d2 := .list []) (by simpa [PyData.canLay0] using qM a) rfl (GZ a)
 rw [show PyData.eqv (iL a) (.list []) = decide (a = []) by cases a <;> rfl] at this
 exact this
theorem EvF.as (h : EvF c l X env Γ e d) (e' : d = d') : EvF c l X env Γ e d' := e' ▸ h
theorem tQ {F : α -> List β} {L : List α} : ((L.take i).flatMap F).length <= (L.flatMap F).length := by
 rw [List.length_flatMap, List.length_flatMap]
 have h := congrArg (fun l => (l.map fun a => (F a).length).sum) (List.take_append_drop i L)
 simp only [List.map_append, List.sum_append] at h
 omega
noncomputable abbrev pA (ups : List Int) (node depth : Int) : List Int := if depth.fmod 2 = 1 then (ao ups node).reverse else ao ups node
theorem JV {ups : List Int} (hu : dY ups) : ∀ (f : Nat) {c : Cfg} {l : Nat} {mg mb : Str -> Option Value} (W : Wd1 c mg mb) (hl : l + f < 50) (node depth : Int) (h7 : node <= 7) (hf : 8 <= node + f), Fn c l "_law_walk" [.int node, .int depth, iL ups] (iL (bR ups f node depth)) := by
 intro f
 induction f with
 | zero => intro c l mg mb W hl node depth h7 hf; omega
 | succ f ih =>
  intro c l mg mb W hl node depth h7 hf
  refine W.call (dr1 29) (cO (i := 13) (by kernel_rfl)) ["node", "depth", "ups"] (by decide +kernel) rfl (by omega) (fun pm code doc => Kz fun a b c => by rfl) fun A s0 ad L X pm code doc hX hA => ?_
  refine Ex.new (.of fun X => .bN (xK (W.push _) (show l + 1 < 58 by omega) ups node (by rw [hu.len]; decide)) (.cons (.n m0) (.cons (.n m2) .nil))) ?_
  refine Ex.own (d := iL (if ao ups node = [] then [node] else [])) (fun X => (EvF.ite (b := decide (ao ups node = [])) (.cmp (.n m0) (.list .nil) .M6) (fun _ => EvF.list (.cons (.n m1) .nil) (by simp)) fun _ => .nil).as (by
   by_cases h : ao ups node = []
   ·rw [if_pos (decide_eq_true h), if_pos h]; rfl
   ·rw [if_neg (by simpa using h), if_neg h]; rfl)) fun D => ?_
  refine Ex.seq (Ex1.Ao (fun _ => [("heirs", iL (ao ups node)), ("node", .int node), ("depth", .int depth), ("ups", iL ups)]) (fun i => bL _ D (iL ((if ao ups node = [] then [node] else []) ++ ((pA ups node depth).take i).flatMap fun h => bR ups f h (depth + 1)))) (ks := pA ups node depth) (g := .int)
   (.of fun X => .ofList ((Ev.ite (b := decide (depth.fmod 2 = 1)) (.cmp (.binop (.n m2) .int (.mod (by decide))) .int .eqI) (fun _ => (Ev.slice (lo := none) (hi := none) (st := some (-1 : Int)) (.n m0) .none .none (.some (Ev.neg Ev.int)) (by simp) (by have := zF hu node; rw [List.length_map]; omega)).as (by rw [CP])) fun _ => .n m0).as (by
    by_cases h : depth.fmod 2 = 1
    ·rw [if_pos (decide_eq_true h), pA, if_pos h, List.map_reverse]
    ·rw [if_neg (by simpa using h), pA, if_neg h]))) (fun p h => h) hX (fun i k r hk => ?_) rfl (by rw [List.take_zero, List.flatMap_nil, List.append_nil])) ?_
  ·have hkm : k ∈ ao ups node := by
    have := lG hk
    unfold pA at this
    split at this
    ·exact List.mem_reverse.mp this
    ·exact this
   have hg := dZ hu hkm
   have e1 : ((pA ups node depth).take (i + 1)).flatMap (fun h => bR ups f h (depth + 1)) = ((pA ups node depth).take i).flatMap (fun h => bR ups f h (depth + 1)) ++ bR ups f k (depth + 1) := by
    rw [List.take_add_one, hk, Option.toList_some, List.flatMap_append, List.flatMap_singleton]
   have hz : ((if ao ups node = [] then [node] else []) ++ (((pA ups node depth).take i).flatMap fun h => bR ups f h (depth + 1))).length + (bR ups f k (depth + 1)).length <= 10 ^ 6 := by
    have h1 : ((if ao ups node = [] then [node] else []) ++ (pA ups node depth).flatMap fun h => bR ups f h (depth + 1)).length <= _ := tO hu (f + 1) node depth
    have h2 := tQ (F := fun h => bR ups f h (depth + 1)) (L := pA ups node depth) (i := i + 1)
    rw [List.length_append] at h1 ⊢
    rw [e1, List.length_append] at h2
    rw [Nat.add_assoc]
    exact Nat.le_trans (Nat.le_trans (Nat.add_le_add_left h2 _) h1) (Nat.le_trans (JR hg.2.1) (by decide))
   refine Ex.seq (Ex1.extend (es := (bR ups f k (depth + 1)).map .int) m0 (EvS.of fun X => .bN (ih (W.push _) (show l + 1 + f < 50 by omega) k (depth + 1) hg.2.2 (by omega)) (.cons (.n m0) (.cons (.binop (.n m3) .int .add) (.cons (.n m4) .nil)))).m (of_decide_eq_true (by kernel_rfl)) (by rw [List.length_map, List.length_map]; exact hz)
    (fun p hp e => bC (xs := ["walk"]) (by kernel_rfl) p hp (by rw [e]; exact .head _)) fun p hp _ => by rw [lS hp]) ?_
   rw [e1, <- List.map_append, List.append_assoc]
   exact .fin fun p hp => .tail _ hp
  ·rw [List.take_length]
   exact Ex.freeze hX (.ret (.of fun X => .n m0) (.inl rfl))
end
variable {as : List Addr}
noncomputable def cI (turn depth : Int) : Bool := decide (depth.fmod 2 = turn)
noncomputable def eG (ser : Bool) (lines below : List (List α)) : List (List α) := if ser then lines.flatMap fun line => below.map (line ++ ·) else lines ++ below
noncomputable def d8 (ser : Bool) : List (List α) := if ser then [[]] else []
noncomputable def cu (ups : List Int) (turn : Int) : Nat -> Int -> Int -> List (List Int)
 | 0, _, _ => []
 | f + 1, node, depth => if ao ups node = [] then [[node]] else (ao ups node).foldl (fun lines h => eG (cI turn depth) lines (cu ups turn f h (depth + 1))) (d8 (cI turn depth))
noncomputable def bP : Nat -> Nat := fun k => [1, 1, 2, 3, 5, 11, 41, 371].getD k 0
noncomputable def bS : Nat -> Nat := fun k => [1, 1, 1, 2, 6, 30, 330, 13530].getD k 0
noncomputable def bB (ser : Bool) (k : Nat) : Nat := if ser then bS k else bP k
noncomputable def fV (ser : Bool) (n m : Nat) : Nat := if ser then n * m else n + m
theorem lq (ser : Bool) (lines below : List (List Int)) : (eG ser lines below).length = fV ser lines.length below.length := by
 cases ser with
 | true =>
  show (lines.flatMap fun line => below.map (line ++ ·)).length = lines.length * below.length
  rw [List.length_flatMap]
  simp only [List.length_map]
  rw [List.map_const', List.sum_replicate_nat]
 | false => exact List.length_append
noncomputable def zG (ser : Bool) (g : Nat -> Nat) : Nat -> Nat
 | 0 => if ser then 1 else 0
 | k + 1 => fV ser (g k) (zG ser g k)
theorem nR {a b a' b' : Nat} (h1 : a <= a') (h2 : b <= b') : fV ser a b <= fV ser a' b' := by
 cases ser with
 | true => exact Nat.mul_le_mul h1 h2
 | false => exact Nat.add_le_add h1 h2
theorem tR {g : Nat -> Nat} {m : Nat} (h : n <= m) (h1 : ∀ k, k < m -> 1 <= g k) : zG ser g n <= zG ser g m := by
 induction h with
 | refl => exact Nat.le_refl _
 | @step m h ih =>
  refine Nat.le_trans (ih fun k hk => h1 k (Nat.lt_succ_of_lt hk)) ?_
  show _ <= fV ser (g m) (zG ser g m)
  cases ser with
  | true => exact Nat.le_mul_of_pos_left _ (h1 m (Nat.lt_succ_self _))
  | false => exact Nat.le_add_left _ _
theorem M7 {g : Nat -> Nat} {L : List Int} : L.Pairwise (· < ·) -> ∀ {node : Int}, (∀ h ∈ L, node < h /\ h <= 7) -> (∀ k, k < (7 - node).toNat -> 1 <= g k) -> L.foldr (fun h n => fV ser (g (7 - h).toNat) n) (if ser then 1 else 0) <= zG ser g (7 - node).toNat := by
 induction L with
 | nil => exact fun _ node _ h1 => tR (n := 0) (Nat.zero_le _) h1
 | cons k L ih =>
  intro hp node hk h1
  have hp := List.pairwise_cons.mp hp
  have h2 := hk k (.head _)
  have h3 := ih hp.2 (node := k) (fun h hh => ⟨hp.1 h hh, (hk h (.tail _ hh)).2⟩) fun j hj => h1 j (Nat.lt_of_lt_of_le hj (Nat.le_of_succ_le (lt7 h2.1 h2.2)))
  refine Nat.le_trans (nR (Nat.le_refl _) h3) ?_
  exact tR (n := (7 - k).toNat + 1) (lt7 h2.1 h2.2) h1
theorem G6 {c : Int -> Nat} {L : List Int} : ∀ n0 : Nat, L.foldl (fun n h => fV ser n (c h)) n0 = fV ser n0 (L.foldr (fun h n => fV ser (c h) n) (if ser then 1 else 0)) := by
 induction L with
 | nil =>
  intro n0
  cases ser with
  | true => exact (Nat.mul_one _).symm
  | false => exact (Nat.add_zero _).symm
 | cons k L ih =>
  intro n0
  rw [List.foldl_cons, ih, List.foldr_cons]
  cases ser with
  | true => exact Nat.mul_assoc ..
  | false => exact Nat.add_assoc ..
theorem vL {c d : Int -> Nat} {L : List Int} (h : ∀ k ∈ L, c k <= d k) : L.foldr (fun h n => fV ser (c h) n) (if ser then 1 else 0) <= L.foldr (fun h n => fV ser (d h) n) (if ser then 1 else 0) := by
 induction L with
 | nil => exact Nat.le_refl _
 | cons k L ih => exact nR (h k (.head _)) (ih fun j hj => h j (.tail _ hj))
theorem CT {T : Int -> List (List Int)} {L : List Int} : ∀ lines, (L.foldl (fun lines h => eG ser lines (T h)) lines).length = L.foldl (fun n h => fV ser n (T h).length) lines.length := by
 induction L with
 | nil => exact fun _ => rfl
 | cons k L ih =>
  intro lines
  rw [List.foldl_cons, List.foldl_cons, ih, lq]
theorem CV (ser : Bool) : ∀ k, k < 8 -> 1 <= bB ser k := by cases ser <;> decide
theorem JW (ser : Bool) : ∀ k, k < 8 -> zG ser (bB (!ser)) k <= bB ser k := by cases ser <;> decide
theorem M8 (ser : Bool) : ∀ k, k < 8 -> bB ser k <= 13530 := by cases ser <;> decide
theorem jQ (ht : turn = 0 \/ turn = 1) (depth : Int) : cI turn (depth + 1) = !cI turn depth := by
 unfold cI
 rw [Int.add_fmod]
 rcases Int.fmod_two_eq depth with h | h <;> rcases ht with rfl | rfl <;> rw [h] <;> decide
noncomputable def jj (ups : List Int) (turn : Int) (f : Nat) (depth : Int) (L : List Int) : List (List Int) := L.foldl (fun lines h => eG (cI turn depth) lines (cu ups turn f h (depth + 1))) (d8 (cI turn depth))
theorem tU {ups : List Int} (ht : turn = 0 \/ turn = 1) {f : Nat} {depth node : Int} (ih : ∀ h, node < h -> h <= 7 -> (cu ups turn f h (depth + 1)).length <= bB (cI turn (depth + 1)) (7 - h).toNat) (h0 : 0 <= node) {L : List Int} (hp : L.Pairwise (· < ·)) (hk : ∀ h ∈ L, node < h /\ h <= 7) :
  (jj ups turn f depth L).length <= bB (cI turn depth) (7 - node).toNat := by
 unfold jj
 rw [CT, G6]
 have h1 : ∀ n, fV (cI turn depth) (d8 (α := Int) (cI turn depth)).length n = n := fun n => by
  cases cI turn depth with
  | true => exact Nat.one_mul _
  | false => exact Nat.zero_add _
 rw [h1]
 refine Nat.le_trans (vL fun k hk' => ih k (hk k hk').1 (hk k hk').2) ?_
 rw [jQ ht]
 exact Nat.le_trans (M7 hp hk fun k h => CV _ k (Nat.lt_of_lt_of_le h (Nat.le_trans (le7 h0) (by decide)))) (JW _ _ (Nat.lt_succ_of_le (le7 h0)))
theorem CW {ups : List Int} (hu : dY ups) {turn : Int} (ht : turn = 0 \/ turn = 1) : ∀ f node depth, 0 <= node -> node <= 7 -> (cu ups turn f node depth).length <= bB (cI turn depth) (7 - node).toNat := by
 intro f
 induction f with
 | zero => exact fun _ _ _ _ => Nat.zero_le _
 | succ f ih =>
  intro node depth h0 h7
  unfold cu
  split
  ·exact CV _ _ (Nat.lt_succ_of_le (le7 h0))
  ·exact tU ht (fun h h1 h2 => ih h (depth + 1) (Int.le_trans h0 (Int.le_of_lt h1)) h2) h0 (dG ups node) fun h hh => ⟨(dZ hu hh).1, (dZ hu hh).2.2⟩
theorem qg {ups : List Int} {f : Nat} (ih : ∀ h line, line ∈ cu ups turn f h (depth + 1) -> line.length <= 2 ^ (7 - h).toNat) {L : List Int} : ∀ line ∈ jj ups turn f depth L, line.length <= (L.map fun h => 2 ^ (7 - h).toNat).sum := by
 have key : ∀ (L : List Int) (lines : List (List Int)) (n : Nat), (∀ line ∈ lines, line.length <= n) -> ∀ line ∈ L.foldl (fun lines h => eG (cI turn depth) lines (cu ups turn f h (depth + 1))) lines, line.length <= n + (L.map fun h => 2 ^ (7 - h).toNat).sum := by
  intro L
  induction L with
  | nil => exact fun lines n h line hl => Nat.le_trans (h line hl) (Nat.le_add_right ..)
  | cons k L ihL =>
   intro lines n h line hl
   rw [List.map_cons, List.sum_cons, <- Nat.add_assoc]
   refine ihL _ _ (fun line hl => ?_) line hl
   unfold eG at hl
   split at hl
   ·obtain ⟨a, ha, hl⟩ := List.mem_flatMap.mp hl
    obtain ⟨b, hb, rfl⟩ := List.mem_map.mp hl
    rw [List.length_append]
    exact Nat.add_le_add (h a ha) (ih k b hb)
   ·rcases lA hl with hl | hl
    ·exact Nat.le_trans (h line hl) (Nat.le_add_right ..)
    ·exact Nat.le_trans (ih k line hl) (Nat.le_add_left ..)
 intro line hl
 have := key L (d8 (cI turn depth)) 0 (fun line h => by
  unfold d8 at h
  split at h
  ·rw [lS h]; exact Nat.le_refl _
  ·cases h) line hl
 omega
theorem iU {ups : List Int} (hu : dY ups) {turn : Int} : ∀ f node depth line, line ∈ cu ups turn f node depth -> line.length <= 2 ^ (7 - node).toNat := by
 intro f
 induction f with
 | zero => exact fun _ _ _ h => nomatch h
 | succ f ih =>
  intro node depth line hl
  unfold cu at hl
  split at hl
  ·rw [lS hl]; exact Nat.one_le_two_pow
  ·have h1 := qg (fun h line => ih h (depth + 1) line) line hl
   exact Nat.le_trans h1 (Nat.le_of_succ_le (lg hu node))
theorem zH {ups : List Int} {f : Nat} {L : List Int} {k : Int} (h : L[i]? = some k) : jj ups turn f depth (L.take (i + 1)) = eG (cI turn depth) (jj ups turn f depth (L.take i)) (cu ups turn f k (depth + 1)) := by
 unfold jj
 rw [List.take_add_one, h, Option.toList_some, List.foldl_append]
 rfl
noncomputable abbrev toG (ups : List Int) (turn node depth : Int) : Gam := [("heirs", iL (ao ups node)), ("node", .int node), ("depth", .int depth), ("turn", .int turn), ("ups", iL ups)]
theorem JX {ups : List Int} (hu : dY ups) {turn : Int} (ht : turn = 0 \/ turn = 1) : ∀ (f : Nat) {c : Cfg} {l : Nat} {mg mb : Str -> Option Value} (W : Wd1 c mg mb) (hl : l + f < 50) (node depth : Int) (h0 : 0 <= node) (h7 : node <= 7) (hf : 8 <= node + f), Fn c l "_law_told" [.int node, .int depth, .int turn, iL ups] (rL (cu ups turn f node depth)) := by
 intro f
 induction f with
 | zero => intro c l mg mb W hl node depth h0 h7 hf; omega
 | succ f ih =>
  intro c l mg mb W hl node depth h0 h7 hf
  refine W.call (dr1 28) (cO (i := 12) (by kernel_rfl)) ["node", "depth", "turn", "ups"] (by decide +kernel) rfl (by omega) (fun pm code doc => KC fun a b c d => by rfl) fun A s0 ad L X pm code doc hX hA => ?_
  have hser : ∀ {cc : Cfg} {ll : Nat} {X : List Addr} {env : Env} {Γ : Gam} {e1 e2 : Expr} {p q r : Pos} {k : Nat}, Ev cc ll X env Γ e1 (.int depth) -> Ev cc ll X env Γ e2 (.int turn) -> behindInMarks .Eq e2 = false -> Et cc ll X env Γ (.Compare (.BinOp e1 .Mod (.Constant (.int 2) k p) q) [.Eq] [e2] r) (cI turn depth) := fun h1 h2 hm => .cmp (.binop h1 .int (.mod (by decide))) h2 .eqI hm
  refine Ex.new (.of fun X => .bN (xK (W.push _) (show l + 1 < 58 by omega) ups node (by rw [hu.len]; decide)) (.cons (.n m0) (.cons (.n m3) .nil))) ?_
  refine Ex.new (d := rL (d8 (cI turn depth))) (.of fun X => (Ev.ite (b := cI turn depth) (hser (.n m2) (.n m3) rfl) (fun _ => .list (.cons (.list .nil) .nil)) fun _ => .list .nil).as (by cases cI turn depth <;> rfl)) ?_
  refine Ex.seq (Ex1.yD (fun i => ("lines", rL (jj ups turn f depth ((ao ups node).take i))) :: toG ups turn node depth) (fun _ => []) (.of fun X => .ofList (.n m1)) (fun p h => h) hX (fun i k r hk => ?_) rfl) (.ret (.of fun X => (Ev.ite (b := decide (ao ups node = [])) (.cmp (.n m1) (.list .nil) .M6) (fun _ => .list (.cons (.list (.cons (.n m2) .nil) (by simp)) .nil) (by simp)) fun _ => .n m0).as ?_) (.inl rfl))
  ·have hkm := lG hk
   have hg := dZ hu hkm
   have hL : ∀ L : List Int, L.Pairwise (· < ·) -> (∀ h ∈ L, h ∈ ao ups node) -> (jj ups turn f depth L).length <= 13530 := fun L hp hs => Nat.le_trans (tU ht (node := node) (fun h _ h2 => CW hu ht f h (depth + 1) (by omega) h2) h0 hp fun h hh => ⟨(dZ hu (hs h hh)).1, (dZ hu (hs h hh)).2.2⟩) (M8 _ _ (by omega))
   have hz := hL ((ao ups node).take (i + 1)) ((dG ups node).sublist (List.take_sublist ..)) fun h hh => List.mem_of_mem_take hh
   rw [zH hk] at hz ⊢
   have hl1 : ∀ line ∈ jj ups turn f depth ((ao ups node).take i), line.length <= 128 := fun line hl => by
    have h1 := qg (fun h line => iU hu f h (depth + 1) line) line hl
    have h2 := lg hu node
    have h3 := JR h0
    have h4 : (((ao ups node).take i).map fun h => 2 ^ (7 - h).toNat).sum <= ((ao ups node).map fun h => 2 ^ (7 - h).toNat).sum := by
     have h := congrArg (fun l => (l.map fun h : Int => 2 ^ (7 - h).toNat).sum) (List.take_append_drop i (ao ups node))
     simp only [List.map_append, List.sum_append] at h
     exact h ▸ Nat.le_add_right ..
    exact Nat.le_trans h1 (Nat.le_trans h4 (Nat.le_trans (Nat.le_of_succ_le h2) h3))
   have hl2 : ∀ line ∈ cu ups turn f k (depth + 1), line.length <= 128 := fun line hl => by
    have h1 := iU hu f k (depth + 1) line hl
    exact Nat.le_trans h1 (JR (Int.le_trans hg.2.1 (Int.le_of_lt hg.1)))
   generalize jj ups turn f depth ((ao ups node).take i) = lines at hz hl1 ⊢
   refine Ex.new (.of fun X => .bN (ih (W.push _) (show l + 1 + f < 50 by omega) k (depth + 1) (by omega) hg.2.2 (by omega)) (.cons (.n m0) (.cons (.binop (.n m4) .int .add) (.cons (.n m5) (.cons (.n m6) .nil))))) ?_
   generalize cu ups turn f k (depth + 1) = below at hz hl2 ⊢
   refine Ex.seq (Γ1 := ("lines", rL (eG (cI turn depth) lines below)) :: ("below", rL below) :: ("heir", .int k) :: toG ups turn node depth) (R1 := []) (Δ1 := [r]) (Ex1.ite (b := cI turn depth) (EtS.of fun X => hser (.n m5) (.n m6) rfl) (fun h => ?_) fun h => ?_) (.fin fun p hp => ?_)
   ·rw [h] at hz ⊢
    have hz' : (lines.flatMap fun _ => below).length <= 10 ^ 6 := by
     rw [lq] at hz
     rw [List.length_flatMap, List.map_const', List.sum_replicate_nat]
     exact Nat.le_trans hz (by decide)
    refine Ex.setC hX (fun X => (EvC.nm2 (Γc := [("below", rL below)]) (L := lines) (g := iL) (M := fun _ => below) (k := iL) (fun (a b : List Int) => iL (a ++ b)) vH vH (.ofList (.n m2)) (.cons m0 .nil) (fun cs C XL a ha => .ofList (.n m1)) (fun cs C XL a ha b hb => (Ev.binop (.n m1) (.n m0) (.Fi (by rw [List.length_map, List.length_map]; have := hl1 a ha; have := hl2 b hb; omega))).as (by rw [<- List.map_append])) hz').as ?_) (.nil rfl)
    show PyData.list _ = .list ((lines.flatMap fun line => below.map (line ++ ·)).map iL)
    rw [List.map_flatMap]
    simp only [List.map_map]
    rfl
   ·rw [h] at hz ⊢
    refine Ex.set (.of fun X => (Ev.binop (.n m2) (.n m0) (.Fi (by rw [lq] at hz; rw [List.length_map, List.length_map]; exact Nat.le_trans hz (by decide)))).as ?_) (.nil rfl)
    rw [<- List.map_append]
    rfl
   ·rcases lC hp with rfl | hp
    ·exact .head _
    ·exact .tail _ (.tail _ (.tail _ hp))
  ·unfold cu
   rw [List.take_length]
   by_cases h : ao ups node = []
   ·rw [if_pos (decide_eq_true h), if_pos h]; rfl
   ·rw [if_neg (by simpa using h), if_neg h]; rfl
section
variable {K : Type} [DecidableEq K]
structure EmpA (XL : List Addr) (h0 h : Heap) (a : Addr) : Prop where
 off : a ∉ XL
 new : h0.get? a = none
 at_ : ∃ n, h.get? a = some (bH [] n)
structure AIW (c : Cfg) (dk : bh c.w K) (D : Addr) (XL : List Addr) (h0 : Heap) (ks : List K) (h : Heap) (ls : List Addr) : Prop where
 len : ks.length = ls.length
 dic : h.DictOf (dk.knd c.prog) D (ks.zip (ls.map .ref))
 nd : ls.Nodup
 emp : ∀ a ∈ ls, EmpA XL h0 h a
 old : ∀ b, h0.get? b ≠ none -> b ∈ XL \/ h.get? b ≠ none
theorem AIW.keep {dk : bh c.w K} {ks : List K} {h0 : Heap} {ls : List Addr} (a : AIW c dk D XL h0 ks h ls) (q : HX c Y h h') (hF : ∀ a ∈ c.fr, a ∈ XL /\ a ≠ D) (hy : ∀ y ∈ Y, y ∈ XL /\ y ≠ D) : AIW c dk D XL h0 ks h' ls :=
 ⟨a.len, q.dictOf (fun z => (hy _ z).2 rfl) (fun z => (hF _ z).2 rfl) a.dic, a.nd, fun b hb => let e := a.emp b hb; ⟨e.off, e.new, let ⟨n, z⟩ := e.at_; ⟨n, q.exact (fun z => e.off (hy _ z).1) (fun z => e.off (hF _ z).1) z⟩⟩,
  fun b hb => (a.old b hb).elim .inl fun z => by
   by_cases w : b ∈ XL
   ·exact .inl w
   ·refine .inr fun e => z (q.none_of (fun y => w (hy _ y).1) e)⟩
theorem CX {dk : bh c.w K} {k : K} {ks : List K} {ls : List Addr} {h0 : Heap} {xs : List Str} (P : Plc c X XL N D env) (h1 : Ev c l XL env Γ' kx (dk.enc k)) (hs : ∀ p ∈ Γ, p ∈ Γ') (L : Lev l A) (G : Good c A XL env Γ' s.heap) (a : AIW c dk D XL h0 ks s.heap ls)
  (T : TG env N xs s.heap) (hz : ks.length <= 10 ^ 6) (hk : k ∉ ks) :
  wpAny c.M A (rW kx (.List [] lp) D env) (fun _ s' => fB c A XL [D] N env Γ xs (fun h => ∃ ls, AIW c dk D XL h0 (ks ++ [k]) h ls) s s') NoE s := by
 refine wB (h1.use L G fun kv s1 p1 r1 G1 => wB (wpAny_holding (bk (wK (EvF.nil (pos := lp) A s1 L G1) (fun v s2 hv => ?_)))))
 obtain ⟨p2, M, hM, o⟩ := hv
 refine wB (wpAny_standAt (wpAny_holding ?_))
 have G2 := G1.hx0 p2.hx
 have hMX : M ∉ XL := fun z => by obtain ⟨o', e⟩ := G1.bas.alloc M z; rw [hM] at e; cases e
 obtain ⟨h1, tk1, q1⟩ := p1
 obtain ⟨h2, tk2, q2⟩ := p2
 have hF : ∀ a ∈ c.fr, a ∈ XL /\ a ≠ D := fun a ha => ⟨G.bas.frs a ha, fun z => P.acc.2.1 (z ▸ ha)⟩
 have a1 := a.keep q1 hF fun y hy => nomatch hy
 have a2 := a1.keep q2 hF fun y hy => nomatch hy
 have hfst : (ks.zip (ls.map Value.ref)).map (·.1) = ks := List.map_fst_zip (by rw [a.len, List.length_map]; exact Nat.le_refl _)
 refine wpAny_dictSet_pairs (dk.dr c.prog k _ _ _ r1) a2.dic (fun h' d' hs' => ?_) (by rw [List.length_zip, List.length_map, <- a.len, sizeLine_eq]; omega)
 rw [stored_new (by rw [hfst]; exact hk)] at d'
 have q3 : HX c [D] h2 h' := .sameBut hs' P.acc.2.2.1 P.acc.2.1
 have q12 := q1.trans q2
 have q03 : HX c [D] s.heap h' := (q12.mono fun _ z => nomatch z).trans q3
 obtain ⟨G3, T3⟩ := P.after q3 G2 (let ⟨o, _, _, e, _⟩ := d'; ⟨o, e⟩) (T.hx q12 (fun z => nomatch z) fun _ _ z => nomatch z)
 have hne : ∀ b, b ∉ XL -> b ∉ [D] := fun b hb z => hb (lS z ▸ P.acc.1)
 have hfr : ∀ b, b ∉ XL -> b ∉ c.fr := fun b hb z => hb (G.bas.frs b z)
 have hMo : ∀ b ∈ ls, b ≠ M := fun b hb e => by
  obtain ⟨n, z⟩ := (a1.emp b hb).at_
  rw [e, hM] at z; cases z
 refine ⟨h', _, q03, ⟨ls ++ [M], by simp [a.len], ?_, ?_, fun b hb => ?_, fun b hb => ?_⟩, G3.sub hs, T3⟩
 ·rw [List.map_append, List.zip_append (by rw [a.len, List.length_map])]
  exact d'
 ·exact List.nodup_append.mpr ⟨a.nd, List.nodup_cons.mpr ⟨nofun, .nil⟩, fun b hb m hm => by rw [lS hm]; exact hMo b hb⟩
 ·rcases lA hb with hb | hb
  ·have e := a2.emp b hb
   exact ⟨e.off, e.new, let ⟨n, z⟩ := e.at_; ⟨n, q3.exact (hne b e.off) (hfr b e.off) z⟩⟩
  ·rw [lS hb]
   refine ⟨hMX, Classical.byContradiction fun z => ?_, ?_⟩
   ·rcases a1.old M z with z | z
    ·exact hMX z
    ·exact z hM
   ·obtain ⟨vs, n, e, r⟩ := o
    rw [r.nil_inv] at e
    exact ⟨n, q3.exact (hne M hMX) (hfr M hMX) e⟩
 ·rcases a2.old b hb with z | z
  ·exact .inl z
  ·by_cases w : b ∈ XL
   ·exact .inl w
   ·exact .inr fun e => z (q3.none_of (hne b w) e)
inductive CZ (c : Cfg) (dk : bh c.w K) (ks : List K) (s : Shared) : Value -> Shared -> Prop
 | mk {s' : _} (p : Pst c s s') (D : Addr) (ls : List Addr) (hD : s.heap.get? D = none) (hn : ∀ a ∈ ls, s.heap.get? a = none /\ ∃ n, s'.heap.get? a = some (bH [] n)) (nd : (D :: ls).Nodup) (hl : ks.length = ls.length) (d : s'.heap.DictOf (dk.knd c.prog) D (ks.zip (ls.map .ref))) : CZ c dk ks s (.ref D) s'
noncomputable def EvD (c : Cfg) (dk : bh c.w K) (l : Nat) (X : List Addr) (env : Env) (Γ : Gam) (e : Expr) (ks : List K) : Prop :=
 ∀ A s, Lev l A -> Good c A X env Γ s.heap -> wpAny c.M A (eval e env) (CZ c dk ks s) NoE s
theorem EvD.comp (dk : bh c.w K) {Γc : Gam} {kx iter : Expr} {x : Str} {p lp : Pos} {scope : Scope} {pos : Pos} {ks : List K}
  (hI : EvI c l X env Γ false iter (ks.map dk.enc)) (hs : fY env scope) (hc : Cap env scope Γ Γc) (hx : scope.names.lookup x = some .local \/ scope.names.lookup x = some .cell) (ho : fZ [x] Γc)
  (hek : ∀ cs C XL, ∀ k ∈ ks, Ev c l XL (aq scope cs C env) ((x, dk.enc k) :: Γc) kx (dk.enc k)) (hz : ks.length <= 10 ^ 6) (hn : ks.Nodup) (hd : autoParam ((x == ("__debug__" : Str)) = false) aK)
  (hfold : autoParam (∀ x, foldedSetIterable iter env x = pure x) aI) :
  EvD c dk l X env Γ (.DictComp kx (.List [] lp) [⟨.Name x p, iter, [], 0⟩] scope pos) ks := fun A s L G => by
 refine fK (e := .DictComp kx (.List [] lp) [⟨.Name x p, iter, [], 0⟩] scope pos) (use := none) (l := l) (newAcc := newDict) (acc0 := oH [] 0) (body := fun acc cenv => match acc with | .ref D => rW kx (.List [] lp) D cenv | _ => pure ()) (AI := fun D XL i h => ∃ ls, AIW c dk D XL s.heap (ks.take i) h ls) (xs := [x]) (xs1 := [x]) (bs := fun _ => true) (rest := []) (Γd := fun d => [(x, d)]) rfl hfold
  (fun A s E Q h => wpAny_newObj_type h) rfl (fun D it cenv => ?_) (fun _ _ _ => rfl) (fun _ _ _ => rfl) (fun _ _ _ _ => rfl) (fun _ _ _ _ => rfl) hI (fun d _ => .name hd) (fun x h => h) .name hs hc (fun y hy => lS hy ▸ hx) ho (fun cs C XL _ d hd => .nil)
  (fun D XL h q e => ⟨[], rfl, (show h.DictOf (dk.knd c.prog) D [] from ⟨_, _, _, e, ⟨rfl, rfl, rfl⟩, rfl, (fun _ he => by simp at he), PySem.Pairs.nil, List.nodup_nil⟩), .nil, nofun, fun b hb => .inr fun z => hb (q.none_of nofun z)⟩) (fun D XL i h h' Y a q hF hy => let ⟨ls, z⟩ := a; ⟨ls, z.keep q hF hy⟩) (fun D XL i h a => let ⟨_, z⟩ := a; let ⟨_, _, _, e, _⟩ := z.dic; ⟨_, e⟩)
  (fun cs C XL N D P A s i d L hd hbs G a T => ?_)
  (fun D XL i d h hd hbs a => nomatch hbs) L G (fun s5 D XL C p hX hD hC hDX hCX hCD hF ai hm => ?_)
 ·show (compTurn _ 0 it (.ref D) cenv).onRaise _ = _
  rw [pG]
 ·obtain ⟨k, hk⟩ := dO hd
  obtain ⟨ls, a⟩ := a
  have hke : (ks.map dk.enc)[i]? = some (dk.enc k) := by rw [List.getElem?_map, hk]; rfl
  rw [hd] at hke
  cases hke
  have hnk : k ∉ ks.take i := fun z => by
   have e := List.take_append_drop (i + 1) ks
   rw [<- e, List.take_add_one, hk, Option.toList_some] at hn
   exact (List.nodup_append.mp (List.nodup_append.mp hn).1).2.2 k z k (.head _) rfl
  refine wK (CX (Γ := Γc) P (hek cs C XL k (lG hk)) (fun p hp => .tail _ hp) L G a T (by rw [List.length_take]; omega) hnk) (fun _ s' hr => hr.to (fun y hy => lS hy ▸ .head _) fun h z => ?_)
  rw [List.take_add_one, hk, Option.toList_some]
  exact z
 ·obtain ⟨m, hm⟩ := hm
  refine ⟨m, hm, fun h6 hs6 => ?_⟩
  have q6 : HX c [C] s5.heap h6 := .sameBut hs6 (j4 G.bas hC) fun z => (hF C z).2.2 rfl
  obtain ⟨h5, tk5, q5⟩ := p
  have q06 : HX c [] s.heap h6 := q5.young q6 fun a ha => (by rw [lS ha]; exact hC)
  obtain ⟨ls, a⟩ := ai
  have b := a.keep q6 (fun a ha => ⟨(hF a ha).1, (hF a ha).2.1⟩) fun y hy => (by rw [lS hy]; exact ⟨hCX, hCD⟩)
  rw [List.length_map, List.take_length] at b
  exact ⟨⟨h6, tk5, q06⟩, D, ls, hD, fun a ha => ⟨(b.emp a ha).new, (b.emp a ha).at_⟩, List.nodup_cons.mpr ⟨fun z => (b.emp D z).off hDX, b.nd⟩, b.len, b.dic⟩
end
noncomputable def IsD (L : aP) : Prop := ∀ p ∈ L, ∃ d, p.2 = .data d
theorem Dc (h : IsD L) : fpA L = L.map (·.1) := by
 induction L with
 | nil => rfl
 | cons p L ih =>
  obtain ⟨d, e⟩ := h p (.head _)
  unfold fpA at ih ⊢
  rw [List.flatMap_cons, ih fun q hq => h q (.tail _ hq), e]
  rfl
theorem vM (h : IsD L) (hn : (L.map (·.1)).Nodup) : (aj c L).Pairwise fun r r' => ∀ a ∈ r.fp, a ∉ r'.fp := by
 unfold aj
 rw [List.pairwise_map]
 unfold List.Nodup at hn
 rw [List.pairwise_map] at hn
 refine List.Pairwise.imp_of_mem ?_ hn
 intro p q hp hq hne a ha hb
 obtain ⟨d, e⟩ := h p hp
 obtain ⟨d', e'⟩ := h q hq
 rw [bD, e] at ha
 rw [bD, e'] at hb
 exact hne ((lS ha).symm.trans (lS hb))
noncomputable def lu (enc : κ -> PyData) (W d0 d1 : Addr) (ks : List κ) (A0 A1 : List Addr) (M : List (Addr × List κ)) : aP :=
 (W, .data (.list [opq d0, opq d1])) :: (d0, .data (dD enc (ks.zip (A0.map opq)))) :: (d1, .data (dD enc (ks.zip (A1.map opq)))) :: M.map fun p => (p.1, .data (.list (p.2.map enc)))
theorem tV {W d1 : Addr} {M : List (Addr × List κ)} : (lu enc W d0 d1 ks A0 A1 M).map (·.1) = W :: d0 :: d1 :: M.map (·.1) := by
 unfold lu
 rw [List.map_cons, List.map_cons, List.map_cons, List.map_map]
 rfl
theorem qj {W d1 : Addr} {M : List (Addr × List κ)} : IsD (lu enc W d0 d1 ks A0 A1 M) := fun p hp => by
 unfold lu at hp
 rcases lC hp with rfl | hp
 ·exact ⟨_, rfl⟩
 rcases lC hp with rfl | hp
 ·exact ⟨_, rfl⟩
 rcases lC hp with rfl | hp
 ·exact ⟨_, rfl⟩
 obtain ⟨q, _, rfl⟩ := List.mem_map.mp hp
 exact ⟨_, rfl⟩
section
variable {E : Err} [DecidableEq κ]
theorem tW : ∀ {ls : List Addr}, RdL w X h (ls.map .ref) (ls.map opq)
 | [] => .nil
 | a :: ls => .cons (.opq a) tW
theorem nT {ks : List α} {xs : List β} (h : ks.length = xs.length) : (ks.zip xs).map (·.1) = ks /\ (ks.zip xs).map (·.2) = xs := ⟨List.map_fst_zip (Nat.le_of_eq h), List.map_snd_zip (Nat.le_of_eq h.symm)⟩
theorem tX (dk : bh c.w κ) {X : List Addr} {h : Heap} {D : Addr} {ks : List κ} {ls : List Addr} (hl : ks.length = ls.length) (d : h.DictOf (dk.knd c.prog) D (ks.zip (ls.map .ref))) : bT c X h D (dD dk.enc (ks.zip (ls.map opq))) := by
 have z := nT (ks := ks) (xs := ls.map opq) (by rw [List.length_map]; exact hl)
 refine bT.ofD dk (vs := ls.map .ref) ?_ ?_
 ·rw [z.1]; exact d
 ·rw [z.2]; exact tW
theorem Dd (dk : bh c.w κ) {X : List Addr} {s : Shared} {h0 h1 h2 h3 : Heap} (es : s.heap = h0) {tk2 : Nat} {ks : List κ} {Wa d0 d1 : Addr} {A0 A1 : List Addr} (q1 : HX c [] h0 h1) (q2 : HX c [] h1 h2) (q3 : HX c [] h2 h3)
  (hW2 : h2.get? Wa = none) (hW3 : h3.get? Wa = some (bH [.ref d0, .ref d1] 0)) (nfr : ∀ a, h0.get? a = none -> a ∉ c.fr)
  (hd0 : h0.get? d0 = none) (hn0 : ∀ a ∈ A0, h0.get? a = none /\ ∃ n, h1.get? a = some (bH [] n)) (nd0 : (d0 :: A0).Nodup) (hl0 : ks.length = A0.length) (D0 : h1.DictOf (dk.knd c.prog) d0 (ks.zip (A0.map .ref)))
  (hd1 : h1.get? d1 = none) (hn1 : ∀ a ∈ A1, h1.get? a = none /\ ∃ n, h2.get? a = some (bH [] n)) (nd1 : (d1 :: A1).Nodup) (hl1 : ks.length = A1.length) (D1 : h2.DictOf (dk.knd c.prog) d1 (ks.zip (A1.map .ref))) :
  sG c X s [] (fun d L' => ∃ W d0 d1 A0 A1, ks.length = A0.length /\ ks.length = A1.length /\ d = opq W /\ L' = lu dk.enc W d0 d1 ks A0 A1 ((A0 ++ A1).map fun a => (a, [])) /\ (L'.map (·.1)).Nodup) (.ref Wa) { s with heap := h3, toks := tk2 } := by
 subst es
 have al0 : ∃ o, h1.get? d0 = some o := let ⟨o, _, _, e, _⟩ := D0; ⟨o, e⟩
 have al1 : ∃ o, h2.get? d1 = some o := let ⟨o, _, _, e, _⟩ := D1; ⟨o, e⟩
 have fr1 : ∀ a, h1.get? a = none -> s.heap.get? a = none := fun a e => q1.none_of nofun e
 have D0' := (q2.trans q3).dictOf (fun z => nomatch z) (nfr d0 hd0) D0
 have D1' := q3.dictOf (fun z => nomatch z) (nfr d1 (fr1 _ hd1)) D1
 have L0 : ∀ a ∈ A0, ∃ n, h3.get? a = some (bH [] n) := fun a ha => let ⟨n, e⟩ := (hn0 a ha).2; ⟨n, (q2.trans q3).exact (fun z => nomatch z) (nfr a (hn0 a ha).1) e⟩
 have L1 : ∀ a ∈ A1, ∃ n, h3.get? a = some (bH [] n) := fun a ha => let ⟨n, e⟩ := (hn1 a ha).2; ⟨n, q3.exact (fun z => nomatch z) (nfr a (fr1 _ (hn1 a ha).1)) e⟩
 have alv1 : ∀ a ∈ d0 :: A0, h1.get? a ≠ none := fun a ha e => by
  rcases lC ha with rfl | ha
  ·obtain ⟨o, z⟩ := al0; rw [e] at z; cases z
  ·obtain ⟨n, z⟩ := (hn0 a ha).2; rw [e] at z; cases z
 have alv2 : ∀ a ∈ (d0 :: A0) ++ (d1 :: A1), h2.get? a ≠ none := fun a ha e => by
  rcases lA ha with ha | ha
  ·exact alv1 a ha (q2.none_of nofun e)
  ·rcases lC ha with rfl | ha
   ·obtain ⟨o, z⟩ := al1; rw [e] at z; cases z
   ·obtain ⟨n, z⟩ := (hn1 a ha).2; rw [e] at z; cases z
 have fsh1 : ∀ a ∈ d1 :: A1, h1.get? a = none := fun a ha => by
  rcases lC ha with rfl | ha
  ·exact hd1
  ·exact (hn1 a ha).1
 have ndA : ((d0 :: A0) ++ (d1 :: A1)).Nodup := List.nodup_append.mpr ⟨nd0, nd1, fun a ha b hb e => alv1 a ha (e ▸ fsh1 b hb)⟩
 have hfst : (lu dk.enc Wa d0 d1 ks A0 A1 ((A0 ++ A1).map fun a => (a, []))).map (·.1) = Wa :: d0 :: d1 :: (A0 ++ A1) := by
  rw [tV, List.map_map]
  exact congrArg _ (congrArg _ (congrArg _ (List.map_id _)))
 have nd : (Wa :: d0 :: d1 :: (A0 ++ A1)).Nodup := by
  have e : (d0 :: d1 :: (A0 ++ A1)).Perm ((d0 :: A0) ++ (d1 :: A1)) := List.Perm.cons _ List.perm_middle.symm
  exact List.nodup_cons.mpr ⟨fun z => alv2 _ (e.mem_iff.mp z) hW2, e.nodup_iff.mpr ndA⟩
 have fsh : ∀ a ∈ Wa :: d0 :: d1 :: (A0 ++ A1), s.heap.get? a = none := fun a ha => by
  rcases lC ha with rfl | ha
  ·exact (q1.trans q2).none_of nofun hW2
  rcases lC ha with rfl | ha
  ·exact hd0
  rcases lC ha with rfl | ha
  ·exact fr1 _ hd1
  rcases lA ha with ha | ha
  ·exact (hn0 a ha).1
  ·exact fr1 _ (hn1 a ha).1
 refine ⟨h3, tk2, opq Wa, _, rfl, ⟨_, d0, d1, A0, A1, hl0, hl1, rfl, rfl, by rw [hfst]; exact nd⟩, (q1.trans q2).trans q3, fun r hr => ?_, fun a ha => .inr ?_, (fun a ha => nomatch ha), vM qj (by rw [hfst]; exact nd), .opq _⟩
 ·obtain ⟨p, hp, rfl⟩ := List.mem_map.mp hr
  generalize fpA _ ++ X = XX
  unfold lu at hp
  rcases lC hp with rfl | hp
  ·exact ⟨[.ref d0, .ref d1], 0, hW3, .cons (.opq _) (.cons (.opq _) .nil)⟩
  rcases lC hp with rfl | hp
  ·exact tX dk hl0 D0'
  rcases lC hp with rfl | hp
  ·exact tX dk hl1 D1'
  obtain ⟨q, hq, rfl⟩ := List.mem_map.mp hp
  obtain ⟨a, ha, rfl⟩ := List.mem_map.mp hq
  rcases lA ha with ha | ha
  ·obtain ⟨n, e⟩ := L0 a ha
   exact ⟨[], n, e, .nil⟩
  ·obtain ⟨n, e⟩ := L1 a ha
   exact ⟨[], n, e, .nil⟩
 ·rw [Dc qj, hfst] at ha
  exact fsh a ha
theorem EvX.two (dk : bh K.c.w κ) {e1 e2 : Expr} {pos : Pos} {ks : List κ} (h1 : ∀ X, EvD K.c dk K.l X K.env Γ e1 ks) (h2 : ∀ X, EvD K.c dk K.l X K.env Γ e2 ks)
  (he1 : autoParam (starEach [e1, e2] K.env = (false, eval e1 K.env) :: starEach [e2] K.env) aR) (he2 : autoParam (starEach [e2] K.env = (false, eval e2 K.env) :: starEach [] K.env) aR) :
  EvX K A s0 E Γ R [] Δ (.List [e1, e2] pos) (fun d L' => ∃ W d0 d1 A0 A1, ks.length = A0.length /\ ks.length = A1.length /\ d = opq W /\ L' = lu dk.enc W d0 d1 ks A0 A1 ((A0 ++ A1).map fun a => (a, [])) /\ (L'.map (·.1)).Nodup) := fun s X S => by
 refine bk (wpAny_List (wpAny_items_cons (wK (h1 X A s S.lev S.good) (fun v1 s1 r1 => ?_)) he1))
 obtain ⟨p1, d0, A0, hd0, hn0, nd0, hl0, D0⟩ := r1
 have G1 := S.good.hx0 p1.hx
 refine wpAny_items_cons (wK (h2 X A s1 S.lev G1) (fun v2 s2 r2 => wpAny_items_nil ?_)) he2
 obtain ⟨p2, d1, A1, hd1, hn1, nd1, hl1, D1⟩ := r2
 refine ⟨by rw [sizeLine_eq]; show (2 : Nat) <= _; decide, ?_⟩
 have hF : ∀ a ∈ K.c.fr, ∃ o, s.heap.get? a = some o := fun a ha => S.good.bas.alloc a (S.good.bas.frs a ha)
 obtain ⟨h1, tk1, q1⟩ := p1
 obtain ⟨h2, tk2, q2⟩ := p2
 exact Sat.Az (L := []) (Δ := Δ) S (Dd dk (tk2 := tk2) rfl q1 q2 (.push _ _) (ak (Nat.le_refl _)) (hP _ rfl) (fun a ha z => by obtain ⟨o, e⟩ := hF a z; rw [ha] at e; cases e) hd0 hn0 nd0 hl0 D0 hd1 hn1 nd1 hl1 D1)
end
inductive jk (L : aP) : PyData -> PyData -> Prop
 | flat {d : PyData} (h : flat d = true) : jk L d d
 | list {a : Addr} {ds ds' : List PyData} (h : (a, .data (.list ds)) ∈ L) (hl : ds.length = ds'.length) (f : ∀ (i : Nat) d d', ds[i]? = some d -> ds'[i]? = some d' -> jk L d d') : jk L (opq a) (.list ds')
 | dict {a : Addr} {ks ds ds' : List PyData} (h : (a, .data (.dict (ks.zip ds))) ∈ L) (hk : ks.length = ds.length) (hl : ds.length = ds'.length) (f : ∀ (i : Nat) d d', ds[i]? = some d -> ds'[i]? = some d' -> jk L d d') : jk L (opq a) (.dict (ks.zip ds'))
theorem RdL.by : ∀ {vs ds'}, RdL w X h vs ds -> ds.length = ds'.length -> (∀ (i : Nat) v d d', ds[i]? = some d -> ds'[i]? = some d' -> Rd w X h v d -> Rd w X' h v d') -> RdL w X' h vs ds' := by
 induction ds with
 | nil =>
  intro vs ds' r hl _
  rw [List.eq_nil_of_length_eq_zero hl.symm, r.nil_inv]
  exact .nil
 | cons d ds ih =>
  intro vs ds' r hl f
  cases ds' with
  | nil => cases hl
  | cons d' ds' =>
   obtain ⟨v, vs, a, q⟩ := r.cons_inv
   exact .cons (f 0 v d d' rfl rfl a) (ih q (Nat.succ.inj hl) fun i v e e' he he' => f (i + 1) v e e' he he')
section
variable {E : Err} [DecidableEq κ]
theorem Sat.Df (S : Sat K X Γ R (aj K.c L ++ Δ) A s0 s) (hX : dg K s0) {d d' : PyData} (f : jk L d d') : ∀ {v : Value}, Rd K.c.w X s.heap v d -> Rd K.c.w K.X0 s.heap v d' := by
 induction f with
 | flat h => exact fun r => r.flat h
 | list h hl f ih =>
  intro v r
  rw [gn r]
  obtain ⟨vs, n, e, rl⟩ := S.lst h
  exact .list (S.x0 hX (S.fps _ (dB h) _ (.head _)).2.1) e (rl.by hl fun i v d d' h1 h2 r => ih i d d' h1 h2 r)
 | dict h hk hl f ih =>
  intro v r
  rw [gn r]
  have z := nT hk
  have z' := nT (hk.trans hl)
  obtain ⟨es, n, e, k, nd, rl⟩ := S.res _ (dB h)
  rw [z.1] at k nd
  rw [z.2] at rl
  refine .dict (S.x0 hX (S.fps _ (dB h) _ (.head _)).2.1) e (by rw [z'.1]; exact k) (by rw [z'.1]; exact nd) ?_
  rw [z'.2]
  exact rl.by hl fun i v d d' h1 h2 r => ih i d d' h1 h2 r
theorem Ex.retW (hX : dg K s0) (h : EvS K A s0 E Γ R (aj K.c L ++ Δ) e d) (f : jk L d d') (ho : O (.ret d')) (hp : autoParam (uP K d' (aj K.c L ++ Δ)) aG) : Ex K A s0 E Γ R (aj K.c L ++ Δ) (.Return (some e) pos :: ss) O :=
 Ex.cons (O1 := fun o => o = .ret d') (fun s X S => wpAny_Return_some (wK (h s X S) (fun v s' q => let ⟨Δ', h1, h2⟩ := hp; ⟨d', rfl, ⟨X, Δ', q.1.weak (fun _ z => nomatch z) (fun _ z => nomatch z) h1, h2⟩, q.1.Df hX f q.2⟩))) (fun _ _ _ e => nomatch e) (fun _ _ _ e => nomatch e) (fun _ _ _ e => nomatch e) fun _ e => by cases e; exact ho
theorem EvS.lsub {i : Int} (ho : EvS K A s0 E Γ R (aj K.c L ++ Δ) o (opq D)) (he : EvS K A s0 E Γ R (aj K.c L ++ Δ) e (.int i)) (hD : (D, .data (.list ds)) ∈ L) (h0 : 0 <= i) (hi : i < 2 ^ 63) (hx : ds[i.toNat]? = some d) (hf : flat d = true)
  (hs : autoParam (∀ o i, subscripted e false o i = operate [o, i] (getItem o i)) aU) : EvS K A s0 E Γ R (aj K.c L ++ Δ) (.Subscript o e pos) d := fun s X S => by
 refine Subscript_ (ho.ref S fun s1 S1 => he.go S1 fun v s2 S2 r2 => ?_)
 have hR := S2.res _ (dB hD)
 have fq := S2.fps _ (dB hD) D (.head _)
 have hF : ∀ a ∈ K.c.fr, a ∈ X.filter (· ≠ D) := fun a ha => bQ (S2.good.bas.frs a ha) fun e => fq.2.2.2 (e ▸ ha)
 have B1 : Bas K.c A (X.filter (· ≠ D)) s2.heap := { S2.good.bas with alloc := fun a ha => S2.good.bas.alloc a (without a ha), frs := hF }
 exact bk (wK (P2.item h0 hi hx hs K.l A (X.filter (· ≠ D)) s2 _ _ S2.lev B1 (bT.rd hR dW without) (r2.flat rfl)) (fun w s3 q => ⟨S2.pst q.1, q.2.flat hf⟩))
end
structure WA where
 W : Addr
 d : Bool -> Addr
 A : Bool -> List Addr
section
structure eH (enc : κ -> PyData) (ks : List κ) (a : WA) (C : Bool -> Nat -> List κ) (L : aP) : Prop where
 w : (a.W, .data (.list [opq (a.d false), opq (a.d true)])) ∈ L
 dic : ∀ t : Bool, (a.d t, .data (dD enc (ks.zip ((a.A t).map opq)))) ∈ L
 len : ∀ t : Bool, ks.length = (a.A t).length
 lst : ∀ (t : Bool) (i : Nat) (b : Addr), (a.A t)[i]? = some b -> (b, .data (.list ((C t i).map enc))) ∈ L
 inj : ∀ (t : Bool) (i : Nat) (t' : Bool) (j : Nat) (b : Addr), (a.A t)[i]? = some b -> (a.A t')[j]? = some b -> t = t' /\ i = j
 ne : ∀ (t : Bool) (i : Nat) (b : Addr), (a.A t)[i]? = some b -> a.W ≠ b /\ ∀ t', a.d t' ≠ b
theorem lB {l : List α} (h : l.Nodup) {i j : Nat} {a : α} (hi : l[i]? = some a) (hj : l[j]? = some a) : i = j := by
 exact (List.getElem?_inj (List.getElem?_eq_some_iff.mp hi).1 h).mp (hi.trans hj.symm)
theorem eH.init {W d1 : Addr} (h0 : ks.length = A0.length) (h1 : ks.length = A1.length) (nd : ((lu enc W d0 d1 ks A0 A1 ((A0 ++ A1).map fun a => (a, []))).map (·.1)).Nodup) :
  eH enc ks ⟨W, fun t => cond t d1 d0, fun t => cond t A1 A0⟩ (fun _ _ => []) (lu enc W d0 d1 ks A0 A1 ((A0 ++ A1).map fun a => (a, []))) := by
 have hm : ∀ (t : Bool) (i : Nat) (b : Addr), (cond t A1 A0)[i]? = some b -> b ∈ A0 ++ A1 := fun t i b hb => by
  cases t with
  | false => exact lL _ (lG hb)
  | true => exact lR _ (lG hb)
 have hf : ∀ b ∈ A0 ++ A1, (b, .data (.list [])) ∈ lu enc W d0 d1 ks A0 A1 ((A0 ++ A1).map fun a => (a, [])) := fun b hb => by
  unfold lu
  refine .tail _ (.tail _ (.tail _ ?_))
  rw [List.map_map]
  exact List.mem_map.mpr ⟨b, hb, rfl⟩
 have e := nd
 rw [tV, List.map_map, show (((A0 ++ A1).map ((fun p : Addr × List κ => p.1) ∘ fun a => (a, [])))) = A0 ++ A1 from List.map_id _] at e
 obtain ⟨n1, e⟩ := List.nodup_cons.mp e
 obtain ⟨n2, e⟩ := List.nodup_cons.mp e
 obtain ⟨n3, e⟩ := List.nodup_cons.mp e
 obtain ⟨e0, e1, e2⟩ := List.nodup_append.mp e
 refine ⟨.head _, fun t => ?_, fun t => ?_, fun t i b hb => hf b (hm t i b hb), fun t i t' j b hb hb' => ?_, fun t i b hb => ⟨fun z => n1 (.tail _ (.tail _ (Eq.mpr (congrArg (· ∈ A0 ++ A1) z) (hm t i b hb)))), fun t' z => ?_⟩⟩
 ·cases t with
  | false => exact .tail _ (.head _)
  | true => exact .tail _ (.tail _ (.head _))
 ·cases t with
  | false => exact h0
  | true => exact h1
 ·cases t <;> cases t'
  ·exact ⟨rfl, lB e0 hb hb'⟩
  ·exact absurd rfl (e2 b (lG hb) b (lG hb'))
  ·exact absurd rfl (e2 b (lG hb') b (lG hb))
  ·exact ⟨rfl, lB e1 hb hb'⟩
 ·cases t' with
  | false => exact n2 (.tail _ (Eq.mpr (congrArg (· ∈ A0 ++ A1) z) (hm t i b hb)))
  | true => exact n3 (Eq.mpr (congrArg (· ∈ A0 ++ A1) z) (hm t i b hb))
noncomputable def setC (C : Bool -> Nat -> List κ) (t : Bool) (i : Nat) (x : List κ) : Bool -> Nat -> List κ := fun t' j => if t' = t /\ j = i then x else C t' j
theorem eH.upd {a : WA} {C : Bool -> Nat -> List κ} (h : eH enc ks a C L) {t : Bool} {i : Nat} {b : Addr} (hb : (a.A t)[i]? = some b) (x : List κ) : eH enc ks a (setC C t i x) (bf L b (.data (.list (x.map enc)))) := by
 have n := h.ne t i b hb
 refine ⟨aL h.w n.1, fun t' => aL (h.dic t') (n.2 t'), h.len, fun t' j b' hb' => ?_, h.inj, h.ne⟩
 unfold setC
 by_cases z : t' = t /\ j = i
 ·rw [if_pos z]
  obtain ⟨rfl, rfl⟩ := z
  rw [hb] at hb'
  cases hb'
  exact dX (h.lst _ _ _ hb)
 ·rw [if_neg z]
  refine aL (h.lst t' j b' hb') fun e => z ?_
  rw [e] at hb'
  exact h.inj t' j t i b hb' hb
theorem eH.congr {a : WA} {C C' : Bool -> Nat -> List κ} (h : eH enc ks a C L) (e : ∀ t i, i < ks.length -> C t i = C' t i) : eH enc ks a C' L :=
 ⟨h.w, h.dic, h.len, fun t i b hb => e t i (by rw [h.len t]; exact (List.getElem?_eq_some_iff.mp hb).1) ▸ h.lst t i b hb, h.inj, h.ne⟩
noncomputable def tY (enc : κ -> PyData) (ks : List κ) (C : Nat -> List κ) : PyData := dD enc (ks.zip ((List.range ks.length).map fun i => .list ((C i).map enc)))
theorem vN (h : (a, .data (.list ds)) ∈ L) (hf : ∀ d ∈ ds, flat d = true) : jk L (opq a) (.list ds) :=
 .list h rfl fun i d d' h1 h2 => by rw [h1] at h2; cases h2; exact .flat (hf d (lG h1))
theorem Dg (h : ks.length = ds.length) : dD enc (ks.zip ds) = .dict ((ks.map enc).zip ds) := by
 have z := nT h
 rw [pU, z.1, z.2]
theorem eH.Dh {a : WA} {C : Bool -> Nat -> List κ} (h : eH enc ks a C L) (hf : ∀ k, flat (enc k) = true) (t : Bool) : jk L (opq (a.d t)) (tY enc ks (C t)) := by
 have hd := h.dic t
 have e := h.len t
 rw [Dg (by rw [List.length_map]; exact e)] at hd
 unfold tY
 rw [Dg (by rw [List.length_map, List.length_range])]
 refine .dict hd (by rw [List.length_map, List.length_map]; exact e) (by rw [List.length_map, List.length_map, List.length_range]; exact e.symm) fun i d d' h1 h2 => ?_
 rw [List.getElem?_map] at h1 h2
 cases hb : (a.A t)[i]? with
 | none => rw [hb] at h1; cases h1
 | some b =>
  have hi := (List.getElem?_eq_some_iff.mp hb).1
  rw [hb] at h1
  rw [List.getElem?_range (by rw [e]; exact hi)] at h2
  cases h1
  cases h2
  refine vN (h.lst t i b hb) fun d hd => ?_
  obtain ⟨k, _, rfl⟩ := List.mem_map.mp hd
  exact hf k
theorem eH.Df {a : WA} {C : Bool -> Nat -> List κ} (h : eH enc ks a C L) (hf : ∀ k, flat (enc k) = true) : jk L (opq a.W) (.list [tY enc ks (C false), tY enc ks (C true)]) :=
 .list h.w rfl fun i d d' h1 h2 => by
  match i with
  | 0 => cases h1; cases h2; exact h.Dh hf false
  | 1 => cases h1; cases h2; exact h.Dh hf true
  | i + 2 => cases h1
variable [DecidableEq κ]
inductive M9 (enc : κ -> PyData) (ks : List κ) : PyData -> aP -> Prop
 | mk (a : WA) (L : aP) (st : eH enc ks a (fun _ _ => []) L) : M9 enc ks (opq a.W) L
theorem twoq (h : ∃ W d0 d1 A0 A1, ks.length = A0.length /\ ks.length = A1.length /\ d = opq W /\ L' = lu enc W d0 d1 ks A0 A1 ((A0 ++ A1).map fun a => (a, [])) /\ (L'.map (·.1)).Nodup) : M9 enc ks d L' := by
 obtain ⟨W0, d0, d1, A0, A1, h0, h1, rfl, rfl, nd⟩ := h
 exact .mk _ _ (eH.init h0 h1 nd)
theorem Di : ∀ {xs : List α} {i : Nat} {k : κ} {x : α}, ks.Nodup -> ks[i]? = some k -> xs[i]? = some x -> cj (ks.zip xs) k = some x := by
 induction ks with
 | nil => exact fun _ h => nomatch h
 | cons k0 ks ih =>
  intro xs i k x hn h g
  cases xs with
  | nil => cases g
  | cons x0 xs =>
   unfold cj at ih ⊢
   cases i with
   | zero =>
    cases h
    cases g
    simp
   | succ i =>
    have hne : k0 ≠ k := fun e => (List.nodup_cons.mp hn).1 (e ▸ lG h)
    rw [List.zip_cons_cons, List.find?_cons_of_neg (by simp [hne])]
    exact ih (List.nodup_cons.mp hn).2 h g
end
section
theorem EvD.nm {K : Type} [DecidableEq K] (dk : bh c.w K) {kx iter : Expr} {x : Str} {p lp : Pos} {scope : Scope} {pos : Pos} {ks : List K} (hI : EvI c l X env Γ false iter (ks.map dk.enc)) (hc : Cap env scope Γ Γc)
  (hek : ∀ cs C XL, ∀ k ∈ ks, Ev c l XL (aq scope cs C env) ((x, dk.enc k) :: Γc) kx (dk.enc k)) (hz : ks.length <= 10 ^ 6) (hn : ks.Nodup) (hs : autoParam (scB env scope = true) aK) (ht : autoParam (tgB scope [x] = true) aK) (ho : autoParam (offB [x] (Γc.map (·.1)) = true) aK) (hd : autoParam ((x == ("__debug__" : Str)) = false) aK)
  (hfold : autoParam (∀ x, foldedSetIterable iter env x = pure x) aI) : EvD c dk l X env Γ (.DictComp kx (.List [] lp) [⟨.Name x p, iter, [], 0⟩] scope pos) ks := .comp dk hI (fY.of hs) hc (lJ ht x (.head _)) (bC ho) hek hz hn hd hfold
noncomputable def zJ (p : Str) : Int := if decide (p = "/") = true then 0 else (Txt.count p "/")
noncomputable def vO (p q : Str) : Str := ("/" : Str) ++ Txt.join "/" (lcp (aV p) (aV q))
noncomputable def fu (early late : Str) : Bool := decide ((zJ (vO early late)).fmod 2 = 1)
structure jR (leaves : List Str) : Prop where
 nd : leaves.Nodup
 few : leaves.length <= 100
 ok : ∀ p ∈ leaves, rG p
 jn : ∀ p ∈ leaves, ∀ q ∈ leaves, JoinOk "/" (lcp (aV p) (aV q)) = true
 ln : ∀ p ∈ leaves, ∀ q ∈ leaves, (Txt.join "/" (lcp (aV p) (aV q))).length <= 500
noncomputable def wtA (leaves : List Str) (t : Bool) (j : Nat) : List Str := (leaves.take j).filter fun e => fu e (leaves.getD j "") == t
noncomputable def wtC (leaves : List Str) (p q : Nat) : Bool -> Nat -> List Str := fun t j => if j < p then wtA leaves t j else if j = p then (leaves.take q).filter fun e => fu e (leaves.getD j "") == t else []
theorem Dj (leaves : List Str) (p : Nat) (t : Bool) (j : Nat) : wtC leaves p p t j = wtC leaves (p + 1) 0 t j := by
 unfold wtC
 by_cases h1 : j < p
 ·rw [if_pos h1, if_pos (by omega)]
 ·rw [if_neg h1]
  by_cases h2 : j = p
  ·subst h2
   rw [if_pos rfl, if_pos (by omega)]; rfl
  ·rw [if_neg h2, if_neg (by omega)]
   by_cases h3 : j = p + 1
   ·rw [if_pos h3]; simp
   ·rw [if_neg h3]
theorem Dk {leaves : List Str} {p q : Nat} {e : Str} (h : leaves[q]? = some e) (t : Bool) (j : Nat) : setC (wtC leaves p q) (fu e (leaves.getD p "")) p (wtC leaves p q (fu e (leaves.getD p "")) p ++ [e]) t j = wtC leaves p (q + 1) t j := by
 unfold setC
 by_cases h2 : j = p
 ·subst h2
  unfold wtC
  simp only [Nat.lt_irrefl, if_false, if_true]
  rw [List.take_add_one, h, Option.toList_some, List.filter_append]
  by_cases h3 : t = fu e (leaves.getD j "")
  ·subst h3
   simp
  ·rw [if_neg (fun z => h3 z.1)]
   have : (fu e (leaves.getD j "") == t) = false := by simpa using fun z => h3 z.symm
   simp only [List.filter_cons, this, List.filter_nil]
   simp
 ·rw [if_neg (fun z => h2 z.2)]
  unfold wtC
  rw [if_neg h2, if_neg h2]
noncomputable abbrev ways (leaves : List Str) : PyData := .list [tY .str leaves (wtA leaves false), tY .str leaves (wtA leaves true)]
variable {mg mb : Str -> Option Value}
theorem G7 (W : Wd1 c mg mb) (hl : l < 50) {leaves : List Str} (h : jR leaves) : Fn c l "_law_waits" [sL leaves] (ways leaves) := by
 refine W.call (dr1 30) (cO (i := 14) (by kernel_rfl)) ["leaves"] (by decide +kernel) rfl (by omega) (fun pm code doc => bind1 fun a => by rfl) fun A s0 fa ad X pm code doc hX hA => ?_
 refine Ex.newX (L := []) (Δ := []) (EvX.of (EvX.two (gU _) (ks := leaves) (fun X => .nm (gU _) (.ofList (.n m0)) .nil (fun cs C XL k hk => .n m0) (Nat.le_trans h.few (by decide)) h.nd) fun X => .nm (gU _) (.ofList (.n m0)) .nil (fun cs C XL k hk => .n m0) (Nat.le_trans h.few (by decide)) h.nd) fun d L' => twoq) fun d L' hP => ?_
 obtain ⟨a, L0, S0⟩ := hP
 refine Ex.rE (Ex1.Il (L := dh leaves) (g1 := fun (i : Nat) => .int (i : Nat)) (g2 := .str) (Γ0 := [("ways", opq a.W), ("leaves", sL leaves)]) (T := []) (fun p L => eH .str leaves a (wtC leaves p 0) L)
  (.of fun X => .enum (kY (W.push ad)) (.n m1)) (S0.congr fun t i hi => ?_) (fun p h => h) hX (fun i p late L r hp hL => ?_) gb bV) fun L hL => ?_
 ·unfold wtC
  rw [if_neg (by omega)]
  split <;> simp
 ·obtain ⟨rfl, hp⟩ := eX hp
  have hplt : p < leaves.length := (List.getElem?_eq_some_iff.mp hp).1
  have hml := lG hp
  have hgd : leaves.getD p "" = late := by rw [List.getD_eq_getElem?_getD, hp]; rfl
  have hlt : (leaves.take p).length = p := by rw [List.length_take]; omega
  refine Ex.rE (Ex1.forL (ks := leaves.take p) (g := .str) (Γ0 := [("late", .str late), ("place", .int (p : Nat)), ("ways", opq a.W), ("leaves", sL leaves)]) (T := [r]) (fun q L => eH .str leaves a (wtC leaves p q) L)
   (.of fun X => .ofList ((Ev.slice (lo := none) (hi := some (p : Int)) (st := none) (.n m3) .none (.some (Ev.n m1)) .none (by simp) (by rw [List.length_map]; exact Nat.le_trans h.few (by decide))).as (by rw [fU _ _ (by rw [List.length_map]; omega), <- List.map_take]))) hL (fun p h => h) hX (fun q early L r2 hq hL => ?_)) fun L hL => ?_
  ·have hq' : leaves[q]? = some early := by
    rw [List.getElem?_take] at hq
    split at hq
    ·exact hq
    ·cases hq
   have hme := lG hq'
   refine Ex.new (d := .str (vO early late)) (.of fun X => .bN (Cv (W.push ad) (show l + 1 < 57 by omega) (h.ok _ hme) (h.ok _ hml) (h.jn _ hme _ hml) (h.ln _ hme _ hml)) (.cons (.list (.cons (.n m0) (.cons (.n m1) .nil)) (by simp)) .nil)) ?_
   refine Ex.new (d := .int (zJ (vO early late))) (.of fun X => Ev.iteI (b := decide (vO early late = "/")) (.cmp (.n m0) .str .eqS) .int (.Jq (.n m0) .str)) ?_
   have hm := Int.fmod_two_eq (zJ (vO early late))
   have hv : ([opq (a.d false), opq (a.d true)] : List PyData)[((zJ (vO early late)).fmod 2).toNat]? = some (opq (a.d (fu early late))) := by
    unfold fu
    rcases hm with e | e <;> rw [e] <;> rfl
   have hb : ∃ b, (a.A (fu early late))[p]? = some b := ⟨_, List.getElem?_eq_getElem (by rw [<- hL.len]; exact hplt)⟩
   obtain ⟨b, hb⟩ := hb
   have hk : cj (leaves.zip ((a.A (fu early late)).map opq)) late = some (opq b) := Di h.nd hp (by rw [List.getElem?_map, hb]; rfl)
   refine Ex.seq (Ex1.mF (D := b) (ds := (wtC leaves p q (fu early late) p).map .str) (d := .str early) (.Je (gU _) (.lsub (.of fun X => .n m5) (.of fun X => .binop (.n m0) .int (.mod (by decide))) hL.w (by omega) (by omega) hv rfl) (.of fun X => .n m3) (hL.dic _) hk) (.of fun X => .n m2) rfl (hL.lst _ _ _ hb) ?_) ?_
   ·rw [List.length_map]
    unfold wtC
    rw [if_neg (Nat.lt_irrefl _), if_pos rfl]
    exact Nat.le_trans (List.length_filter_le ..) (by rw [List.length_take]; have := h.few; omega)
   ·refine Ex.atW (au m3 (au m4 (au m5 (au m6 bU)))) ?_
    have u := hL.upd hb (wtC leaves p q (fu early late) p ++ [early])
    rw [List.map_append] at u
    have e := fun t j => Dk hq' (p := p) t j
    rw [hgd] at e
    exact u.congr fun t j _ => e t j
  ·rw [hlt] at hL
   exact Ex.atW (au m2 (au m3 bU)) (hL.congr fun t j _ => Dj leaves p t j)
 ·rw [eV] at hL
  refine Ex.retW hX (.of fun X => .n m0) ((hL.congr (C' := wtA leaves) fun t j hj => ?_).Df fun k => rfl) (.inl rfl)
  unfold wtC
  rw [if_pos hj]
end
noncomputable abbrev Str.le (a b : Str) : Prop := a.cps.toList <= b.cps.toList
noncomputable def leS (a b : Str) : Bool := decide (Str.le a b)
theorem dH {a b : Str} : leS a b = true ↔ Str.le a b := decide_eq_true_iff
theorem ql {a b c : Str} (h : leS a b = true) (g : leS b c = true) : leS a c = true := dH.mpr (List.le_trans (dH.mp h) (dH.mp g))
theorem zK (a b : Str) : (leS a b || leS b a) = true := by
 rcases List.le_total a.cps.toList b.cps.toList with h | h
 ·rw [dH.mpr h]; rfl
 ·rw [dH.mpr h]; exact Bool.or_true _
theorem Dm {a b : Str} (h : leS a b = true) (g : leS b a = true) : a = b := by
 have e := List.le_antisymm (dH.mp h) (dH.mp g)
 obtain ⟨x⟩ := a
 obtain ⟨y⟩ := b
 exact congrArg Str.mk (Array.toList_inj.mp e)
noncomputable def iu (ss : List Str) : List Str := ss.mergeSort leS
theorem vP (ss : List Str) : (iu ss).Perm ss := List.mergeSort_perm ..
theorem rH (ss : List Str) : (iu ss).Pairwise fun a b => leS a b = true := List.pairwise_mergeSort (le := leS) (fun a b c h g => ql h g) zK ss
theorem nU {ss ss' : List Str} (h : ss'.Perm ss) (hs : ss'.Pairwise fun a b => leS a b = true) : ss' = iu ss := List.Perm.eq_of_pairwise (fun _ _ _ _ => Dm) hs (rH ss) (h.trans (vP ss).symm)
theorem tZ {p : Str} {l : List Str} (h : risingS p l = true) : (p :: l).Pairwise fun a b => leS a b = true := by
 induction l generalizing p with
 | nil => exact List.pairwise_singleton ..
 | cons x r ih =>
  obtain ⟨h1, h2⟩ := Bool.and_eq_true_iff.mp (show (!ltCps x.cps.toList p.cps.toList && risingS x r) = true from h)
  have ih := ih h2
  rw [ltCps_eq, Bool.not_eq_true', decide_eq_false_iff_not] at h1
  have hp : leS p x = true := dH.mpr (List.not_lt.mp h1)
  exact .cons (fun y hy => (lC hy).elim (fun e => e ▸ hp) fun hy => ql hp ((List.pairwise_cons.mp ih).1 y hy)) ih
theorem uc {l : List Str} (h : sortedS l = true) : l.Pairwise fun a b => leS a b = true := by
 cases l with
 | nil => exact .nil
 | cons p l => exact tZ h
theorem ud : ∀ {vs : List Value} {ss : List Str}, RdL w X h vs (ss.map .str) -> StrsAre vs ss
 | _, [], r => by rw [r.nil_inv]; exact .nil
 | _, x :: ss, r => by
  obtain ⟨v, vs, a, q⟩ := r.cons_inv
  obtain ⟨t⟩ := a.str_inv
  exact .cons x t (ud q)
theorem Dn {ss : List Str} (a : StrsAre vs ss) : RdL w X h vs (ss.map .str) := by
 induction a with
 | nil => exact .nil
 | cons x t _ ih => exact .cons (.str x t) ih
theorem aO.sorted {ss : List Str} (hd : sU d = some (ss.map .str)) (h64 : ss.length < 64) : aO c l (.builtin "sorted") [d] (.list ((iu ss).map .str)) := fun A X s vs L B r => by
 have hz := r.bO; clear r; obtain ⟨v, r⟩ := hz
 have main : ∀ (a : Addr) (T : String) (vs : List Value) (n : Nat) (o : Obj), s.heap.get? a = some o -> o.cls = .type T -> o.data = .seq vs.toArray n -> (T = "list" \/ T = "tuple") -> RdL c.w X s.heap vs (ss.map .str) -> wpAny c.M A (call (.builtin "sorted") [.ref a]) (Yield c X s (.list ((iu ss).map .str))) NoE s := fun a T vs n o e hc hdat hT q => by
  have hS := ud q
  have hlen : vs.length = ss.length := by rw [q.length, List.length_map]
  refine Calls.call_function_entry kind_sorted plain_sorted entry_sorted (args_sorted1 _) ?_
  unfold Builtin.«sorted»
  refine wB (m := checkCount "sorted" 1 1 _) (wP ?_)
  refine wB (wpAny_collect_seq a hT e hc hdat (fun h' hk => ?_) (by rw [List.size_toArray, hlen, sizeLine_eq]; omega))
  have hnew : (h'.push (bH vs 0)).get? h'.objs.size = some (bH vs 0) := hP _ rfl
  refine wB (wpAny_newList ?_)
  refine wB (wpAny_holding (wpAny_call_entry slot_list_sort ⟨_, hnew, rfl⟩ entry_list_sort (list_sort_treeK strKind_oneLt (n := 0) (vs := vs) hnew hS.keysOf (fun v₁ v₂ rest e => keyKind_strs (by rw [<- e]; exact hS)) (by omega) fun st' hp hs => ⟨_, rfl, ?_⟩) (args_list_sort _)))
  refine wP ⟨_, rfl, ?_⟩
  obtain ⟨ss', h1, h2, h3⟩ := sorted_out_str hS hp hs
  have hss := nU h2 (uc h3)
  subst hss
  generalize hout : (arrOf st').map (·.2) = out at h1
  obtain ⟨n', he⟩ := sortedHeap_at (out := out) hnew
  have hk2 : ∀ b o', s.heap.get? b = some o' -> (sortedHeap (h'.push (bH vs 0)) h'.objs.size vs out).get? b = some o' := fun b o' hb => by
   have hb' := hk b o' hb
   have hlt : b < h'.objs.size := Heap.lt_size hb'
   rw [sortedHeap_old (Nat.ne_of_lt hlt) (by rw [size_push']; exact Nat.lt_succ_of_lt hlt), Heap.get?_push_ne _ _ _ (Nat.ne_of_lt hlt)]
   exact hb'
  have q1 : HX c [] s.heap (sortedHeap (h'.push (bH vs 0)) h'.objs.size vs out) := .cP hk2
  refine ⟨⟨_, _, q1⟩, .list (vs := out.toList) (fun z => ?_) (by rw [he]) (Dn h1)⟩
  obtain ⟨o', e'⟩ := B.alloc _ z
  exact absurd (Heap.lt_size (hk _ _ e')) (Nat.lt_irrefl _)
 rcases wH hd with rfl | rfl
 ·obtain ⟨a, vs, n, ha, e, q⟩ := r.aQ; exact main a "list" vs n _ e rfl rfl (.inl rfl) q
 ·obtain ⟨a, vs, n, ha, e, q⟩ := r.cX; exact main a "tuple" vs n _ e rfl rfl (.inr rfl) q
variable {acc : List (Str × α)} {binds : List (Str × Value)} {cl : Str -> Option Addr} {cs : List (Str × Addr)} {f name q x y : Str} {fs fs' : List (Str × PyData)} {groups : List (List Str)} {ko : Str -> Option NameKind} {loose ps xs ys : List Str} {ls us : List (Str × Tok)} {m mb mg : Str -> Option Value} {names : List (Str × NameKind)}
theorem Dp (W : Wd1 c mg mb) (hF : (F1 c.w).In c.base) : Glb c "TopologicalSorter" (.ref 137) := mY W.g (mg_of hF W.g (by kernel_rfl))
theorem Dq (W : Wd1 c mg mb) (hF : (F1 c.w).In c.base) : gO c (.ref 137) := jr hF (by kernel_rfl)
theorem Nb [DecidableEq κ] (W : Wd1 c mg mb) (hF : (F1 c.w).In c.base) (hl : l < 46) (dk : bh c.w κ) (g : List (κ × List κ)) (hz : gsz g <= 10 ^ 5) :
  FnA c l 137 [aZ dk.enc g] [] (fun d L' => ∃ x dx, d = opq x /\ x ∈ fpA L' /\ ∃ N2, Cq (sa1 x dx N2) dk.enc [(x, .inst 137 dx [] [] [])] g L') :=
 H8 (F := F1 c.w) (fI := 73) hF (by omega) (by kernel_rfl) (by kernel_rfl) (by kernel_rfl) fun x dx => Gz W hF (by omega) dk g hz
inductive Nf [DecidableEq κ] (enc : κ -> PyData) (g : List (κ × List κ)) : PyData -> aP -> Prop
 | mk (x dx N2 : Addr) (st : St κ) (L : aP) (H : Srt (sa1 x dx N2) enc st L) (ab : st.abs = bF g) (rn : st.rn = none) (po : st.po = 0) (nf : st.nf = 0) : Nf enc g (opq x) L
theorem newq [DecidableEq κ] {g : List (κ × List κ)} (h : ∃ L2, (∃ x dx, d = opq x /\ x ∈ fpA L2 /\ ∃ N2, Cq (sa1 x dx N2) enc [(x, .inst 137 dx [] [] [])] g L2) /\ L1 = L2 ++ []) : Nf enc g d L1 := by
 obtain ⟨L2, ⟨x, dx, rfl, _, N2, st, H, _, hab, b1, b2, b3⟩, e⟩ := h
 rw [e, List.append_nil]
 exact .mk x dx N2 st L2 H hab b1 b2 b3
theorem qm [DecidableEq κ] : ∀ {ks : List κ} {ns : List (PN κ)}, (fL ks ns).map (·.1) = ns.map (·.1)
 | [], _ => rfl
 | k :: ks, ns => by
  show (fL ks (upP ns k (npP (-1)))).map (·.1) = _
  exact qm.trans (xG (g := npP (-1)) fun _ => rfl)
theorem G8 [DecidableEq κ] : ∀ {ns : List (PN κ)} {n : PN κ}, n ∈ fL ks ns -> ∃ m ∈ ns, m.1 = n.1 /\ m.2.2 = n.2.2 := by
 induction ks with
 | nil =>
  intro _ n h
  exact ⟨n, h, rfl, rfl⟩
 | cons k ks ih =>
  intro ns n h
  obtain ⟨m, hm, e1, e2⟩ := ih (ns := upP ns k (npP (-1))) h
  obtain ⟨m', hm', rfl⟩ := qT hm
  refine ⟨m', hm', ?_, ?_⟩
  ·rw [<- e1]; split <;> rfl
  ·rw [<- e2]; split <;> rfl
theorem Dr : Scan (gU w) := fun k v X h r => by
 obtain ⟨t⟩ := Rd.str_inv r
 rfl
theorem uf (W : Wd1 c mg mb) : Glb c "sorted" (.builtin "sorted") := W.blt (by kernel_rfl) (by kernel_rfl)
structure cB where
 ns : List (PN Str)
 rd : List Str
 po : Int
 nf : Int
 groups : List (List Str)
noncomputable def cB.act (s : cB) : Bool := decide (s.nf < s.po) || !s.rd.isEmpty
noncomputable def cB.step (s : cB) : cB := ⟨(eZ s.rd (fL s.rd s.ns, [])).1, (eZ s.rd (fL s.rd s.ns, [])).2, s.po + s.rd.length, s.nf + s.rd.length, s.groups ++ [iu s.rd]⟩
noncomputable def cB.run : Nat -> cB -> cB
 | 0, s => s
 | n + 1, s => if s.act then cB.run n s.step else s
theorem cB.stop {s : cB} (h : s.act = false) : ∀ n, cB.run n s = s
 | 0 => rfl
 | n + 1 => by unfold cB.run; rw [h]; rfl
structure G9 (keys : List Str) (N M : Nat) (s : cB) : Prop where
 key : ∀ k ∈ s.rd, k ∈ keys
 out : ∀ (i : Nat) k, s.rd[i]? = some k -> jt (eZ (s.rd.take i) (fL s.rd s.ns, [])).1 k = -1
 ks : s.ns.map (·.1) = keys
 suk : ∀ n ∈ s.ns, ∀ x ∈ n.2.2, x ∈ keys
 sul : ∀ n ∈ s.ns, n.2.2.length <= N
 all : s.rd.length < 64
 ord : s.act = true -> s.groups.length < M
noncomputable def jT (g : List (Str × List Str)) : cB := ⟨bF g, fj (bF g), 0, 0, []⟩
set_option genInjectivity false in
set_option genSizeOf false in
structure GrP where
 c : Cfg
 l : Nat
 pm : Value
 code : Value
 doc : Value
 La : Addr
 ad : Addr
 X : List Addr
 x : Addr
 dx : Addr
 N2 : Addr
 RL : Addr
 D : Addr
 g : List (Str × List Str)
 M : Nat
 N : Nat
 I : cB -> Prop
noncomputable abbrev bK (rows : List (List Str)) : PyData := .list (rows.map sL)
noncomputable def GrP.Kx (p : GrP) : Act := cQ p.c p.l (fdOf (dr1 31) p.pm p.code p.doc) p.La p.ad p.X
noncomputable def GrP.ax (p : GrP) : SA := sa1 p.x p.dx p.N2
noncomputable def GrP.G (p : GrP) : Gam := [("sorter", opq p.x)]
noncomputable def GrP.Rx (p : GrP) : Ros := [("groups", p.D)]
noncomputable def GrP.Dl (p : GrP) (L : aP) (s : cB) : Del p.Kx := aj p.Kx.c L ++ [bL p.Kx.c p.D (bK s.groups)]
inductive GrI (p : GrP) (n : Nat) : Gam -> Ros -> Del p.Kx -> Prop
 | mk (s : cB) (st : St Str) (L : aP) (hI : p.I s) (hn : n + s.groups.length = p.M) (hrun : cB.run n s = cB.run p.M (jT p.g)) (H : Srt p.ax (gU p.c.w).enc st L) (a1 : st.abs = s.ns) (a2 : st.rn = some (p.RL, s.rd)) (a3 : st.po = s.po) (a4 : st.nf = s.nf) :
   GrI p n p.G p.Rx (p.Dl L s)
inductive GrO (p : GrP) : Out p.Kx -> Prop
 | mk (s : cB) (L : aP) (h : s.groups = (cB.run p.M (jT p.g)).groups) : GrO p (.next p.G p.Rx (p.Dl L s))
noncomputable def Ng : Expr × List Stmt := match (dr1 31).body.drop 3 with
 | .While t b _ _ :: _ => (t, b)
 | _ => (.Constant .none 0 ⟨0, 0, 0, 0⟩, [])
theorem Ds (p : GrP) (W : Wd1 (p.c.push p.La) mg mb) (hF : (F1 p.c.w).In (p.c.push p.La).base) (hl : p.l < 40) (hN : p.N <= 10 ^ 4) (hM : p.M <= 1000) (hI : ∀ s, p.I s -> G9 ((bF p.g).map (·.1)) p.N p.M s) (hs : ∀ s, p.I s -> s.act = true -> p.I s.step) {A : Around} {s0 : Shared} {n : Nat} {Γ : Gam} {R : Ros} {Δ : Del p.Kx} (hi : GrI p n Γ R Δ) :
  ∃ b, EtX p.Kx A s0 NoE Γ R Δ Ng.1 b /\ (b = true -> Ex p.Kx A s0 NoE Γ R Δ Ng.2 fun o => (∃ m Γ' R' Δ', m < n /\ (o = .next Γ' R' Δ' \/ o = .cont Γ' R' Δ') /\ GrI p m Γ' R' Δ') \/ (∃ Γ' R' Δ', o = .brk Γ' R' Δ' /\ GrO p (.next Γ' R' Δ')) \/ ∃ d, o = .ret d /\ GrO p (.ret d)) /\ (b = false -> GrO p (.next Γ R Δ)) := by
 obtain ⟨s, st, L', hIs, hn, hrun, Hs, a1, a2, a3, a4⟩ := hi
 have hp := hI s hIs
 have hrdl := hp.all
 obtain ⟨fs', t1, _, _, _, _⟩ := Hs.self
 refine ⟨s.act, EtX.of (d := .bool s.act) (EvX.of (EvX.meth (F := F1 p.c.w) (f := 106) hF (.n m0) t1 (by kernel_rfl) (by decide +kernel) (jr hF (by kernel_rfl)) (Mz W hF (show p.l + 1 < 58 by omega) (gU p.c.w) Hs a2 (by omega)) .nil) fun d L2 h => ⟨?_, h.2⟩) .bool, fun hact => ?_, fun hact => ?_⟩
 ·rw [h.1, a3, a4]; rfl
 ·have hkeys : st.keys = (bF p.g).map (·.1) := by rw [<- dz, a1, hp.ks]
  have hord := hp.ord hact
  refine Ex.newX (x := "group") (EvX.meth (F := F1 p.c.w) (f := 99) hF (.n m0) t1 (by kernel_rfl) (by decide +kernel) (jr hF (by kernel_rfl)) (GC W hF (show p.l + 1 < 55 by omega) (gU p.c.w) Hs a2 (fun k hk => by rw [hkeys]; exact hp.key k hk) (by omega)) .nil) ?_
  rintro d L2 ⟨rfl, st2, H2, hE2, d1, d2, d3, d4⟩
  have hk2 : st2.abs.map (·.1) = (bF p.g).map (·.1) := by rw [d1, qm, a1, hp.ks]
  have hk2' : st2.keys = (bF p.g).map (·.1) := by rw [<- dz, hk2]
  have hsub : ∀ n ∈ st2.nds, ∃ m ∈ s.ns, m.1 = n.k /\ m.2.2 = n.su := fun n hn => by
   have := qY hn
   rw [d1, a1] at this
   exact G8 this
  obtain ⟨fs2, u1, _, _, _, _⟩ := H2.self
  have hlN : s.rd.length * p.N <= 64 * 10 ^ 4 := Nat.mul_le_mul (by omega) hN
  refine Ex.Ja (Ex1.Ba (EvX.H9 (F := F1 p.c.w) (f := 120) hF (.n m1) u1 (by kernel_rfl) (by decide +kernel) (JK W hF (show p.l + 1 < 55 by omega) (gU p.c.w) H2 (rd := []) (ks := s.rd) d2 (fun k' hk' => ?_) (fun n hn x hx => ?_) (fun i k' hik => ?_) (N := p.N) (fun n hn => ?_) (by simp; omega) (by omega)) (fun q Δ => .FP (.of fun X => .n m0) rfl (by rw [List.length_map]; omega))) fun d L' h => h.1) fun d L5 hP5 => ?_
  ·rw [hk2']
   exact hp.key k' hk'
  ·obtain ⟨m, hm, _, e⟩ := hsub n hn
   rw [hk2']
   exact hp.suk m hm x (e ▸ hx)
  ·rw [d1, a1]
   exact hp.out i k' hik
  ·obtain ⟨m, hm, _, e⟩ := hsub n hn
   rw [<- e]
   exact hp.sul m hm
  ·obtain ⟨_, st5, H5, hE5, f1, f2, f3, f4⟩ := hP5
   refine Ex.perm List.perm_append_comm ?_
   refine Ex.seq (Ex1.append (x := "groups") (D := p.D) (ds := s.groups.map sL) (d := sL (iu s.rd)) m0 (.of fun X => .bN (.of (uf W) (aO.sorted rfl hp.all)) (.cons (.n m0) .nil)) (by rw [List.length_map]; omega)) ?_
   refine Ex.wkG (Γ' := [("sorter", opq p.x)]) (au m1 bU) ?_
   refine Ex.perm (List.perm_append_comm (l₁ := [_])) ?_
   obtain ⟨n', rfl⟩ : ∃ n', n = n' + 1 := ⟨n - 1, by omega⟩
   have fin : GrI p n' p.G p.Rx (p.Dl L5 s.step) := .mk s.step st5 L5 (hs s hIs hact) (by
     unfold cB.step
     rw [<- hn, List.length_append]
     exact (Nat.add_right_comm n' _ 1)) (by
     rw [<- hrun]
     conv => rhs; unfold cB.run
     rw [hact]; rfl) H5 (by rw [f1, d1, a1]; rfl) (by rw [f2, d1, a1]; rfl) (by rw [f3, d3, a3]; rfl) (by rw [f4, d4, a4]; rfl)
   refine .nil (.inl ⟨n', _, _, _, Nat.lt_succ_self _, .inl rfl, ?_⟩)
   unfold GrP.G GrP.Dl cB.step at fin
   rw [show bK (s.groups ++ [iu s.rd]) = .list (s.groups.map sL ++ [sL (iu s.rd)]) by simp [bK]] at fin
   exact fin
 ·exact .mk s L' (by rw [<- hrun, cB.stop hact])
theorem Dt (W : Wd1 c mg mb) (hF : (F1 c.w).In c.base) (hl : l < 40) (g : List (Str × List Str)) (hz : gsz g <= 1000) (rk : Str -> Nat) (hrk : ∀ n ∈ bF g, ∀ s ∈ n.2.2, rk s < rk n.1) (hsu : ∀ n ∈ bF g, ∀ s ∈ n.2.2, s ∈ (bF g).map (·.1))
  {N M : Nat} (hN : N <= 10 ^ 4) (hM : M <= 1000) (I : cB -> Prop) (h0 : I (jT g)) (hI : ∀ s, I s -> G9 ((bF g).map (·.1)) N M s) (hs : ∀ s, I s -> s.act = true -> I s.step) :
  Fn c l "_law_groups" [aZ .str g] (bK (cB.run M (jT g)).groups) := by
 refine W.call (dr1 31) (cO (i := 15) (by kernel_rfl)) ["waits"] (by decide +kernel) rfl (by omega) (fun pm code doc => bind1 fun a => by rfl) fun A s0 ad La X pm code doc hX hA => ?_
 have hF' : (F1 c.w).In (c.push La).base := hF
 have hlim : dK (gsz g) (bF g) := by
  have := tH (g := g) (N := 0) (ns := []) ⟨Nat.le_refl _, fun _ h => nomatch h⟩
  rwa [Nat.zero_add] at this
 show Ex _ _ _ _ _ _ (aj _ [] ++ []) _ _
 refine Ex.newX (EvX.of (EvX.cls (Dp (W.push La) hF') (Dq (W.push La) hF') (Nb (W.push La) hF' (show l + 1 < 46 by omega) (gU c.w) g (by omega)) (.one (.n m0))) fun d L1 => newq) fun d L1 hP => ?_
 obtain ⟨x, dx, N2, st, L2, H, hab, b1, b2, b3⟩ := hP
 obtain ⟨fs, s1, _, _, _, _⟩ := H.self
 have hlen : st.nds.length <= 3000 := by rw [<- jK, hab]; have := hlim.1; omega
 refine Ex.Ja (Ex1.Ba (EvX.meth (F := F1 c.w) (f := 92) hF' (.n m0) s1 (by kernel_rfl) (by decide +kernel) (jr hF' (by kernel_rfl)) (zA (W.push La) hF' (show l + 1 < 52 by omega) (gU c.w) Dr H b1 hlen (by rw [hab]; intro n hn; have := hlim.2 n hn; omega) (by rw [hab, <- dz, hab]; exact hsu) rk (by rw [hab]; exact hrk)) .nil) fun d L' h => h.1) fun d L3 hP => ?_
 obtain ⟨_, RL, st3, H3, hE3, hab3, c1, c2, c3⟩ := hP
 refine Ex.own (fun X => .nil) fun D => ?_
 refine Ex.wkG (Γ' := [("sorter", opq x)]) (au m0 bU) ?_
 refine Ex.perm (Δ' := aj _ L3 ++ [bL _ D (bK [])]) (by rw [List.append_nil]; exact List.perm_append_comm (l₁ := [_])) ?_
 refine Ex.j9 (Ex1.Jo (fun n Γ R Δ => GrI ⟨c, l, pm, code, doc, La, ad, X, x, dx, N2, RL, D, g, M, N, I⟩ n Γ R Δ) _ (fun n Γ R Δ hi => Ds _ (W.push La) hF' hl hN hM hI hs hi) M
  (.mk (jT g) st3 L3 h0 rfl rfl H3 (hab3.trans hab) (by rw [c1, hab]; rfl) (c2.trans b2) (c3.trans b3))) ?_
 rintro _ ⟨s, L', e⟩
 refine ⟨_, _, _, rfl, ?_⟩
 rw [<- e]
 refine Ex.weak (Γ' := []) (R' := [("groups", D)]) (Δ' := [bL _ D (bK s.groups)]) (fun p hp => nomatch hp) (fun p hp => hp) ?_ (Ex.freeze hX (.ret (.of fun X => .n m0) (.inl rfl)))
 exact List.sublist_append_right ..
variable {ax : Addr}
theorem iV : ∀ {ss : List Str}, (∀ x ∈ ss, PyData.strOk x = true) -> PyData.canLayAll0 (ss.map .str) = true
 | [], _ => rfl
 | n :: ns, h => by simp [PyData.canLayAll0, PyData.canLay0, iV fun x hx => h x (.tail _ hx), h n (.head _)]
theorem ug (x : Str) (ss : List Str) : ((ss.map PyData.str).any fun y => PyData.eqv y (.str x)) = decide (x ∈ ss) := by
 induction ss with
 | nil => simp
 | cons n ns ih =>
  rw [List.map_cons, List.any_cons, ih]
  by_cases h : n = x
  ·subst h; simp [PyData.eqv]
  ·have : x ≠ n := fun e => h e.symm
   simp [PyData.eqv, h, this]
theorem xM (ss : List Str) : (PyData.list (ss.map .str)).depth <= 1000 := by
 have h : PyData.depthAll (ss.map .str) <= 1 := by
  induction ss with
  | nil => simp [PyData.depthAll]
  | cons b bs ih => simp only [List.map_cons, PyData.depthAll, PyData.depth]; omega
 simp only [PyData.depth]; omega
section
theorem P2.inS {ss : List Str} (hx : PyData.strOk x = true) (hs : ∀ x ∈ ss, PyData.strOk x = true) : P2 c (compareOp .In) (.str x) (sL ss) (.bool (decide (x ∈ ss))) := by
 rw [<- ug]
 exact P2.inL hx (iV hs) (by simp [PyData.depth])
theorem P2.JZ {ss : List Str} (hx : PyData.strOk x = true) (hs : ∀ x ∈ ss, PyData.strOk x = true) : P2 c (compareOp .NotIn) (.str x) (sL ss) (.bool (!decide (x ∈ ss))) := by
 rw [<- ug]
 exact P2.uJ hx (iV hs) (by simp [PyData.depth])
theorem P2.Du {a : List Str} (hs : ∀ x ∈ a, PyData.strOk x = true) : P2 c (compareOp .NotEq) (sL a) (.list []) (.bool (!decide (a = []))) := by
 have := P2.ne (c := c) (d1 := sL a) (d2 := .list []) (iV hs) rfl (xM a)
 rw [show PyData.eqv (sL a) (.list []) = decide (a = []) by cases a <;> rfl] at this
 exact this
variable [DecidableEq κ]
theorem P2.xO (dk : bh c.w κ) {value slice : Expr} {kvs : List (κ × PyData)} {k : κ} {d : PyData} (hk : cj kvs k = some d) (hs : autoParam (∀ o i, subscripted slice false o i = operate [o, i] (getItem o i)) aU) :
  P2 c (subscriptTail value slice) (dD dk.enc kvs) (dk.enc k) d := fun l A X s v1 v2 L B r1 r2 => by
 have hz := r1.rP fun x e => by
  cases kvs with
  | nil => cases e
  | cons p kvs => exact dk.nn p.1 (Prod.mk.inj (List.cons.inj e).1).1
 clear r1
 obtain ⟨a, es, n, ha, e, ks, nd, r⟩ := hz
 have o : bT c X s.heap a (dD dk.enc kvs) := ⟨es, n, e, ks, nd, r⟩
 obtain ⟨vs, dd, rr, _⟩ := bT.toD dk o
 obtain ⟨u, hz, g⟩ := (jJ (k := k) rr).two.2.2 _ hk
 exact tail_any dd.typeIs slot_dict_getitem.lookup (wpAny_getItem_of (dk.dr c.prog k _ _ _ r2) dd.mapOf hz ⟨.tk, g⟩) (hs _ _)
theorem Ev.xO (dk : bh c.w κ) {value slice : Expr} {pos : Pos} {kvs : List (κ × PyData)} {k : κ} {d : PyData} (h1 : Ev c l X env Γ value (dD dk.enc kvs)) (h2 : Ev c l X env Γ slice (dk.enc k)) (hk : cj kvs k = some d) (hs : autoParam (∀ o i, subscripted slice false o i = operate [o, i] (getItem o i)) aU) : Ev c l X env Γ (.Subscript value slice pos) d :=
 Ev.sub h1 h2 (P2.xO dk hk hs)
end
section
variable {E : Err} [DecidableEq κ]
theorem Ex1.Fz (dk : bh K.c.w κ) {x y : Str} {np ip sp pos : Pos} {e : Expr} {D : Addr} {k : κ} {kvs : List (κ × PyData)} {d : PyData} (hx : (x, D) ∈ R) (hy : (y, dk.enc k) ∈ Γ) (h : EvS K A s0 E Γ R (bL K.c D (dD dk.enc kvs) :: Δ) e d) (hz : kvs.length <= 10 ^ 6) (hn : k ∉ kvs.map (·.1))
  (hd : autoParam ((x == ("__debug__" : Str)) = false) aD) (hd2 : autoParam ((y == ("__debug__" : Str)) = false) aD) (hs : autoParam (swapsWith e (some (.Subscript (.Name x np) (.Name y ip) sp)) pos.line K.env = pure false) aR) :
  Ex1 K A s0 E Γ R (bL K.c D (dD dk.enc kvs) :: Δ) (.Assign [.Subscript (.Name x np) (.Name y ip) sp] e pos) (bY Γ R (bL K.c D (dD dk.enc (kvs ++ [(k, d)])) :: Δ)) := fun s X S => by
 refine wpAny_Assign_Subscript (h.go S fun v s1 S1 r1 => wu S1 hx ?_ hd) hs
 obtain ⟨u, H, r⟩ := S1.good.vars _ hy
 refine wpAny_Name (H.load S1.good.kind ?_) hd2
 refine qP (L := [(D, .data (dD dk.enc kvs))]) dk S1 (.head _) r r1 hz hn fun s2 S2 => ⟨X, _, _, _, rfl, ?_⟩
 have e1 : bf [(D, cV.data (dD dk.enc kvs))] D (.data (dD dk.enc (kvs ++ [(k, d)]))) = [(D, .data (dD dk.enc (kvs ++ [(k, d)])))] := by simp [bf]
 rw [e1] at S2
 exact S2
end
noncomputable abbrev Gr := List (Str × List Str)
section
variable [DecidableEq κ]
noncomputable def cA (g : List (κ × List κ)) : List κ := g.map (·.1)
noncomputable def wG (g : List (κ × List κ)) (k : κ) : List κ := (cj g k).getD []
noncomputable def Dv (g : List (κ × List κ)) (leaf early : κ) : Bool := ((wG g leaf).filter fun late => decide (early ∈ wG g late)).isEmpty
noncomputable def dI (g : List (κ × List κ)) (leaf : κ) : List κ := (wG g leaf).filter (Dv g leaf)
noncomputable def Dw (g : List (κ × List κ)) (leaf : κ) : Bool := ((cA g).filter fun late => decide (leaf ∈ wG g late)).isEmpty
noncomputable def iy (g : List (κ × List κ)) : List κ := (cA g).filter (Dw g)
noncomputable def lk (kvs : List (κ × List (List κ))) (k : κ) : List (List κ) := (cj kvs k).getD []
noncomputable def fW (g : List (κ × List κ)) (kvs : List (κ × List (List κ))) (leaf : κ) : List (List κ) := if dI g leaf = [] then [[leaf]] else (dI g leaf).flatMap fun e => (lk kvs e).map (· ++ [leaf])
noncomputable def bJ (g : List (κ × List κ)) (L : List κ) : List (κ × List (List κ)) := L.foldl (fun kvs leaf => kvs ++ [(leaf, fW g kvs leaf)]) []
noncomputable def rI (g : List (κ × List κ)) (kvs : List (κ × List (List κ))) : List (List κ) := (iy g).flatMap (lk kvs)
theorem uh (g : List (κ × List κ)) (L : List κ) (x : κ) : bJ g (L ++ [x]) = bJ g L ++ [(x, fW g (bJ g L) x)] := by
 unfold bJ
 rw [List.foldl_append]; rfl
theorem um (g : List (κ × List κ)) (L : List κ) : ∀ (kvs : List (κ × List (List κ))), (L.foldl (fun kvs leaf => kvs ++ [(leaf, fW g kvs leaf)]) kvs).map (·.1) = kvs.map (·.1) ++ L := by
 induction L with
 | nil =>
  intro kvs
  exact (List.append_nil _).symm
 | cons x L ih =>
  intro kvs
  rw [List.foldl_cons, ih, List.map_append, List.append_assoc]; rfl
theorem ju (g : List (κ × List κ)) (L : List κ) : (bJ g L).map (·.1) = L := um g L []
end
noncomputable abbrev Lns := List (Str × List (List Str))
structure Dy (g : Gr) (groups : List (List Str)) : Prop where
 sok : ∀ k ∈ cA g, PyData.strOk k = true
 suk : ∀ k ∈ cA g, ∀ x ∈ wG g k, x ∈ cA g
 mem : ∀ k ∈ groups.flatten, k ∈ cA g
 nd : groups.flatten.Nodup
 few : (cA g).length <= 1000
 sul : ∀ k ∈ cA g, (wG g k).length <= 1000
 flt : groups.flatten.length <= 1000
 near : ∀ (i : Nat) k, groups.flatten[i]? = some k -> ∀ e ∈ dI g k, e ∈ groups.flatten.take i
 last : ∀ k ∈ iy g, k ∈ groups.flatten
 cnt : ∀ (i : Nat) k, groups.flatten[i]? = some k -> ((dI g k).flatMap (lk (bJ g (groups.flatten.take i)))).length <= 10 ^ 6
 len : ∀ (i : Nat) k, groups.flatten[i]? = some k -> ∀ e ∈ dI g k, ∀ line ∈ lk (bJ g (groups.flatten.take i)) e, line.length <= 1000
 tot : (rI g (bJ g groups.flatten)).length <= 10 ^ 6
theorem qp {kvs : List (Str × α)} {k : Str} (h : k ∈ kvs.map (·.1)) : ∃ a, cj kvs k = some a := by
 unfold cj
 cases e : kvs.find? fun p => p.1 = k with
 | none =>
  obtain ⟨p, hp, rfl⟩ := List.mem_map.mp h
  have := List.find?_eq_none.mp e p hp
  simp at this
 | some p => exact ⟨_, rfl⟩
theorem uo (f : α -> β) (kvs : List (Str × α)) (k : Str) : cj (kvs.map fun p => (p.1, f p.2)) k = (cj kvs k).map f := by
 unfold cj
 induction kvs with
 | nil => rfl
 | cons p kvs ih =>
  rw [List.map_cons]
  by_cases h : p.1 = k
  ·simp [h]
  ·simpa [h] using ih
theorem Dz (g : Gr) : aZ .str g = dD .str (g.map fun p => (p.1, sL p.2)) := by
 unfold aZ dD
 rw [List.map_map]; rfl
theorem qt (g : Gr) : aZ .str g = .dict (((cA g).map .str).zip (g.map fun p => sL p.2)) := by
 unfold aZ cA
 congr 1
 induction g with
 | nil => rfl
 | cons p g ih => rw [List.map_cons, ih]; rfl
theorem Nh {g : Gr} {k : Str} (h : k ∈ cA g) : cj (g.map fun p => (p.1, sL p.2)) k = some (sL (wG g k)) := by
 rw [uo]
 obtain ⟨a, e⟩ := qp h
 unfold wG
 rw [e]; rfl
noncomputable abbrev lnD (kvs : Lns) : PyData := dD .str (kvs.map fun p => (p.1, bK p.2))
theorem Ni {kvs : Lns} {k : Str} (h : k ∈ kvs.map (·.1)) : cj (kvs.map fun p => (p.1, bK p.2)) k = some (bK (lk kvs k)) := by
 rw [uo]
 obtain ⟨a, e⟩ := qp h
 unfold lk
 rw [e]; rfl
theorem xP (f : α -> β) (L : List α) : (!!(L.map f).isEmpty) = L.isEmpty := by cases L <;> rfl
theorem xQ : ∀ ss : List Str, noDict.noDictL (ss.map .str) = true
 | [] => rfl
 | _ :: ss => xQ ss
theorem rJ : ∀ rows : List (List Str), noDict.noDictL (rows.map sL) = true
 | [] => rfl
 | r :: rows => Bool.and_eq_true_iff.mpr ⟨xQ r, rJ rows⟩
theorem Ev.vQ {g : Gr} {k : Str} (h1 : Ev c l X env Γ value (aZ .str g)) (h2 : Ev c l X env Γ slice (.str k)) (hk : k ∈ cA g) (hs : autoParam (∀ o i, subscripted slice false o i = operate [o, i] (getItem o i)) aU) : Ev c l X env Γ (.Subscript value slice pos) (sL (wG g k)) :=
 .xO (gU c.w) (h1.as (Dz g)) h2 (Nh hk) hs
theorem Ev.Ip {kvs : Lns} {k : Str} (h1 : Ev c l X env Γ value (lnD kvs)) (h2 : Ev c l X env Γ slice (.str k)) (hk : k ∈ kvs.map (·.1)) (hs : autoParam (∀ o i, subscripted slice false o i = operate [o, i] (getItem o i)) aU) : Ev c l X env Γ (.Subscript value slice pos) (bK (lk kvs k)) :=
 .xO (gU c.w) h1 h2 (Ni hk) hs
theorem Hf (W : Wd1 c mg mb) (hl : l < 50) {g : Gr} {groups : List (List Str)} (h : Dy g groups) : Fn c l "_law_lines" [bK groups, aZ .str g] (bK (rI g (bJ g groups.flatten))) := by
 refine W.call (dr1 32) (cO (i := 16) (by kernel_rfl)) ["groups", "waits"] (by decide +kernel) rfl (by omega) (fun pm code doc => rZ fun a b => by rfl) fun A s0 fa ad X pm code doc hX hA => ?_
 have hsk : ∀ k ∈ cA g, ∀ x ∈ wG g k, PyData.strOk x = true := fun k hk x hx => h.sok x (h.suk k hk x hx)
 refine Ex.own (x := "lines") (d := lnD []) (fun X => .Cm) fun D => ?_
 refine Ex.seq (Ex1.Ao (fun _ => [("groups", bK groups), ("waits", aZ .str g)]) (fun i => bL _ D (lnD (bJ g (groups.take i).flatten))) (.of fun X => .ofList (.n m0)) (fun p h => h) hX (fun i group r hg => ?_) rfl) ?_
 ·have hpre : ∀ j leaf, group[j]? = some leaf -> groups.flatten[(groups.take i).flatten.length + j]? = some leaf /\ groups.flatten.take ((groups.take i).flatten.length + j) = (groups.take i).flatten ++ group.take j := fun j leaf hj => by
   have e : groups.flatten = (groups.take i).flatten ++ (group ++ (groups.drop (i + 1)).flatten) := by
    conv => lhs; rw [<- List.take_append_drop (i + 1) groups]
    rw [List.take_add_one, hg, Option.toList_some, List.flatten_append, List.flatten_append]
    simp
   have hjl := (List.getElem?_eq_some_iff.mp hj).1
   rw [e]
   refine ⟨?_, ?_⟩
   ·rw [List.getElem?_append_right (Nat.le_add_right ..), Nat.add_sub_cancel_left, List.getElem?_append_left hjl]
    exact hj
   ·rw [List.take_append, List.take_of_length_le (Nat.le_add_right ..), Nat.add_sub_cancel_left, List.take_append, Nat.sub_eq_zero_of_le (Nat.le_of_lt hjl)]
    simp
  have hnext : (groups.take (i + 1)).flatten = (groups.take i).flatten ++ group := by
   rw [List.take_add_one, hg, Option.toList_some, List.flatten_append]
   simp
  generalize (groups.take i).flatten = pre at hpre hnext
  refine Ex.seq (Ex1.Ao (ks := group) (g := .str) (fun _ => [("group", sL group), ("groups", bK groups), ("waits", aZ .str g)]) (fun j => bL _ D (lnD (bJ g (pre ++ group.take j)))) (.of fun X => .ofList (.n m0)) (fun p h => h) hX (fun j leaf r2 hj => ?_) rfl (by rw [List.take_zero, List.append_nil])) ?_
  ·obtain ⟨hat, htk⟩ := hpre j leaf hj
   have hmem := h.mem leaf (lG hat)
   have hnear := h.near _ leaf hat
   have hcnt := h.cnt _ leaf hat
   have hlen := h.len _ leaf hat
   rw [htk] at hnear hcnt hlen
   have hnl : leaf ∉ pre ++ group.take j := by
    rw [<- htk]
    intro z
    obtain ⟨i2, hi2⟩ := List.getElem?_of_mem z
    have hlt := (List.getElem?_eq_some_iff.mp hi2).1
    rw [List.length_take] at hlt
    have hlt := Nat.lt_of_lt_of_le hlt (Nat.min_le_left ..)
    rw [List.getElem?_take, if_pos hlt] at hi2
    exact Nat.ne_of_lt hlt (lB h.nd hi2 hat)
   have hst : lnD (bJ g (pre ++ group.take (j + 1))) = dD .str ((bJ g (pre ++ group.take j)).map (fun p => (p.1, bK p.2)) ++ [(leaf, bK (fW g (bJ g (pre ++ group.take j)) leaf))]) := by
    rw [List.take_add_one, hj, Option.toList_some, <- List.append_assoc, uh]
    unfold lnD
    rw [List.map_append]; rfl
   have hkeys := ju g (pre ++ group.take j)
   have hlen2 : (bJ g (pre ++ group.take j)).length <= 1000 := by
    rw [<- List.length_map (f := fun p : Str × List (List Str) => p.1), hkeys, <- htk]
    exact Nat.le_trans (List.length_take_le' ..) h.flt
   generalize bJ g (pre ++ group.take j) = kvs at hst hkeys hlen2 hcnt hlen ⊢
   generalize pre ++ group.take j = done at hkeys hnear hnl
   rw [hst]
   refine Ex.newC (x := "near") (d := sL (dI g leaf)) hX (fun X => EvC.oN (Γc := [("leaf", .str leaf), ("waits", aZ .str g)]) (Dv g leaf) .str bV (.ofList (.vQ (.n m3) (.n m0) hmem)) (.cons m0 (.cons m3 .nil))
    (fun cs C XL early he => Et.as (.not (Et.val (EvC.oN (Γc := [("early", .str early), ("waits", aZ .str g)]) (fun late => decide (early ∈ wG g late)) .str bV (.ofList (.vQ (.n m2) (.n m1) hmem)) (.cons m0 (.cons m2 .nil))
     (fun cs C XL late hl => .cmp (.n m1) (.vQ (.n m2) (.n m0) (h.suk _ hmem _ hl)) (.inS (hsk _ hmem _ he) (hsk _ (h.suk _ hmem _ hl)))) (fun cs C XL late hl _ => .n m0) ?_).ev (.list ?_))) (xP _ _)) (fun cs C XL early he _ => .n m0) ?_) ?_
   ·exact Nat.le_trans (h.sul _ hmem) (by decide)
   ·rw [List.length_map]
    exact Nat.le_trans (List.length_filter_le ..) (Nat.le_trans (h.sul _ hmem) (by decide))
   ·exact Nat.le_trans (h.sul _ hmem) (by decide)
   ·refine Ex.seq (Ex1.Fz (gU _) (k := leaf) (d := bK (fW g kvs leaf)) m0 m1 (EvS.view (x := "lines") (D := D) (d := lnD kvs) m0 m0 (.inr ⟨rfl, rJ _⟩) fun X =>
     (Ev.ite (b := !decide (dI g leaf = [])) (.cmp (.n m1) (.list .nil) (.Du fun x hx => hsk _ hmem x (List.mem_filter.mp hx).1)) (fun _ => (EvC.nm2 (Γc := [("lines", lnD kvs), ("leaf", .str leaf)]) (L := dI g leaf) (g := .str) (M := lk kvs) (k := sL) (fun _ line => sL (line ++ [leaf])) bV rB (.ofList (.n m1)) (.cons m0 (.cons m2 .nil))
      (fun cs C XL a ha => .ofList (.Ip (.n m1) (.n m0) (by rw [hkeys]; exact hnear a ha))) (fun cs C XL a ha b hb => (Ev.binop (.n m0) (.list (.cons (.n m3) .nil) (by simp)) (.Fi (by have := hlen a ha b hb; simp; omega))).as (by simp)) hcnt).ev) fun _ => .list (.cons (.list (.cons (.n m2) .nil) (by simp)) .nil) (by simp)).as ?_) ?_ ?_) ?_
    ·unfold fW
     by_cases z : dI g leaf = []
     ·rw [if_neg (by simp [z]), if_pos z]; rfl
     ·rw [if_pos (by simp [z]), if_neg z]
      show PyData.list _ = .list (List.map sL _)
      rw [List.map_flatMap]
      simp only [List.map_map]
      rfl
    ·rw [List.length_map]; omega
    ·rw [List.map_map]
     intro z
     exact hnl (hkeys ▸ z)
    ·exact .fin (au m2 (au m3 (au m4 bU)))
  ·rw [List.take_length, hnext]
   exact .fin (au m1 (au m2 bU))
 ·rw [List.take_length]
  have hkd : (bJ g groups.flatten).map (·.1) = groups.flatten := ju g _
  refine Ex.newC (x := "lasts") (d := sL (iy g)) hX (fun X => EvC.oN (Γc := [("waits", aZ .str g)]) (Dw g) .str bV (EvI.ofKeys (gU _) (W.push ad).sys (ks := cA g) (ds := g.map fun p => sL p.2) (by simp [cA]) ((Ev.n m1).as ?_)) (.cons m1 .nil)
   (fun cs C XL leaf he => Et.as (.not (Et.val (EvC.oN (Γc := [("leaf", .str leaf), ("waits", aZ .str g)]) (fun late => decide (leaf ∈ wG g late)) .str bV (EvI.ofKeys (gU _) (W.push ad).sys (ks := cA g) (ds := g.map fun p => sL p.2) (by simp [cA]) ((Ev.n m1).as ?_)) (.cons m0 (.cons m1 .nil))
     (fun cs C XL late hl => .cmp (.n m1) (.vQ (.n m2) (.n m0) hl) (.inS (h.sok _ he) (hsk _ hl))) (fun cs C XL late hl _ => .n m0) ?_).ev (.list ?_))) (xP _ _)) (fun cs C XL leaf he _ => .n m0) ?_) ?_
  ·exact qt g
  ·exact qt g
  ·exact Nat.le_trans h.few (by decide)
  ·rw [List.length_map]
   exact Nat.le_trans (List.length_filter_le ..) (Nat.le_trans h.few (by decide))
  ·exact Nat.le_trans h.few (by decide)
  ·have htot := h.tot
   have hlast := h.last
   unfold rI at htot ⊢
   generalize bJ g groups.flatten = kvs at hkd htot ⊢
   refine Ex.ret (EvS.view (x := "lines") (D := D) (d := lnD kvs) (r := bK ((iy g).flatMap (lk kvs))) m0 m0 (.inr ⟨rfl, rJ _⟩) fun X => (EvC.nm2 (Γc := [("lines", lnD kvs)]) (L := iy g) (g := .str) (M := lk kvs) (k := sL) (fun _ line => sL line) bV rB (.ofList (.n m1)) (.cons m0 .nil)
    (fun cs C XL a ha => .ofList (.Ip (.n m1) (.n m0) (by rw [hkd]; exact hlast a ha))) (fun cs C XL a ha b hb => .n m0) htot).ev.as ?_) (.inl rfl)
   show PyData.list _ = .list (List.map sL _)
   rw [List.map_flatMap]
theorem P2.DG {i : Int} {ch : Nat} (h0 : 0 <= i) (h1 : i < 2 ^ 63) (hx : x.cps[i.toNat]? = some ch) (hs : autoParam (∀ o i, subscripted slice false o i = operate [o, i] (getItem o i)) aU) :
  P2 c (subscriptTail value slice) (.str x) (.int i) (.str ⟨#[ch]⟩) := fun l A X s v1 v2 L B r1 r2 => by
 obtain ⟨t⟩ := r1.str_inv
 obtain ⟨u⟩ := r2.int_inv
 have hlt : i.toNat < x.length := (Array.getElem?_eq_some_iff.mp hx).1
 refine tail_any (T := "str") (typeIs_str s x t) slot_str_getitem.lookup (PyProof.Rows.getItem_str (c := ch) (by simp; omega) ?_ ⟨.tk, .str _ _⟩) (hs _ _)
 have : seqIndex? i x.length = some i.toNat := by
  unfold seqIndex?
  have hj : (if i < 0 then i + (x.length : Int) else i) = i := if_neg (by omega)
  simp only [hj]
  rw [if_pos (by simp; omega)]
 rw [this]
 exact hx
theorem Ev.DG {i : Int} {ch : Nat} (h1 : Ev c l X env Γ value (.str x)) (h2 : Ev c l X env Γ slice (.int i)) (h0 : 0 <= i) (hi : i < 2 ^ 63) (hx : x.cps[i.toNat]? = some ch) (hs : autoParam (∀ o i, subscripted slice false o i = operate [o, i] (getItem o i)) aU) : Ev c l X env Γ (.Subscript value slice pos) (.str ⟨#[ch]⟩) :=
 Ev.sub h1 h2 (P2.DG h0 hi hx hs)
theorem aO.maxI {ns : List Int} {M : Int} (hm : M ∈ ns) (hM : ∀ a ∈ ns, a <= M) : aO c l (.builtin "max") [iL ns] (.int M) := fun A X s vs L B r => by
 have hz := r.bO; clear r; obtain ⟨_, r⟩ := hz
 have hz := r.aQ; clear r; obtain ⟨a, vs, n, ha, ea, q⟩ := hz
 have hi := q.ints
 have hl : s.heap.IsList a vs.toArray := ⟨_, ea, rfl, _, rfl⟩
 obtain ⟨xs, e⟩ := hi.allInts.items
 have hns : ns = xs.toList.map (·.1) := by
  rw [<- hi.numsOf, <- nums_intItems, <- e]
 have hsz : 0 < xs.size := by
  have h3 := List.length_pos_of_mem hm; rw [hns, List.length_map, Array.length_toList] at h3; exact h3
 rw [e] at hl
 refine max_intList B.handled hl hsz fun v h' tk hv hk => ?_
 obtain ⟨t, rfl⟩ := intItems_at hv
 obtain ⟨h1, h2⟩ := argBest_gt (numAt xs) (xs.size - 1)
 have e2 : ∀ x, x ∈ ns -> (∀ a ∈ ns, a <= x) -> x = M := fun x h1 h2 => Int.le_antisymm (hM x h1) (h2 M hm)
 refine (e2 _ ?_ fun a ha => ?_) ▸ ⟨⟨h', tk, .cP hk⟩, .int _ t⟩
 ·rw [hns, numAt_eq]; exact getD_mem (by rw [List.length_map, Array.length_toList]; omega)
 ·rw [hns] at ha
  obtain ⟨j, hj, rfl⟩ := mem_getD ha
  rw [List.length_map, Array.length_toList] at hj
  rw [<- numAt_eq]; exact h2 j (by omega)
noncomputable def FnG (c : Cfg) (l : Nat) (mg : Str -> Option Value) (f : Str) (ds : List PyData) (d : PyData) : Prop := ∃ a, mg f = some (.ref a) /\ aO c l (.ref a) ds d
theorem Wd.Nj {p : Program} (W : Wd c p loose mg mb) (d : DefRec) (hd : d ∈ recsOf p) {ds : List PyData} {r : PyData} (ps : List Str) (hok : fG d.scope ps = true) (hlen : ps.length = ds.length) (hl : l < 60)
  (hbind : ∀ (pm code doc : Value) (vs : List Value), vs.length = ps.length -> bindArgs (fdOf d pm code doc) ⟨vs, []⟩ = pure (ps.zip vs))
  (h : ∀ (A : Around) (s0 : Shared) (a L : Addr) (X : List Addr) (pm code doc : Value), dg (cQ c l (fdOf d pm code doc) L a X) s0 -> (∃ outer, A.frames = some ((cQ c l (fdOf d pm code doc) L a X).env :: outer)) -> Ex (cQ c l (fdOf d pm code doc) L a X) A s0 NoE (ps.zip ds) [] [] d.body fun o => o = .ret r \/ (r = .none /\ ∃ Γ R Δ, o = .next Γ R Δ)) : FnG c l mg d.name ds r := by
 obtain ⟨a, pm, code, doc, hm, F⟩ := W.fn d hd
 exact ⟨a, hm, Al F hok hlen hl (fun vs hv => hbind pm code doc vs hv) fun A s0 L X hX hA => h A s0 a L X pm code doc hX hA⟩
theorem Nk {xs : List WData} :  WShape.hasItems [] xs .int = true -> ∃ ns : List Int, xs = ns.map .int := by
 induction xs with
 | nil =>
  intro _
  exact ⟨[], rfl⟩
 | cons x xs ih =>
  intro h
  have h' : WShape.has [] x .int = true /\ WShape.hasItems [] xs .int = true := by simpa [WShape.hasItems] using h
  obtain ⟨i, rfl⟩ := hasW_int h'.1
  obtain ⟨ns, rfl⟩ := ih h'.2
  exact ⟨i :: ns, rfl⟩
noncomputable def Np (P : Params) (h : Heap) (v : Value) : WData -> Prop
 | .int i => ∃ t, v = .int i t
 | .list xs => ∃ a vs, v = .ref a /\ h.get? a = some (bH vs 0) /\ WellAll P h vs xs
 | _ => True
theorem uq {P : Params} {d : WData} (x : Well P h v d) : Np P h v d := by
 cases x with
 | int i t => exact ⟨t, rfl⟩
 | list e w => exact ⟨_, _, rfl, e, w⟩
 | _ => trivial
theorem Hg {P : Params} {ns : List Int} : ∀ {vs : List Value}, WellAll P h vs (ns.map .int) -> RdL w X h vs (ns.map .int) := by
 induction ns with
 | nil => intro vs x; cases x; exact .nil
 | cons n ns ih =>
  intro vs x
  obtain ⟨v, us, rfl, w1, w2⟩ := wellAll_cons_inv x
  obtain ⟨t, rfl⟩ := uq w1
  exact .cons (.int _ _) (ih w2)
theorem nW {R : WRecords} {xs : List WData} (r : ReadsW R cl h (.ref a) (.list xs) as) : a ∈ as := by
 obtain ⟨b, _, _, e, _, _, rfl⟩ := readsW_list_inv r
 exact Value.ref.inj e ▸ .head _
theorem J1 {R : WRecords} {P : Params} {vals : List Value} {ns : List Int} (hrd : ReadsAllW R cl h vals [.list (ns.map .int)] as) (hwl : WellAll P h vals [.list (ns.map .int)]) (hlo : ∀ a ∈ as, (a == sysModules) = false) : RdL w [sysModules] h vals [iL ns] := by
 obtain ⟨v, us, rfl, w1, w2⟩ := wellAll_cons_inv hwl
 obtain ⟨a, vs, rfl, e, w3⟩ := uq w1
 cases w2
 cases hrd with
 | cons r _ =>
  refine .cons (.list (fun hx => ?_) e (Hg w3)) .nil
  have := hlo _ (lL _ (nW r))
  rw [lS hx] at this
  cases this
theorem holds_of {t : WTm} {e : WCtx} (h : t.value [] e = some (.bool b)) (g : t.holds [] e = true) : b = true := by
 rw [<- g]; delta WTm.holds; rw [h]; cases b <;> rfl
theorem lenW {xs : List WData} (h : (WTm.and (.not (.lt (.lit (.int 63)) (.len (.arg 0)))) (.lit (.bool true))).holds [] { args := [.list xs] } = true) : xs.length <= 63 := by
 have := (holds_andW h).1
 have e : (WTm.lt (.lit (.int 63)) (.len (.arg 0))).value [] { args := [.list xs] } = some (.bool (decide ((63 : Int) < (xs.length : Int)))) := w_lt w_lit (by rfl)
 have g : ((!decide ((63 : Int) < (xs.length : Int))) : Bool) = true := holds_of (w_not e) this
 exact Int.ofNat_le.mp ((@Int.not_lt 63 _).mp (of_decide_eq_false ((Bool.not_eq_true' _).mp g)))
theorem lev0 : Lev 0 callerA := by
 refine ⟨?_, ?_, by decide⟩
 ·show 1 + claimMargin <= 400 + 0
  decide +kernel
 ·show 4 <= 100 + 8 * 0
  decide
theorem join {l : OpenLaw} {q : Program} {d : DefRec} (hm : l.most = some 63) (hb : l.bound = none) (hsys : ∀ w h, YP w h -> ∃ o, h.get? sysModules = some o)
  (h : ∀ (c : Cfg) (mg mb : Str -> Option Value), c.prog = l.prog -> YP c.w c.base -> Wd c q (looseW q loose) mg mb -> ∀ script : List Int, script.length <= 63 -> FnG c 0 mg d.name [iL script] (.bool true)) :
  WalkO q loose (fun _ _ => True) YP l.row.toRowW d [] fun f vs => PySem.call f vs := by
 intro w s₀ s₁ mg mb G Y fa o pm cd doc dV kV ho hd hcd hD hmg hg args vals as hpre hlay hrd hwl hlo
 obtain ⟨hsh, hcond⟩ := pre_splitW hpre
 obtain ⟨d0, r0, rfl, h1, h2⟩ := hasAllW_cons hsh
 obtain rfl := hasAllW_nil h2
 obtain ⟨xs, rfl, h3⟩ := hasW_list h1
 obtain ⟨ns, rfl⟩ := Nk h3
 have hlen : ns.length <= 63 := by
  have e : l.row.toRowW.pre = WTm.and (.not (.lt (.lit (.int 63)) (.len (.arg 0)))) (.lit (.bool true)) := by
   show l.pre = _
   unfold OpenLaw.pre
   rw [hm, hb]
   rfl
  rw [e] at hcond
  have := lenW hcond
  rwa [List.length_map] at this
 obtain ⟨o1, ho1⟩ := hsys w _ Y
 let c : Cfg := { prog := l.prog, w := w, base := s₁.heap, fr := [sysModules] }
 have W : Wd c q (looseW q loose) mg mb := {
  sys := .head _
  g := G.T.g
  b := G.T.b
  builtins := G.T.builtins
  free := G.T.free
  fn := fun d hd => by
   obtain ⟨a, o, pm, code, doc, e1, e2, e3, e4⟩ := G.T.fn d hd
   exact ⟨a, pm, code, doc, e1, ⟨⟨o, e2, e3⟩, e4, G.T.nolimit, rfl, rfl, rfl, rfl⟩⟩ }
 obtain ⟨a, ea, hcall⟩ := h c mg mb rfl Y W ns hlen
 rw [hmg] at ea
 obtain rfl : fa = a := by injection ea with e; injection e
 have hB : Bas c callerA [sysModules] s₁.heap := ⟨rfl, ⟨[], below_caller _, fun env he => nomatch he⟩, fun a ha => by rw [lS ha]; exact ⟨o1, ho1⟩, fun a ha => ha⟩
 refine wM (hcall callerA [sysModules] s₁ vals lev0 hB (J1 hrd hwl hlo)) (fun v s' hq => ?_) fun _ _ f => f.elim
 obtain ⟨⟨h', tk, q⟩, r⟩ := hq
 rw [r.bool_inv]
 refine ⟨Or.inl ⟨_, WData.bool true, [], rfl, raisesW_false (r := l.row.toRowW) (fun ct h => by cases h), ReadsW.bool true, ?_, fun _ => ⟨List.Pairwise.nil, fun _ h => nomatch h⟩⟩, ⟨fun b o e => .inl (q.st (fun _ _ e => e) b o e), fun b o e => ⟨o, q.st (fun _ _ e => e) b o e⟩⟩, rfl, .of_eq hg⟩
 exact postW_of (r := l.row.toRowW) (X := (true == true)) (by rfl) (w_eq_bool (w_res rfl) w_lit) rfl
theorem vR (xs : List α) (i : Nat) : mX xs none (some (i : Int)) none = xs.take i := by
 by_cases h : i <= xs.length
 ·exact fU xs i h
 ·have e : sliceBounds none (some (i : Int)) none xs.length = sliceBounds none (some (xs.length : Int)) none xs.length := by
   simp only [sliceBounds, Option.getD_none]
   rw [if_neg (show ¬ ((i : Int) < 0) from by omega), if_neg (show ¬ ((xs.length : Int) < 0) from by omega)]
   simp
   omega
  have h2 := fU xs xs.length (Nat.le_refl _)
  unfold mX at h2 ⊢
  rw [e, h2, List.take_length, List.take_of_length_le (by omega)]
theorem nY (g : β -> PyData) (f : α -> β) (L : List α) : PyData.list (L.map fun a => g (f a)) = .list ((L.map f).map g) := congrArg PyData.list List.map_map.symm
theorem xR (n : Int) : dY (jP n 7) where
 len := CK n 7
 le := fun i u h => by
  unfold jP at h
  rw [List.getElem?_map] at h
  cases e : (List.range 7)[i]? with
  | none => rw [e] at h; cases h
  | some j =>
   rw [e] at h
   obtain ⟨hj, rfl⟩ := List.getElem?_eq_some_iff.mp e
   cases h
   rw [List.getElem_range]
   have h1 := Int.fmod_nonneg_of_pos (zB n i) (b := (i : Int) + 1) (by omega)
   have h2 := Int.fmod_lt_of_pos (zB n i) (b := (i : Int) + 1) (by omega)
   exact ⟨h1, Int.le_of_lt_add_one h2⟩
noncomputable def cW (script : List Int) : List Int := (script.take 12).map fun i => i.fmod 1000000
noncomputable def vU (script : List Int) : Int := 63 + ((dh (cW script)).map fun z => z.2 * ((z.1 : Int) + 1)).sum
noncomputable def bG (p : Nat) : Str := ⟨#[97 + p]⟩
noncomputable def aB (ups : List Int) : Nat -> List Str
 | 0 => ["/"]
 | k + 1 => aB ups k ++ [cM ((aB ups k).getD (ups.getD k 0).toNat "") (bG k)]
theorem bZ (ups : List Int) : ∀ k, (aB ups k).length = k + 1
 | 0 => rfl
 | k + 1 => by unfold aB; rw [List.length_append, bZ ups k]; rfl
theorem qu (p b : Str) : (cM p b).length <= p.length + 1 + b.length := by
 have app : ∀ x y : Str, (x ++ y).length = x.length + y.length := fun x y => Array.size_append ..
 have h1 : ("/" : Str).length = 1 := by decide
 unfold cM
 split
 ·omega
 ·split
  ·rw [app]; omega
  ·rw [app, app]; omega
theorem gD (ups : List Int) : ∀ k, ∀ p ∈ aB ups k, p.length <= 1 + 2 * k
 | 0, p, hp => by rw [lS hp]; decide
 | k + 1, p, hp => by
  unfold aB at hp
  rcases lA hp with hp | hp
  ·have := gD ups k p hp
   omega
  ·rw [lS hp]
   have h1 := qu ((aB ups k).getD (ups.getD k 0).toNat "") (bG k)
   have h2 : ((aB ups k).getD (ups.getD k 0).toNat "").length <= 1 + 2 * k := by
    rw [List.getD_eq_getElem?_getD]
    cases e : (aB ups k)[(ups.getD k 0).toNat]? with
    | none => show ("" : Str).length <= _; exact Nat.le_trans (by decide) (Nat.le_add_right 1 _)
    | some q => exact gD ups k q (lG e)
   have h3 : (bG k).length = 1 := rfl
   omega
theorem zL {p : Nat} (h : p < 7) : ("abcdefg" : Str).cps[p]? = some (97 + p) := by
 have : ∀ p : Nat, p < 7 -> ("abcdefg" : Str).cps[p]? = some (97 + p) := by decide +kernel
 exact this p h
noncomputable def bA (ups : List Int) : List Str := iu (((List.range 8).filter fun (i : Nat) => !decide ((i : Int) ∈ ups)).map fun i => (aB ups 7).getD i "")
noncomputable def gB (leaves : List Str) (t : Bool) : Gr := leaves.zip ((List.range leaves.length).map (wtA leaves t))
theorem qw (ks : List Str) (C : Nat -> List Str) : tY .str ks C = aZ .str (ks.zip ((List.range ks.length).map C)) := by
 unfold tY aZ dD
 congr 1
 rw [show (fun i => PyData.list ((C i).map .str)) = (fun l : List Str => PyData.list (l.map .str)) ∘ C from rfl, <- List.map_map, List.zip_map_right, List.map_map]
 rfl
theorem jU (leaves : List Str) (t : Bool) : cA (gB leaves t) = leaves := (nT (by rw [List.length_map, List.length_range])).1
inductive nZ (g : Gr) : List (List Str) -> Prop
 | mk (rk : Str -> Nat) (N M : Nat) (I : cB -> Prop) (h1 : gsz g <= 1000) (h2 : ∀ n ∈ bF g, ∀ s ∈ n.2.2, rk s < rk n.1) (h3 : ∀ n ∈ bF g, ∀ s ∈ n.2.2, s ∈ (bF g).map (·.1)) (h4 : N <= 10 ^ 4) (h5 : M <= 1000) (h6 : I (jT g)) (h7 : ∀ s, I s -> G9 ((bF g).map (·.1)) N M s) (h8 : ∀ s, I s -> s.act = true -> I s.step) : nZ g (cB.run M (jT g)).groups
noncomputable def jd (leaves : List Str) (t : Bool) (groups : List (List Str)) : List (List Str) := rI (gB leaves t) (bJ (gB leaves t) groups.flatten)
noncomputable def cT (t : Bool) : Int := if t then 1 else 0
noncomputable def lU (ups : List Int) (t : Bool) : List (List Str) := (cu ups (cT t) 8 0 0).map fun line => line.map fun node => (aB ups 7).getD node.toNat ""
noncomputable def DK (leaves : List Str) : Gr := leaves.map fun leaf => (leaf, wG (gB leaves false) leaf ++ leaves.filter fun late => decide (leaf ∈ wG (gB leaves true) late))
structure xT (ups : List Int) (leaves : List Str) (groups : Bool -> List (List Str)) : Prop where
 lv : jR leaves
 grp : ∀ t, nZ (gB leaves t) (groups t)
 ln : ∀ t, Dy (gB leaves t) (groups t)
 fl1 : ∀ t, iJ ((jd leaves t (groups t)).map sL)
 fl2 : ∀ t, iJ ((lU ups t).map sL)
 cmp : ∀ t, tC ((jd leaves t (groups t)).map sL) ((lU ups t).map sL) = true
 mx : ∀ t, ((groups t).length : Int) ∈ (lU ups t).map (fun line => (line.length : Int)) /\ ∀ a ∈ (lU ups t).map (fun line => (line.length : Int)), a <= (groups t).length
 anti : ∀ t, ∀ group ∈ groups t, ∀ (place : Nat) late, group[place]? = some late -> late ∈ leaves /\ (group.take place).filter (fun early => !decide (early ∈ wG (gB leaves (!t)) late)) = []
 cross : ∀ one ∈ jd leaves false (groups false), ∀ other ∈ jd leaves true (groups true), (one.filter fun leaf => decide (leaf ∈ other)).length = 1
 gl : ∀ t, (groups t).length <= 100
 sk : ∀ k ∈ leaves, PyData.strOk k = true
 gk : ∀ t, ∀ group ∈ groups t, group.length <= 100 /\ ∀ k ∈ group, k ∈ leaves
 le : ∀ t, ∀ line ∈ jd leaves t (groups t), line.length <= 1000 /\ ∀ k ∈ line, k ∈ leaves
 pk : ∀ p ∈ aB ups 7, PyData.strOk p = true
 tn : ∀ t, ∀ line ∈ cu ups (cT t) 8 0 0, ∀ n ∈ line, 0 <= n /\ n <= 7
 wn : ∀ n ∈ bR ups 8 0 0, 0 <= n /\ n <= 7
 both : nZ (DK leaves) ((bR ups 8 0 0).map fun node => [(aB ups 7).getD node.toNat ""])
theorem J3 (W : Wd1 c mg mb) : Glb c "int" (.type "int") := W.blt (by kernel_rfl) (by kernel_rfl)
theorem J4 (W : Wd1 c mg mb) : Glb c "sum" (.builtin "sum") := W.blt (by kernel_rfl) (by kernel_rfl)
theorem xU (W : Wd1 c mg mb) (hF : (F1 c.w).In c.base) (hl : l < 40) {g : Gr} {groups : List (List Str)} (h : nZ g groups) : Fn c l "_law_groups" [aZ .str g] (bK groups) := by
 obtain ⟨rk, N, M, I, h1, h2, h3, h4, h5, h6, h7, h8⟩ := h
 exact Dt W hF hl g h1 rk h2 h3 h4 h5 I h6 h7 h8
theorem xV : ∀ {rows : List (List Str)}, (∀ r ∈ rows, ∀ x ∈ r, PyData.strOk x = true) -> PyData.canLayAll0 (rows.map sL) = true
 | [], _ => rfl
 | n :: ns, h => by
  have h1 := iV (h n (.head _))
  have h2 := xV fun r hr => h r (.tail _ hr)
  simp [PyData.canLayAll0, PyData.canLay0, h1, h2]
theorem Hh (rows : List (List Str)) : (bK rows).depth <= 1000 := by
 have hs : ∀ ss : List Str, PyData.depthAll (ss.map .str) <= 1 := fun ss => by
  induction ss with
  | nil => simp [PyData.depthAll]
  | cons b bs ih => simp only [List.map_cons, PyData.depthAll, PyData.depth]; omega
 have h : PyData.depthAll (rows.map sL) <= 3 := by
  induction rows with
  | nil => simp [PyData.depthAll]
  | cons b bs ih => have := hs b; simp only [List.map_cons, PyData.depthAll, PyData.depth]; omega
 simp only [PyData.depth]; omega
noncomputable abbrev n8 (leaves : List Str) (groups : Bool -> List (List Str)) (i : Nat) : PyData := .list (([false, true].take i).map fun t => bK (jd leaves t (groups t)))
noncomputable abbrev Hi (ups cells : List Int) (leaves : List Str) : Gam := [("ways", .list [aZ .str (gB leaves false), aZ .str (gB leaves true)]), ("leaves", sL leaves), ("paths", sL (aB ups 7)), ("ups", iL ups), ("cells", iL cells)]
noncomputable abbrev Nq (ups cells : List Int) (leaves : List Str) (groups : Bool -> List (List Str)) (t : Bool) : Gam := ("lines", bK (jd leaves t (groups t))) :: ("groups", bK (groups t)) :: ("turn", .int (cT t)) :: Hi ups cells leaves
noncomputable abbrev J5 (ups cells : List Int) (leaves : List Str) (groups : Bool -> List (List Str)) : Gam := ("found", .list [bK (jd leaves false (groups false)), bK (jd leaves true (groups true))]) :: Hi ups cells leaves
theorem Nr (W : Wd1 c mg mb) (hF : (F1 c.w).In c.base) (hl : l < 30) (script : List Int) (hz : script.length <= 1000) {groups : Bool -> List (List Str)} (h : xT (jP (vU script) 7) (bA (jP (vU script) 7)) groups) : FnG c l mg "law" [iL script] (.bool true) := by
 refine W.Nj (dr1 33) (cO (i := 17) (by kernel_rfl)) ["script"] (by decide +kernel) rfl (by omega) (fun pm code doc => bind1 fun a => by rfl) fun A s0 fa ad X pm code doc hX hA => ?_
 have Wp := W.push ad
 have hF' : (F1 c.w).In (c.push ad).base := hF
 refine Ex.newC hX (fun X => ((EvC.nm (Γc := []) (L := script.take 12) (g := .int) (fun i => .int (i.fmod 1000000)) f9
  (.ofList ((Ev.slice (lo := none) (hi := some (12 : Int)) (st := none) (.n m0) .none (.some Ev.int) .none (by simp) (by simp; omega)).as (congrArg PyData.list ((vR (script.map PyData.int) 12).trans List.map_take.symm)))) .nil
  (fun cs C XL a ha => (Ev.binop (.bN (.ofT (J3 Wp) .int) (.cons (.n m0) .nil)) (.binop .int .int (.pow (by decide) (by decide) (by decide))) (.mod (by decide))).as rfl) (by simp; omega)).as (d' := iL (cW script)) (nY .int _ _))) ?_
 refine Ex.new (d := iL (jP (vU script) 7)) (.of fun X => .bN (M5 Wp (show l + 1 < 58 by omega) (vU script)) (.cons (.binop .int (.bN (.of (J4 Wp) .sum) (.cons ((EvC.pr (L := dh (cW script)) (g1 := fun (i : Nat) => .int (i : Nat)) (g2 := .int) (Γc := []) (fun (p : Nat) (s : Int) => .int (s * ((p : Int) + 1))) gb f9
  (.enum (L := cW script) (g := .int) (kY Wp) (.n m0)) .nil (fun cs C XL p s hm => .binop (.n m0) (.binop (.n m1) .int .add) (.mul ?_)) (by rw [eV]; simp [cW]; omega)).ev.as (nY .int _ _)) .nil)) .add) .nil)) ?_
 ·obtain ⟨i, hi⟩ := List.getElem?_of_mem hm
  obtain ⟨rfl, hc⟩ := eX hi
  have hlt := (List.getElem?_eq_some_iff.mp hc).1
  have hc2 : (cW script).length <= 12 := by unfold cW; rw [List.length_map, List.length_take]; omega
  exact .of_right (intBits_le_64 (by omega) (by omega))
 have hups := xR (vU script)
 generalize jP (vU script) 7 = ups at hups h ⊢
 refine Ex.own (x := "paths") (d := sL (aB ups 0)) (fun X => .list (.cons .str .nil) (by simp [aB])) fun D => ?_
 refine Ex.seq (Ex1.HS (L := dh ups) (g1 := fun (i : Nat) => .int (i : Nat)) (g2 := .int) (fun _ => [("ups", iL ups), ("cells", iL (cW script))]) (fun i => [bL _ D (sL (aB ups i))])
  (.of fun X => .enum (kY Wp) (.n m0)) (au m0 (au m1 bU)) hX (fun i p up r hd => ?_) ((eV ups).trans hups.len) gb f9) ?_
 ·obtain ⟨e, hu⟩ := eX hd
  subst e
  have hp7 : p < 7 := by have := (List.getElem?_eq_some_iff.mp hu).1; rw [hups.len] at this; exact this
  have hle := hups.le p up hu
  have hgd : ups.getD p 0 = up := by rw [List.getD_eq_getElem?_getD, hu]; rfl
  have hlt : up.toNat < (aB ups p).length := by rw [bZ]; omega
  have hat : (aB ups p)[up.toNat]? = some ((aB ups p).getD up.toNat "") := by rw [List.getD_eq_getElem?_getD, List.getElem?_eq_getElem hlt]; rfl
  have hsm := gD ups p _ (lG hat)
  have hst : sL (aB ups (p + 1)) = .list ((aB ups p).map .str ++ [.str (cM ((aB ups p).getD up.toNat "") (bG p))]) := by
   show PyData.list (List.map _ (aB ups p ++ [cM ((aB ups p).getD (ups.getD p 0).toNat "") (bG p)])) = _
   rw [hgd, List.map_append]; rfl
  have hln := bZ ups p
  rw [hst]
  generalize (aB ups p).getD up.toNat "" = q at hat hsm ⊢
  refine Ex.perm (List.Perm.swap ..) ?_
  refine Ex.seq (Ex1.append (x := "paths") (D := D) (ds := (aB ups p).map .str) (d := .str (cM q (bG p))) m0 (EvS.view (x := "paths") (D := D) (d := sL (aB ups p)) m0 m0 (.inl rfl) fun X => .bN (Jy Wp (show l + 1 < 58 by omega) q [bG p] (by simp) (fun b hb => ?_) (fun k => ?_)) (.cons (.item (i := up) (.n m0) (.n m1) hle.1 (by omega) (by rw [List.getElem?_map, hat]; rfl)) (.cons (.DG (i := (p : Int)) .str (.n m2) (by omega) (by omega) (by rw [Int.toNat_natCast]; exact zL hp7)) .nil))) (by rw [List.length_map]; omega)) ?_
  ·rw [lS hb]; exact Nat.le_trans (Nat.le_of_eq (show (bG p).length = 1 from rfl)) (by decide)
  ·have h1 := qu q (bG p)
   have h3 : (bG p).length = 1 := rfl
   cases k with
   | zero => show q.length <= 500; omega
   | succ k => rw [List.take_succ_cons, List.take_nil]; show (cM q (bG p)).length <= 500; omega
  ·exact Ex.perm (List.Perm.swap ..) (.fin (au m2 (au m3 bU)))
 refine Ex.freeze hX ?_
 have hpl := bZ ups 7
 refine Ex.new (d := sL (bA ups)) (.of fun X => .bN (.of (uf Wp) (.sorted (ss := ((List.range 8).filter fun (i : Nat) => !decide ((i : Int) ∈ ups)).map fun i => (aB ups 7).getD i "") rfl ?_)) (.cons ((EvC.oN (Γc := [("paths", sL (aB ups 7)), ("ups", iL ups)]) (L := List.range 8) (g := fun (i : Nat) => .int (i : Nat)) (fun (i : Nat) => !decide ((i : Int) ∈ ups)) (fun i => .str ((aB ups 7).getD i "")) gb (.range (n := 8) (rC Wp) .int (by decide)) (.cons m0 (.cons m1 .nil))
  (fun cs C XL i hi => .cmp (.n m0) (.n m2) .I4) (fun cs C XL i hi _ => .item (i := (i : Int)) (.n m1) (.n m0) (by omega) ?_ ?_) ?_).ev.as (nY .str _ _)) .nil)) ?_
 ·rw [List.length_map]
  exact Nat.lt_of_le_of_lt (List.length_filter_le ..) (by decide)
 ·have := List.mem_range.mp hi
  omega
 ·have h8 := List.mem_range.mp hi
  rw [Int.toNat_natCast, List.getElem?_map, List.getD_eq_getElem?_getD, List.getElem?_eq_getElem (show i < (aB ups 7).length by rw [hpl]; exact h8)]
  rfl
 ·decide
 refine Ex.new (d := .list [aZ .str (gB (bA ups) false), aZ .str (gB (bA ups) true)]) (.of fun X => (Ev.bN (G7 Wp (show l + 1 < 50 by omega) h.lv) (.cons (.n m0) .nil)).as (by show PyData.list _ = _; rw [qw, qw]; rfl)) ?_
 generalize hleaves : bA ups = leaves at h ⊢
 refine Ex.own (x := "found") (d := .list []) (fun X => .nil) fun D => ?_
 show Ex _ _ _ _ (Hi ups (cW script) leaves) [("found", D)] [bL _ D (n8 leaves groups 0)] _ _
 refine Ex.seq (Ex1.Ao (n := 2) (fun _ => Hi ups (cW script) leaves) (fun i => bL _ D (n8 leaves groups i)) (.of fun X => EvI.range (n := 2) (rC Wp) .int (by decide)) (fun p h => h) hX (fun i k r hk => ?_) rfl) ?_
 ·obtain ⟨hi, e⟩ := List.getElem?_eq_some_iff.mp hk
  rw [List.getElem_range] at e
  cases e
  rw [List.length_range] at hi
  obtain ⟨t, ht, hf⟩ : ∃ t, cT t = (i : Int) /\ n8 leaves groups (i + 1) = .list ((([false, true].take i).map fun t => bK (jd leaves t (groups t))) ++ [bK (jd leaves t (groups t))]) := by
   have : i = 0 \/ i = 1 := by omega
   rcases this with rfl | rfl
   ·exact ⟨false, rfl, rfl⟩
   ·exact ⟨true, rfl, rfl⟩
  have hw : ∀ u : Bool, ([aZ .str (gB leaves false), aZ .str (gB leaves true)] : List PyData)[(cT u).toNat]? = some (aZ .str (gB leaves u)) := fun u => by cases u <;> rfl
  have hz0 : ∀ u : Bool, 0 <= cT u /\ cT u < 2 := fun u => by cases u <;> decide
  rw [hf, <- ht]
  have h0 := hz0 t
  refine Ex.new (d := bK (groups t)) (.of fun X => .bN (xU Wp hF' (show l + 1 < 40 by omega) (h.grp t)) (.cons (.item (i := cT t) (.n m1) (.n m0) h0.1 (by omega) (hw t)) .nil)) ?_
  refine Ex.new (d := bK (jd leaves t (groups t))) (.of fun X => .bN (Hf Wp (show l + 1 < 50 by omega) (h.ln t)) (.cons (.n m0) (.cons (.item (i := cT t) (.n m2) (.n m1) h0.1 (by omega) (hw t)) .nil))) ?_
  refine Ex.newC (d := bK (lU ups t)) hX (fun X => (EvC.nm (Γc := [("paths", sL (aB ups 7))]) (L := cu ups (cT t) 8 0 0) (g := iL) (fun line => sL (line.map fun node => (aB ups 7).getD node.toNat "")) vH (.ofList (.bN (JX hups (by cases t; exact .inl rfl; exact .inr rfl) 8 Wp (show l + 1 + 8 < 50 by omega) 0 0 (by decide) (by decide) (by decide)) (.cons .int (.cons .int (.cons (.n m2) (.cons (.n m6) .nil)))))) (.cons m5 .nil)
   (fun cs C XL line hline => (EvC.nm (Γc := [("paths", sL (aB ups 7))]) (L := line) (g := .int) (fun node => .str ((aB ups 7).getD node.toNat "")) f9 (.ofList (.n m0)) (.cons m1 .nil)
    (fun cs C XL node hn => .item (i := node) (.n m1) (.n m0) (h.tn t line hline node hn).1 ?_ ?_) ?_).ev.as (nY .str _ _)) ?_).as (nY sL _ _)) ?_
  ·have := (h.tn t line hline node hn).2
   omega
  ·have hn7 := h.tn t line hline node hn
   rw [List.getElem?_map, List.getD_eq_getElem?_getD, List.getElem?_eq_getElem (show node.toNat < (aB ups 7).length by rw [hpl]; omega)]
   rfl
  ·exact Nat.le_trans (iU hups 8 0 0 line hline) (by decide)
  ·have := (h.fl2 t).len
   unfold lU at this
   rw [List.length_map, List.length_map] at this
   omega
  have hlen : ∀ rows : List (List Str), rows.length <= 10 ^ 5 -> Fn (c.push ad) (l + 1) "len" [bK rows] (.int (rows.length : Nat)) := fun rows hr => by
   have := Fn.of (qd Wp) (aO.Fg (l := l + 1) (ds := rows.map sL) (by rw [List.length_map]; omega))
   rw [List.length_map] at this
   exact this
  have hlen1 : ∀ row : List Str, row.length <= 10 ^ 5 -> Fn (c.push ad) (l + 1) "len" [sL row] (.int (row.length : Nat)) := fun row hr => by
   have := Fn.of (qd Wp) (aO.Fg (l := l + 1) (ds := row.map .str) (by rw [List.length_map]; omega))
   rw [List.length_map] at this
   exact this
  refine Ex.seq (Γ1 := _) (R1 := _) (Δ1 := _) (Ex1.ite (b := false) (EtS.of fun X => (Et.or2 (.not (Et.val (.bN (Mq Wp (show l + 1 < 59 by omega) (h.fl1 t) (h.fl2 t)) (.cons (.n m1) (.cons (.n m0) .nil))) .bool)) fun _ => .cmp (.bN (hlen (groups t) ?_) (.cons (.n m2) .nil)) (.bN (.of (Io Wp) (.maxI (h.mx t).1 (h.mx t).2)) (.cons ((EvC.nm (Γc := []) (L := lU ups t) (g := sL) (fun line => .int (line.length : Nat)) rB (.ofList (.n m0)) .nil (fun cs C XL line hline => .bN (hlen1 line ?_) (.cons (.n m0) .nil)) ?_).ev.as (nY .int _ _)) .nil)) .neI).as ?_) (fun h => by cases h) fun _ => .nil rfl) ?_
  ·have := h.gl t
   omega
  ·obtain ⟨line', hl', rfl⟩ := List.mem_map.mp hline
   rw [List.length_map]
   exact Nat.le_trans (iU hups 8 0 0 line' hl') (by decide)
  ·have := (h.fl2 t).len
   rw [List.length_map] at this
   omega
  ·rw [h.cmp t]
   simp
  refine Ex.seq (Ex1.yD (n := (groups t).length) (fun _ => Nq ups (cW script) leaves groups t) (fun _ => [bL _ D (n8 leaves groups i), r]) (.of fun X => .ofList (.n m2)) (fun p hp => .tail _ hp) hX (fun j group r2 hg => ?_) rfl) ?_
  ·have hgm := lG hg
   have hgk := h.gk t group hgm
   refine Ex.seq (Ex1.HS (L := dh group) (g1 := fun (i : Nat) => .int (i : Nat)) (g2 := .str) (fun _ => ("group", sL group) :: Nq ups (cW script) leaves groups t) (fun _ => [r2, bL _ D (n8 leaves groups i), r]) (.of fun X => .enum (kY Wp) (.n m0)) (fun p h => h) hX (fun k p late r3 hd => ?_) rfl gb bV) (.fin fun p hp => .tail _ hp)
   ·obtain ⟨e, hl8⟩ := eX hd
    subst e
    have ha := h.anti t group hgm p late hl8
    have hmem : late ∈ cA (gB leaves (!t)) := by rw [jU]; exact ha.1
    have hlk : ∀ x ∈ wG (gB leaves (!t)) late, PyData.strOk x = true := fun x hx => (h.ln (!t)).sok x ((h.ln (!t)).suk late hmem x hx)
    have htk : (group.take p).length <= 100 := Nat.le_trans (List.length_take_le' ..) hgk.1
    have hkl : p <= group.length := Nat.le_of_lt (List.getElem?_eq_some_iff.mp hl8).1
    have hnt : (1 : Int) - cT t = cT (!t) := by cases t <;> rfl
    have h0' := hz0 (!t)
    refine Ex.seq (Γ1 := _) (R1 := _) (Δ1 := _) (Ex1.ite (b := false) (EtS.of fun X => (Et.cmp ((EvC.oN (Γc := [("ways", .list [aZ .str (gB leaves false), aZ .str (gB leaves true)]), ("turn", .int (cT t)), ("late", .str late)]) (L := group.take p) (g := .str) (fun early => !decide (early ∈ wG (gB leaves (!t)) late)) .str bV (.ofList ((Ev.slice (lo := none) (hi := some (p : Int)) (st := none) (.n m2) .none (.some (Ev.n m1)) .none (by simp) (by rw [List.length_map]; omega)).as (by rw [fU _ _ (by rw [List.length_map]; exact hkl), <- List.map_take]))) (.cons m6 (.cons m5 (.cons m0 .nil)))
     (fun cs C XL early he => .cmp (.n m0) (.vQ (.item (i := cT (!t)) (.n m1) ((Ev.binop .int (.n m2) .sub).as (by rw [hnt])) h0'.1 (by omega) (hw (!t))) (.n m3) hmem) (.JZ (h.sk _ (hgk.2 _ (List.mem_of_mem_take he))) hlk)) (fun cs C XL early he _ => .n m0) (by omega)).ev.as (d' := sL []) (by rw [ha.2])) (.list .nil) (.Du (a := []) fun x hx => nomatch hx)).as ?_) (fun h => by cases h) fun _ => .nil rfl) ?_
    ·rfl
    ·exact .fin fun p hp => .tail _ (.tail _ hp)
  ·refine Ex.seq (Ex1.append (x := "found") (D := D) (ds := ([false, true].take i).map fun t => bK (jd leaves t (groups t))) (d := bK (jd leaves t (groups t))) m0 (.of fun X => .n m0) (by rw [List.length_map, List.length_take]; omega)) ?_
   exact .fin fun p hp => .tail _ (.tail _ (.tail _ hp))
 refine Ex.freeze hX ?_
 show Ex _ _ _ _ (J5 ups (cW script) leaves groups) [] [] _ _
 have hcr := h.cross
 have hl0 := (h.fl1 false).len
 have hl1 := (h.fl1 true).len
 refine Ex.seq (Ex1.yD (fun _ => J5 ups (cW script) leaves groups) (fun _ => []) (.of fun X => .ofList (.item (i := 0) (.n m0) .int (by decide) (by decide) rfl)) (fun p h => h) hX (fun j one r ho => ?_) rfl) ?_
 ·have hom := lG ho
  refine Ex.seq (Ex1.yD (fun _ => ("one", sL one) :: J5 ups (cW script) leaves groups) (fun _ => [r]) (.of fun X => .ofList (.item (i := 1) (.n m1) .int (by decide) (by decide) rfl)) (fun p h => h) hX (fun k other r2 hot => ?_) rfl) (.fin fun p hp => .tail _ hp)
  ·have hotm := lG hot
   have h1 := h.le false one hom
   have h2 := h.le true other hotm
   have hfl : (one.filter fun leaf => decide (leaf ∈ other)).length <= 10 ^ 5 := Nat.le_trans (List.length_filter_le ..) (Nat.le_trans h1.1 (by decide))
   have hlenF : Fn (c.push ad) (l + 1) "len" [sL (one.filter fun leaf => decide (leaf ∈ other))] (.int ((one.filter fun leaf => decide (leaf ∈ other)).length : Nat)) := by
    have := Fn.of (qd Wp) (aO.Fg (l := l + 1) (ds := (one.filter fun leaf => decide (leaf ∈ other)).map .str) (by rw [List.length_map]; omega))
    rw [List.length_map] at this
    exact this
   refine Ex.seq (Γ1 := _) (R1 := _) (Δ1 := _) (Ex1.ite (b := false) (EtS.of fun X => (Et.cmp (.bN hlenF (.cons (EvC.oN (Γc := [("other", sL other)]) (L := one) (g := .str) (fun leaf => decide (leaf ∈ other)) .str bV (.ofList (.n m1)) (.cons m0 .nil) (fun cs C XL leaf hlf => .cmp (.n m0) (.n m1) (.inS (h.sk _ (h1.2 _ hlf)) fun x hx => h.sk _ (h2.2 _ hx))) (fun cs C XL leaf hlf _ => .n m0) (Nat.le_trans h1.1 (by decide))).ev .nil)) .int .neI).as (by rw [hcr one hom other hotm]; rfl)) (fun h => by cases h) fun _ => .nil rfl) ?_
   exact .fin fun p hp => .tail _ hp
 have hz0 : ∀ u : Bool, 0 <= cT u /\ cT u < 2 := fun u => by cases u <;> decide
 have hfew := h.lv.few
 refine Ex.newC (d := aZ .str (DK leaves)) hX (fun X => (EvC.nmD (Γc := [("ways", .list [aZ .str (gB leaves false), aZ .str (gB leaves true)]), ("leaves", sL leaves)]) (gU _) "" (L := leaves) (g := .str) id (fun leaf => sL (wG (gB leaves false) leaf ++ leaves.filter fun late => decide (leaf ∈ wG (gB leaves true) late))) bV (.ofList (.n m2)) (.cons m1 (.cons m2 .nil)) (fun cs C XL leaf hlf => .n m0)
  (fun cs C XL leaf hlf => (Ev.binop (.vQ (.item (i := 0) (.n m1) .int (by decide) (by decide) rfl) (.n m0) (by rw [jU]; exact hlf)) (EvC.oN (Γc := [("ways", .list [aZ .str (gB leaves false), aZ .str (gB leaves true)]), ("leaf", .str leaf)]) (L := leaves) (g := .str) (fun late => decide (leaf ∈ wG (gB leaves true) late)) .str bV (.ofList (.n m2)) (.cons m1 (.cons m0 .nil))
   (fun cs C XL late hlt => .cmp (.n m2) (.vQ (.item (i := 1) (.n m1) .int (by decide) (by decide) rfl) (.n m0) (by rw [jU]; exact hlt)) (.inS (h.sk _ hlf) ?_)) (fun cs C XL late hlt _ => .n m0) ?_).ev (.Fi ?_)).as (by rw [<- List.map_append])) ?_ ?_).as ?_) ?_
 ·exact fun x hx => (h.ln true).sok x ((h.ln true).suk late (by rw [jU]; exact hlt) x hx)
 ·omega
 ·have h1 := (h.ln false).sul leaf (by rw [jU]; exact hlf)
  have h2 : (leaves.filter fun late => decide (leaf ∈ wG (gB leaves true) late)).length <= leaves.length := List.length_filter_le ..
  rw [List.length_map, List.length_map]
  omega
 ·omega
 ·rw [List.map_id]; exact h.lv.nd
 ·show PyData.dict _ = PyData.dict _
  unfold DK
  rw [List.map_map]; rfl
 have hcan : PyData.canLay0 (bK ((bR ups 8 0 0).map fun node => [(aB ups 7).getD node.toNat ""])) = true := xV fun r hr x hx => by
  obtain ⟨node, hn, rfl⟩ := List.mem_map.mp hr
  have hn7 := h.wn node hn
  rw [lS hx, List.getD_eq_getElem?_getD, List.getElem?_eq_getElem (show node.toNat < (aB ups 7).length by rw [hpl]; omega)]
  exact h.pk _ (List.getElem_mem _)
 refine Ex.ret (.of fun X => (Ev.cmp (.bN (xU Wp hF' (show l + 1 < 40 by omega) h.both) (.cons (.n m0) .nil)) ((EvC.nm (Γc := [("paths", sL (aB ups 7))]) (L := bR ups 8 0 0) (g := .int) (fun node => sL [(aB ups 7).getD node.toNat ""]) f9 (.ofList (.bN (JV hups 8 Wp (show l + 1 + 8 < 50 by omega) 0 0 (by decide) (by decide)) (.cons .int (.cons .int (.cons (.n m5) .nil))))) (.cons m4 .nil)
  (fun cs C XL node hn => .list (.cons (.item (i := node) (.n m1) (.n m0) (h.wn node hn).1 ?_ ?_) .nil) (by simp)) ?_).ev.as (nY sL _ _)) (P2.eq hcan hcan (Hh _))).as ?_) (.inl rfl)
 ·have := (h.wn node hn).2
  omega
 ·have hn7 := h.wn node hn
  rw [List.getElem?_map, List.getD_eq_getElem?_getD, List.getElem?_eq_getElem (show node.toNat < (aB ups 7).length by rw [hpl]; omega)]
  rfl
 ·exact Nat.le_trans (tO hups 8 0 0) (by decide)
 ·rw [PySem.SeqAt.eqv_refl _ hcan]
section
variable [DecidableEq α] [DecidableEq β] {f : α -> β}
noncomputable def c7 (f : α -> β) (ns : List (PN α)) : List (PN β) := ns.map fun n => (f n.1, n.2.1, n.2.2.map f)
theorem iW (ns : List (PN α)) : (c7 f ns).map (·.1) = (ns.map (·.1)).map f := by
 unfold c7
 rw [List.map_map, List.map_map]; rfl
theorem iz (hf : ∀ a b, f a = f b -> a = b) {x : α} {l : List α} : f x ∈ l.map f ↔ x ∈ l :=
 ⟨fun h => let ⟨y, hy, e⟩ := List.mem_map.mp h; hf _ _ e ▸ hy, lM⟩
theorem jV (hf : ∀ a b, f a = f b -> a = b) {g : PN α -> PN α} {g' : PN β -> PN β} (h : ∀ n, g' (f n.1, n.2.1, n.2.2.map f) = (f (g n).1, (g n).2.1, (g n).2.2.map f)) (ns : List (PN α)) (k : α) : upP (c7 f ns) (f k) g' = c7 f (upP ns k g) := by
 unfold upP c7
 rw [List.map_map, List.map_map]
 refine List.map_congr_left fun n _ => ?_
 show (if f n.1 = f k then _ else _) = _
 by_cases z : n.1 = k
 ·rw [if_pos (congrArg f z), h]; simp [z]
 ·rw [if_neg (fun e => z (hf _ _ e))]; simp [z]
theorem qx (hf : ∀ a b, f a = f b -> a = b) (ns : List (PN α)) (k : α) : infoP (c7 f ns) (f k) = c7 f (infoP ns k) := by
 unfold infoP
 rw [iW]
 by_cases z : k ∈ ns.map (·.1)
 ·rw [if_pos ((iz hf).mpr z), if_pos z]
 ·rw [if_neg (fun e => z ((iz hf).mp e)), if_neg z]
  unfold c7
  rw [List.map_append]; rfl
theorem DN (hf : ∀ a b, f a = f b -> a = b) (ps : List α) (ns : List (PN α)) (k : α) : lZ (c7 f ns) (f k) (ps.map f) = c7 f (lZ ns k ps) := by
 unfold lZ
 have h0 : kI (c7 f ns) (f k) (ps.map f).length = c7 f (kI ns k ps.length) := by
  unfold kI
  rw [qx hf, List.length_map]
  exact jV hf (fun n => rfl) _ _
 rw [h0]
 clear h0
 generalize kI ns k ps.length = ns
 induction ps generalizing ns with
 | nil => rfl
 | cons p ps ih =>
  rw [List.map_cons, List.foldl_cons, List.foldl_cons, <- ih]
  congr 1
  unfold pX
  rw [qx hf]
  exact jV hf (fun n => by simp) _ _
noncomputable def cL (f : α -> β) (g : List (α × List α)) : List (β × List β) := g.map fun p => (f p.1, p.2.map f)
theorem qy (hf : ∀ a b, f a = f b -> a = b) (g : List (α × List α)) : bF (cL f g) = c7 f (bF g) := by
 unfold bF
 have : ∀ (ns : List (PN α)), (cL f g).foldl (fun ns p => lZ ns p.1 p.2) (c7 f ns) = c7 f (g.foldl (fun ns p => lZ ns p.1 p.2) ns) := by
  induction g with
  | nil => exact fun _ => rfl
  | cons p g ih =>
   intro ns
   show (cL f g).foldl _ (lZ (c7 f ns) (f p.1) (p.2.map f)) = _
   rw [DN hf, ih]; rfl
 exact this []
theorem vV (ns : List (PN α)) : fj (c7 f ns) = (fj ns).map f := by
 unfold fj c7
 rw [List.filter_map, List.map_map, List.map_map]; rfl
theorem ur (hf : ∀ a b, f a = f b -> a = b) (ks : List α) (ns : List (PN α)) : fL (ks.map f) (c7 f ns) = c7 f (fL ks ns) := by
 unfold fL
 induction ks generalizing ns with
 | nil => rfl
 | cons k ks ih =>
  rw [List.map_cons, List.foldl_cons, List.foldl_cons, <- ih]
  congr 1
  exact jV hf (fun n => rfl) _ _
theorem uw (hf : ∀ a b, f a = f b -> a = b) (ns : List (PN α)) (k : α) : (c7 f ns).find? (fun n => n.1 = f k) = (ns.find? fun n => n.1 = k).map fun n => (f n.1, n.2.1, n.2.2.map f) := by
 unfold c7
 rw [List.find?_map]
 congr 1
 congr 1
 funext n
 exact decide_eq_decide.mpr ⟨hf _ _, congrArg f⟩
theorem ux (hf : ∀ a b, f a = f b -> a = b) (ns : List (PN α)) (k : α) : jt (c7 f ns) (f k) = jt ns k := by
 unfold jt
 rw [uw hf, Option.map_map]; rfl
theorem DP (hf : ∀ a b, f a = f b -> a = b) (ns : List (PN α)) (k : α) : d9 (c7 f ns) (f k) = (d9 ns k).map f := by
 unfold d9
 rw [uw hf]
 cases ns.find? fun n => n.1 = k <;> rfl
noncomputable def rK (f : α -> β) (sr : List (PN α) × List α) : List (PN β) × List β := (c7 f sr.1, sr.2.map f)
theorem DQ (hf : ∀ a b, f a = f b -> a = b) (sr : List (PN α) × List α) (s : α) : kJ (rK f sr) (f s) = rK f (kJ sr s) := by
 unfold kJ rK
 dsimp only
 rw [ux hf, jV (g := npP (jt sr.1 s - 1)) hf (fun n => rfl)]
 split
 ·rw [List.map_append]; rfl
 ·rfl
theorem qz (hf : ∀ a b, f a = f b -> a = b) (ks : List α) (sr : List (PN α) × List α) : eZ (ks.map f) (rK f sr) = rK f (eZ ks sr) := by
 unfold eZ
 induction ks generalizing sr with
 | nil => rfl
 | cons k ks ih =>
  rw [List.map_cons, List.foldl_cons, List.foldl_cons, <- ih]
  congr 1
  unfold qX
  show (d9 (c7 f sr.1) (f k)).foldl kJ (upP (c7 f sr.1) (f k) (npP (-2)), sr.2.map f) = _
  rw [DP hf, jV (g := npP (-2)) hf (fun n => rfl)]
  have : ∀ (su : List α) (t : List (PN α) × List α), (su.map f).foldl kJ (rK f t) = rK f (su.foldl kJ t) := fun su => by
   induction su with
   | nil => exact fun _ => rfl
   | cons x su ih => intro t; rw [List.map_cons, List.foldl_cons, List.foldl_cons, DQ hf, ih]
  exact this _ (upP sr.1 k (npP (-2)), sr.2)
theorem Hj (g : List (α × List α)) : gsz (cL f g) = gsz g := by
 unfold gsz cL
 rw [List.map_map]
 congr 1
 exact List.map_congr_left fun p _ => by simp
theorem qC (hf : ∀ a b, f a = f b -> a = b) {γ δ : Type} (h : γ -> δ) (kvs : List (α × γ)) (k : α) : cj (kvs.map fun p => (f p.1, h p.2)) (f k) = (cj kvs k).map h := by
 unfold cj
 rw [List.find?_map]
 have : ((fun p : β × δ => decide (p.1 = f k)) ∘ fun p : α × γ => (f p.1, h p.2)) = fun p => decide (p.1 = k) := funext fun p => decide_eq_decide.mpr ⟨hf _ _, congrArg f⟩
 rw [this]
 cases kvs.find? fun p => decide (p.1 = k) <;> rfl
theorem gF (hf : ∀ a b, f a = f b -> a = b) (g : List (α × List α)) (k : α) : wG (cL f g) (f k) = (wG g k).map f := by
 unfold wG cL
 rw [qC hf]
 cases cj g k <;> rfl
theorem lD (g : List (α × List α)) : cA (cL f g) = (cA g).map f := by
 unfold cA cL
 rw [List.map_map, List.map_map]; rfl
theorem cJ {p : β -> Bool} {q : α -> Bool} (h : ∀ a, p (f a) = q a) (l : List α) : (l.map f).filter p = (l.filter q).map f := by
 rw [List.filter_map, show p ∘ f = q from funext h]
theorem gG (l : List α) : (l.map f).isEmpty = l.isEmpty := by cases l <;> rfl
theorem memD (hf : ∀ a b, f a = f b -> a = b) (x : α) (l : List α) : decide (f x ∈ l.map f) = decide (x ∈ l) := decide_eq_decide.mpr (iz hf)
theorem iY (hf : ∀ a b, f a = f b -> a = b) (g : List (α × List α)) (k : α) : dI (cL f g) (f k) = (dI g k).map f := by
 unfold dI
 rw [gF hf]
 refine cJ (fun e => ?_) _
 unfold Dv
 rw [gF hf, cJ (q := fun late => decide (e ∈ wG g late)) (fun late => by rw [gF hf, memD hf]), gG]
theorem oh (hf : ∀ a b, f a = f b -> a = b) (g : List (α × List α)) : iy (cL f g) = (iy g).map f := by
 unfold iy
 rw [lD]
 refine cJ (fun e => ?_) _
 unfold Dw
 rw [lD, cJ (q := fun late => decide (e ∈ wG g late)) (fun late => by rw [gF hf, memD hf]), gG]
noncomputable def uy (f : α -> β) (kvs : List (α × List (List α))) : List (β × List (List β)) := kvs.map fun p => (f p.1, p.2.map (List.map f))
theorem lkM (hf : ∀ a b, f a = f b -> a = b) (kvs : List (α × List (List α))) (k : α) : lk (uy f kvs) (f k) = (lk kvs k).map (List.map f) := by
 unfold lk uy
 rw [qC hf]
 cases cj kvs k <;> rfl
theorem zM (hf : ∀ a b, f a = f b -> a = b) (g : List (α × List α)) (kvs : List (α × List (List α))) (k : α) : fW (cL f g) (uy f kvs) (f k) = (fW g kvs k).map (List.map f) := by
 unfold fW
 rw [iY hf]
 by_cases z : dI g k = []
 ·rw [if_pos (by rw [z]; rfl), if_pos z]; rfl
 ·rw [if_neg (fun e => z (List.map_eq_nil_iff.mp e)), if_neg z, List.map_flatMap, List.flatMap_map]
  congr 1
  funext e
  rw [lkM hf, List.map_map, List.map_map]
  exact List.map_congr_left fun l _ => by simp
theorem jw (hf : ∀ a b, f a = f b -> a = b) (g : List (α × List α)) (L : List α) : bJ (cL f g) (L.map f) = uy f (bJ g L) := by
 unfold bJ
 have : ∀ kvs, (L.map f).foldl (fun kvs leaf => kvs ++ [(leaf, fW (cL f g) kvs leaf)]) (uy f kvs) = uy f (L.foldl (fun kvs leaf => kvs ++ [(leaf, fW g kvs leaf)]) kvs) := by
  induction L with
  | nil => exact fun _ => rfl
  | cons x L ih =>
   intro kvs
   rw [List.map_cons, List.foldl_cons, List.foldl_cons, <- ih]
   congr 1
   rw [zM hf]
   unfold uy
   rw [List.map_append]; rfl
 exact this []
theorem DR (hf : ∀ a b, f a = f b -> a = b) (g : List (α × List α)) (kvs : List (α × List (List α))) : rI (cL f g) (uy f kvs) = (rI g kvs).map (List.map f) := by
 unfold rI
 rw [oh hf, List.map_flatMap, List.flatMap_map]
 congr 1
 funext k
 exact lkM hf kvs k
end
noncomputable def zN (x : Nat) : List Nat -> List Nat
 | [] => [x]
 | y :: l => if x <= y then x :: y :: l else y :: zN x l
noncomputable def ou (l : List Nat) : List Nat := l.foldr zN []
theorem qD (x : Nat) (l : List Nat) : (zN x l).Perm (x :: l) := by
 induction l with
 | nil => exact .refl _
 | cons y l ih =>
  unfold zN
  split
  ·exact .refl _
  ·exact (ih.cons y).trans (.swap ..)
theorem gH (l : List Nat) : (ou l).Perm l := by
 unfold ou
 induction l with
 | nil => exact .refl _
 | cons y l ih => exact (qD _ _).trans (ih.cons y)
theorem uz {x : Nat} {l : List Nat} (h : l.Pairwise (· <= ·)) : (zN x l).Pairwise (· <= ·) := by
 induction l with
 | nil => exact List.pairwise_singleton ..
 | cons y l ih =>
  obtain ⟨h1, h2⟩ := List.pairwise_cons.mp h
  unfold zN
  split
  ·rename_i z
   exact .cons (fun a ha => (lC ha).elim (fun e => e ▸ z) fun ha => Nat.le_trans z (h1 a ha)) h
  ·rename_i z
   exact .cons (fun a ha => (lC ((qD x l).mem_iff.mp ha)).elim (fun e => e ▸ Nat.le_of_not_le z) (h1 a)) (ih h2)
theorem rM (l : List Nat) : (ou l).Pairwise (· <= ·) := by
 unfold ou
 induction l with
 | nil => exact .nil
 | cons y l ih => exact uz ih
structure Nm (n : Nat) (f : Nat -> Str) : Prop where
 inj : ∀ a b, f a = f b -> a = b
 mono : ∀ a b, a <= b -> b < n -> leS (f a) (f b) = true
theorem zO {f : Nat -> Str} (h : Nm n f) {l : List Nat} (hl : ∀ a ∈ l, a < n) : iu (l.map f) = (ou l).map f := by
 refine (nU ((gH l).map f) ?_).symm
 rw [List.pairwise_map]
 exact (rM l).imp_of_mem fun _ hb z => h.mono _ _ z (hl _ ((gH l).mem_iff.mp hb))
structure gJ where
 ns : List (PN Nat)
 rd : List Nat
 po : Int
 nf : Int
 gs : List (List Nat)
namespace gJ
noncomputable def act (s : gJ) : Bool := decide (s.nf < s.po) || !s.rd.isEmpty
noncomputable def step (s : gJ) : gJ :=
 let q := eZ s.rd (fL s.rd s.ns, [])
 ⟨q.1, q.2, s.po + s.rd.length, s.nf + s.rd.length, s.gs ++ [ou s.rd]⟩
noncomputable def map (f : Nat -> Str) (s : gJ) : cB := ⟨c7 f s.ns, s.rd.map f, s.po, s.nf, s.gs.map (List.map f)⟩
noncomputable def init (g : List (Nat × List Nat)) : gJ := ⟨bF g, fj (bF g), 0, 0, []⟩
theorem rN (f : Nat -> Str) (s : gJ) : (s.map f).act = s.act := by
 unfold map act cB.act
 rw [gG]
theorem uD {f : Nat -> Str} (h : Nm n f) {s : gJ} (hl : ∀ a ∈ s.rd, a < n) : (s.map f).step = s.step.map f := by
 unfold map cB.step step
 have e := qz h.inj s.rd (fL s.rd s.ns, [])
 unfold rK at e
 dsimp only at e ⊢
 rw [show ([] : List Str) = ([] : List Nat).map f from rfl, ur h.inj, e, zO h hl, List.length_map, List.map_append]
 rfl
theorem uE {f : Nat -> Str} (hf : ∀ a b, f a = f b -> a = b) (g : List (Nat × List Nat)) : jT (cL f g) = (init g).map f := by
 unfold jT map init
 rw [qy hf, vV]
 rfl
noncomputable abbrev Pre (keys : List Nat) (n M : Nat) (s : gJ) : Prop :=
 (∀ k ∈ s.rd, k ∈ keys /\ k < n) /\ (∀ i < s.rd.length, jt (eZ (s.rd.take i) (fL s.rd s.ns, [])).1 (s.rd.getD i 0) = -1) /\ s.ns.map (·.1) = keys
  /\ (∀ n ∈ s.ns, (∀ x ∈ n.2.2, x ∈ keys) /\ n.2.2.length <= 100) /\ s.rd.length < 64 /\ s.gs.length < M
noncomputable def runs (keys : List Nat) (n M : Nat) : Nat -> gJ -> Option (List (List Nat))
 | 0, _ => none
 | k + 1, s => if Pre keys n M s then (if s.act = true then runs keys n M k s.step else some s.gs) else none
theorem oA {keys : List Nat} {M : Nat} {gs : List (List Nat)} {k : Nat} {s : gJ} (h : runs keys n M k s = some gs) : Pre keys n M s /\ (s.act = true -> ∃ k', k = k' + 1 /\ runs keys n M k' s.step = some gs) /\ (s.act = false -> s.gs = gs) := by
 cases k with
 | zero => cases h
 | succ k =>
  unfold runs at h
  by_cases z : Pre keys n M s
  ·rw [if_pos z] at h
   refine ⟨z, fun e => ⟨k, rfl, by rw [if_pos e] at h; exact h⟩, fun e => ?_⟩
   rw [e, if_neg Bool.false_ne_true] at h
   exact Option.some.inj h
  ·rw [if_neg z] at h; cases h
theorem J6 {M : Nat} {f : Nat -> Str} (h : Nm n f) {keys : List Nat} {s : gJ} (hp : Pre keys n M s) : G9 (keys.map f) 100 M (s.map f) where
 key := fun k hk => by
  obtain ⟨a, ha, rfl⟩ := List.mem_map.mp hk
  exact lM (hp.1 a ha).1
 out := fun i k hk => by
  have hk' : (s.rd.map f)[i]? = some k := hk
  rw [List.getElem?_map] at hk'
  obtain ⟨a, e, rfl⟩ := Option.map_eq_some_iff.mp hk'
  have h2 := hp.2.1 i (List.getElem?_eq_some_iff.mp e).1
  rw [List.getD_eq_getElem?_getD, e] at h2
  have e2 := qz h.inj (s.rd.take i) (fL s.rd s.ns, [])
  unfold rK at e2
  dsimp only at e2
  rw [List.map_nil] at e2
  show jt (eZ ((s.rd.map f).take i) (fL (s.rd.map f) (c7 f s.ns), [])).1 (f a) = -1
  rw [<- List.map_take, ur h.inj, e2]
  show jt (c7 f _) _ = _
  rw [ux h.inj]
  exact h2
 ks := (iW s.ns).trans (congrArg _ hp.2.2.1)
 suk := fun m hm x hx => by
  obtain ⟨m', hm', rfl⟩ := List.mem_map.mp hm
  obtain ⟨y, hy, rfl⟩ := List.mem_map.mp hx
  exact lM ((hp.2.2.2.1 m' hm').1 y hy)
 sul := fun m hm => by
  obtain ⟨m', hm', rfl⟩ := List.mem_map.mp hm
  exact Nat.le_trans (Nat.le_of_eq (List.length_map _)) (hp.2.2.2.1 m' hm').2
 all := Nat.lt_of_le_of_lt (Nat.le_of_eq (List.length_map _)) hp.2.2.2.2.1
 ord := fun _ => Nat.lt_of_le_of_lt (Nat.le_of_eq (List.length_map _)) hp.2.2.2.2.2
theorem run_map {M : Nat} {f : Nat -> Str} (h : Nm n f) {keys : List Nat} {gs : List (List Nat)} (k : Nat) : ∀ {s : gJ}, runs keys n M k s = some gs -> (cB.run k (s.map f)).groups = gs.map (List.map f) := by
 induction k with
 | zero => exact fun hr => nomatch hr
 | succ k ih =>
  intro s hr
  obtain ⟨h1, h2, h3⟩ := oA hr
  cases e : s.act with
  | true =>
   obtain ⟨k', e', hr'⟩ := h2 e
   cases e'
   rw [cB.run, rN, e, if_pos rfl, uD h fun a ha => (h1.1 a ha).2]
   exact ih hr'
  | false => rw [cB.stop ((rN f s).trans e), <- h3 e]; rfl
theorem J7 {M : Nat} {f : Nat -> Str} (h : Nm n f) {g : List (Nat × List Nat)} {gs : List (List Nat)} (hz : gsz g <= 1000) (rk : Nat -> Nat) (hrk : ∀ m ∈ bF g, ∀ s ∈ m.2.2, rk s < rk m.1) (hsu : ∀ m ∈ bF g, ∀ s ∈ m.2.2, s ∈ (bF g).map (·.1)) (hM : M <= 1000) (hr : runs ((bF g).map (·.1)) n M M (init g) = some gs) : nZ (cL f g) (gs.map (List.map f)) := by
 classical
 have hrkf : ∀ a, (if e : ∃ b, f b = f a then rk e.choose else 0) = rk a := fun a => by
  have e : ∃ b, f b = f a := ⟨a, rfl⟩
  rw [dif_pos e, h.inj _ _ e.choose_spec]
 have hi := qy h.inj g
 have hsub : ∀ m ∈ bF (cL f g), ∀ s ∈ m.2.2, ∃ m' ∈ bF g, ∃ y ∈ m'.2.2, f m'.1 = m.1 /\ f y = s := fun m hm s hs => by
  rw [hi] at hm
  obtain ⟨m', hm', rfl⟩ := List.mem_map.mp hm
  obtain ⟨y, hy, e⟩ := List.mem_map.mp hs
  exact ⟨m', hm', y, hy, rfl, e⟩
 have hr0 := run_map h M hr
 rw [<- uE h.inj] at hr0
 rw [<- hr0]
 refine .mk (fun x => if e : ∃ b, f b = x then rk e.choose else 0) 100 M (fun s => ∃ k t, s = t.map f /\ runs ((bF g).map (·.1)) n M k t = some gs) (by rw [Hj]; exact hz) (fun m hm s hs => ?_) (fun m hm s hs => ?_) (by decide) hM ⟨M, init g, uE h.inj g, hr⟩ (fun s hs => ?_) fun s hs ha => ?_
 ·obtain ⟨m', hm', y, hy, e1, e2⟩ := hsub m hm s hs
  rw [<- e1, <- e2, hrkf, hrkf]
  exact hrk m' hm' y hy
 ·obtain ⟨m', hm', y, hy, e1, e2⟩ := hsub m hm s hs
  rw [<- e2, hi, iW]
  exact lM (hsu m' hm' y hy)
 ·obtain ⟨k, t, e, hr⟩ := hs
  rw [e, hi, iW]
  exact J6 h (oA hr).1
 ·obtain ⟨k, t, e, hr⟩ := hs
  rw [e] at ha ⊢
  obtain ⟨h1, h2, _⟩ := oA hr
  obtain ⟨k', _, hr'⟩ := h2 ((rN f t).symm.trans ha)
  exact ⟨k', t.step, uD h fun a ha => (h1.1 a ha).2, hr'⟩
end gJ
inductive Fo (α : Type) where
 | nil : Fo α
 | lf (x : α) (r : Fo α) : Fo α
 | nd (c r : Fo α) : Fo α
namespace Fo
noncomputable def lv : Fo α -> List α
 | nil => []
 | lf x r => x :: lv r
 | nd c r => lv c ++ lv r
noncomputable def sz : Fo α -> Nat
 | nil => 0
 | lf _ r => sz r + 1
 | nd c r => sz c + sz r + 1
noncomputable def ok : Fo α -> Prop
 | nil => True
 | lf _ r => ok r
 | nd c r => sz c ≠ 0 /\ ok c /\ ok r
noncomputable def told (s : Bool) (acc : List (List α)) : Fo α -> List (List α)
 | nil => acc
 | lf x r => told s (eG s acc [[x]]) r
 | nd c r => told s (eG s acc (told (!s) (d8 (!s)) c)) r
noncomputable def wk (b : Bool) : Fo α -> List α
 | nil => []
 | lf x r => if b then wk b r ++ [x] else x :: wk b r
 | nd c r => if b then wk b r ++ wk (!b) c else wk (!b) c ++ wk b r
noncomputable def lE (b : Bool) (o l : List α) : List α := if b then o ++ l else o
noncomputable def gr (b : Bool) (o : List α) : Fo α -> List (α × List α)
 | nil => []
 | lf x r => (x, o) :: gr b (lE b o [x]) r
 | nd c r => gr (!b) o c ++ gr b (lE b o (lv c)) r
noncomputable def map (f : α -> β) : Fo α -> Fo β
 | nil => nil
 | lf x r => lf (f x) (map f r)
 | nd c r => nd (map f c) (map f r)
noncomputable def idx (s : Nat) : Fo α -> Fo Nat
 | nil => nil
 | lf _ r => lf s (idx (s + 1) r)
 | nd c r => nd (idx s c) (idx (s + (lv c).length) r)
theorem oE (f : α -> β) (F : Fo α) : (F.map f).lv = F.lv.map f := by
 induction F with
 | nil => rfl
 | lf x r ih => exact congrArg (f x :: ·) ih
 | nd c r ih ih2 =>
  show (c.map f).lv ++ (r.map f).lv = (c.lv ++ r.lv).map f
  rw [ih, ih2, List.map_append]
theorem DW (f : α -> β) (F : Fo α) : (F.map f).sz = F.sz := by
 induction F with
 | nil => rfl
 | lf x r ih => exact congrArg (· + 1) ih
 | nd c r ih ih2 =>
  show (c.map f).sz + (r.map f).sz + 1 = c.sz + r.sz + 1
  rw [ih, ih2]
theorem J8 (f : α -> β) {F : Fo α} (h : F.ok) : (F.map f).ok := by
 induction F with
 | nil => trivial
 | lf x r ih => exact ih h
 | nd c r ih ih2 => exact ⟨by rw [DW]; exact h.1, ih h.2.1, ih2 h.2.2⟩
theorem map_congr {f g : α -> β} {F : Fo α} (h : ∀ x ∈ F.lv, f x = g x) : F.map f = F.map g := by
 induction F with
 | nil => rfl
 | lf x r ih =>
  show lf (f x) _ = lf (g x) _
  rw [h x (.head _), ih fun y hy => h y (.tail _ hy)]
 | nd c r ih ih2 =>
  show nd _ _ = nd _ _
  rw [ih fun y hy => h y (lL _ hy), ih2 fun y hy => h y (lR _ hy)]
theorem map_map {γ : Type} (f : α -> β) (g : β -> γ) (F : Fo α) : (F.map f).map g = F.map fun x => g (f x) := by
 induction F with
 | nil => rfl
 | lf x r ih => exact congrArg (lf _) ih
 | nd c r ih ih2 => exact congr (congrArg nd ih) ih2
theorem step_map (f : α -> β) (s : Bool) (a b : List (List α)) : eG s (a.map (List.map f)) (b.map (List.map f)) = (eG s a b).map (List.map f) := by
 unfold eG
 cases s with
 | true =>
  show List.flatMap _ _ = List.map _ (List.flatMap _ _)
  rw [List.map_flatMap, List.flatMap_map]
  congr 1
  funext x
  rw [List.map_map, List.map_map]
  exact List.map_congr_left fun y _ => by simp
 | false => exact List.map_append.symm
theorem DX (f : α -> β) (F : Fo α) : ∀ s acc, (F.map f).told s (acc.map (List.map f)) = (F.told s acc).map (List.map f) := by
 induction F with
 | nil => exact fun _ _ => rfl
 | lf x r ih =>
  intro s acc
  show told s (eG s _ [[f x]]) _ = _
  rw [show [[f x]] = [[x]].map (List.map f) from rfl, step_map, ih]; rfl
 | nd c r ih ih2 =>
  intro s acc
  show told s (eG s _ (told (!s) (d8 (!s)) _)) _ = _
  rw [show (d8 (!s) : List (List β)) = (d8 (!s)).map (List.map f) by cases s <;> rfl, ih, step_map, ih2]; rfl
theorem vW (f : α -> β) (F : Fo α) : ∀ b, (F.map f).wk b = (F.wk b).map f := by
 induction F with
 | nil => exact fun _ => rfl
 | lf x r ih =>
  intro b
  show (if b then wk b _ ++ [f x] else _) = (if b then _ else _ : List α).map f
  cases b <;> simp [ih]
 | nd c r ih ih2 =>
  intro b
  show (if b then wk b _ ++ wk (!b) _ else _) = (if b then _ else _ : List α).map f
  cases b <;> simp [ih, ih2]
theorem J9 (f : α -> β) (F : Fo α) : ∀ b o, (F.map f).gr b (o.map f) = cL f (F.gr b o) := by
 have ha : ∀ b (o l : List α), lE b (o.map f) (l.map f) = (lE b o l).map f := fun b o l => by cases b <;> simp [lE]
 induction F with
 | nil => exact fun _ _ => rfl
 | lf x r ih =>
  intro b o
  show (f x, o.map f) :: gr b (lE b (o.map f) ([x].map f)) _ = _
  rw [ha, ih]; rfl
 | nd c r ih ih2 =>
  intro b o
  show gr (!b) _ _ ++ gr b (lE b _ (lv _)) _ = cL f (_ ++ _)
  rw [oE, ha, ih, ih2]
  exact List.map_append.symm
theorem idx_map {f : Nat -> α} {F : Fo α} : ∀ {s}, (∀ i x, F.lv[i]? = some x -> f (s + i) = x) -> (F.idx s).map f = F := by
 induction F with
 | nil => exact fun _ => rfl
 | lf x r ih =>
  intro s h
  show lf (f s) _ = lf x r
  rw [ih fun i x hx => by rw [Nat.add_right_comm]; exact h (i + 1) x hx, show f s = x from h 0 x rfl]
 | nd c r ih ih2 =>
  intro s h
  show nd _ _ = nd c r
  rw [ih fun i x hx => h i x (by rw [lv, List.getElem?_append_left (List.getElem?_eq_some_iff.mp hx).1]; exact hx), ih2 fun i x hx => by
   rw [Nat.add_assoc]
   exact h (c.lv.length + i) x (by rw [lv, List.getElem?_append_right (Nat.le_add_right ..), Nat.add_sub_cancel_left]; exact hx)]
theorem vX (g : α -> β) (F : Fo α) : ∀ s, (F.map g).idx s = F.idx s := by
 induction F with
 | nil => exact fun _ => rfl
 | lf x r ih => exact fun s => congrArg (lf s) (ih _)
 | nd c r ih ih2 =>
  intro s
  show nd _ (idx (s + (c.map g).lv.length) _) = _
  rw [oE, List.length_map, ih, ih2]; rfl
end Fo
noncomputable def tab : Nat -> List (List (Fo Unit))
 | 0 => [[.nil]]
 | k + 1 => tab k ++ [((tab k)[k]?.getD []).map (.lf ()) ++ (List.range k).flatMap fun j => ((tab k)[k - j]?.getD []).flatMap fun c => ((tab k)[j]?.getD []).map (.nd c)]
theorem xW : ∀ k, (tab k).length = k + 1
 | 0 => rfl
 | k + 1 => by rw [tab, List.length_append, xW k]; rfl
theorem Hl (k : Nat) : ∀ F : Fo Unit, F.ok -> F.sz <= k -> F ∈ (tab k)[F.sz]?.getD [] := by
 induction k with
 | zero =>
  intro F o h
  cases F with
  | nil => exact .head _
  | lf x r => cases h
  | nd c r => cases h
 | succ k ih =>
  intro F o h
  have hl := xW k
  rcases Nat.lt_or_eq_of_le h with h | e
  ·rw [tab, List.getElem?_append_left (hl.symm ▸ h)]
   exact ih F o (Nat.le_of_lt_succ h)
  ·rw [tab, List.getElem?_append_right (Nat.le_of_eq (hl.trans e.symm)), hl, e, Nat.sub_self]
   show F ∈ _ ++ _
   cases F with
   | nil => cases e
   | lf x r =>
    have e : r.sz = k := Nat.succ.inj e
    have := ih r o (Nat.le_of_eq e)
    rw [e] at this
    exact lL _ (lM this)
   | nd c r =>
    have e : c.sz + r.sz = k := Nat.succ.inj e
    have h1 := ih c o.2.1 (e ▸ Nat.le_add_right ..)
    have h2 := ih r o.2.2 (e ▸ Nat.le_add_left ..)
    exact lR _ (List.mem_flatMap.mpr ⟨r.sz, List.mem_range.mpr (e ▸ Nat.lt_add_of_pos_left (Nat.pos_of_ne_zero o.1)), List.mem_flatMap.mpr ⟨c, (Nat.sub_eq_of_eq_add e.symm).symm ▸ h1, lM h2⟩⟩)
noncomputable abbrev Ky := (List (Nat × List Nat) × List (Nat × List Nat)) × (List (List Nat) × List (List Nat)) × List Nat
noncomputable def key (F : Fo Nat) : Ky := ((F.gr true [], F.gr false []), (F.told true (d8 true), F.told false (d8 false)), F.wk false)
noncomputable def Nt (k : Ky) : Nat := k.1.1.foldl (fun c p => p.2.foldl (fun c x => 8 * c + x + 1) (8 * c)) 1
noncomputable def DY (k : Ky) (l : List Ky) : List Ky := if l.any fun a => Nat.beq (Nt a) (Nt k) && a == k then l else k :: l
noncomputable def Ea : List Ky := (((tab 7).flatten.filter fun F => F.sz != 0).map fun F => key (F.idx 0)).foldr DY []
theorem Eb {l : List Ky} {k : Ky} (h : k ∈ l) : k ∈ l.foldr DY [] := by
 have hi : ∀ (l : List Ky) a, a ∈ DY a l /\ ∀ b ∈ l, b ∈ DY a l := fun l a => by
  unfold DY
  split
  ·rename_i z
   obtain ⟨b, hb, e⟩ := List.any_eq_true.mp z
   exact ⟨eq_of_beq ((Bool.and_eq_true _ _).mp e).2 ▸ hb, fun _ h => h⟩
  ·exact ⟨.head _, fun _ h => .tail _ h⟩
 induction l with
 | nil => cases h
 | cons a l ih =>
  rcases lC h with rfl | h
  ·exact (hi _ _).1
  ·exact (hi _ _).2 _ (ih h)
noncomputable abbrev Gn := List (Nat × List Nat)
noncomputable def Ka (g : Gn) : List Nat -> List (Nat × List (List Nat)) -> Bool
 | [], _ => true
 | x :: L, kvs => decide ((∀ e ∈ dI g x, e ∈ kvs.map (·.1) /\ ∀ l ∈ lk kvs e, l.length <= 10) /\ ((dI g x).flatMap (lk kvs)).length <= 1000) && Ka g L (kvs ++ [(x, fW g kvs x)])
noncomputable def uF [DecidableEq κ] (ks : List κ) (g h : List (κ × List κ)) : List (κ × List κ) := ks.map fun k => (k, wG g k ++ ks.filter fun late => decide (k ∈ wG h late))
noncomputable abbrev rO (g : Gn) (n : Nat) (P : List Nat) (gs : List (List Nat)) : Prop := gJ.runs ((bF g).map (·.1)) n 10 10 (gJ.init g) = some gs /\ gsz g <= 1000 /\ ∀ m ∈ bF g, ∀ s ∈ m.2.2, P.idxOf m.1 < P.idxOf s /\ s ∈ (bF g).map (·.1)
noncomputable def gK (k : Ky) (t : Bool) : Gn := if t then k.1.2 else k.1.1
noncomputable def tK (k : Ky) (t : Bool) : List (List Nat) := if t then k.2.1.2 else k.2.1.1
noncomputable def gsN (g : Gn) : List (List Nat) := (gJ.runs ((bF g).map (·.1)) g.length 10 10 (gJ.init g)).getD []
noncomputable def enN (g : Gn) : List (List Nat) := rI g (bJ g (gsN g).flatten)
noncomputable abbrev Nu (n : Nat) (g h : Gn) (T : List (List Nat)) : Prop :=
 (rO g n (List.range n) (gsN g) /\ cA g = List.range n /\ (∀ p ∈ g, p.2.length <= 7 /\ ∀ x ∈ p.2, x < n) /\ ou (gsN g).flatten = List.range n /\ Ka g (gsN g).flatten [] = true)
  /\ (T.isPerm (enN g) = true /\ (enN g).Nodup /\ (enN g).length <= 1000 /\ ∀ l ∈ enN g, l.length <= 1000 /\ ∀ x ∈ l, x < n)
  /\ ((gsN g).length ∈ T.map List.length /\ (∀ l ∈ T, l.length <= (gsN g).length) /\ (gsN g).length <= 7 /\ ∀ q ∈ gsN g, q.length <= 7 /\ ∀ p < q.length, (q.take p).filter (fun e => !decide (e ∈ wG h (q.getD p 0))) = [])
noncomputable abbrev OkN (k : Ky) : Prop :=
 (∀ t, Nu k.1.1.length (gK k t) (gK k !t) (tK k t)) /\ k.1.1.length <= 7 /\ (∀ a ∈ enN (gK k false), ∀ b ∈ enN (gK k true), (a.filter fun x => decide (x ∈ b)).length = 1)
  /\ rO (uF (List.range k.1.1.length) (gK k false) (gK k true)) k.1.1.length k.2.2 (k.2.2.map fun x => [x]) /\ ∀ x ∈ k.2.2, x < k.1.1.length
noncomputable def okK (k : Ky) : Bool := decide (OkN k)
theorem Kc {k : Ky} (h : okK k = true) : OkN k := of_decide_eq_true h
theorem Ec {p : α -> Bool} {l : List α} (n : Nat) (h : (l.take n).all p = true) (g : (l.drop n).all p = true) : l.all p = true := by rw [<- List.take_append_drop n l, List.all_append, h, g]; rfl
theorem Kd : (Ea.take 40).all okK = true := by decide +kernel
theorem Ke : (Ea.drop 40).all okK = true := by decide +kernel
theorem Ho : Ea.all okK = true := Ec 40 Kd Ke
theorem Nv {F : Fo α} (o : F.ok) (h0 : F.sz ≠ 0) (h7 : F.sz <= 7) : OkN (key (F.idx 0)) := by
 have e := Fo.DW (fun _ => ()) F
 have h := Hl 7 (F.map fun _ => ()) (Fo.J8 _ o) (e ▸ h7)
 rw [<- Fo.vX fun _ => ()]
 rw [<- e] at h0
 generalize F.map (fun _ => ()) = G at h h0
 cases e : (tab 7)[G.sz]? with
 | none => rw [e] at h; cases h
 | some l =>
  rw [e] at h
  exact Kc (List.all_eq_true.mp Ho _ (Eb (lM (f := fun F => key (F.idx 0)) (List.mem_filter.mpr ⟨List.mem_flatten.mpr ⟨l, lG e, h⟩, show (G.sz != 0) = true from bne_iff_ne.mpr h0⟩))))
noncomputable def Hp (w : List Nat) : List Nat := w.flatMap fun x => [47, 97 + x]
noncomputable def cg (w : List Nat) : Str := if w = [] then "/" else ⟨(Hp w).toArray⟩
noncomputable def cZ : Nat -> List (List Nat)
 | 0 => [[]]
 | k + 1 => cZ k ++ (cZ k).map (· ++ [k])
theorem iZ {k : Nat} (h : j <= k) : ∀ w ∈ cZ j, w ∈ cZ k := by
 induction h with
 | refl => exact fun _ h => h
 | step _ ih => exact fun w hw => lL _ (ih w hw)
theorem jW : ∀ {k : Nat}, ∀ w ∈ cZ k, w.length <= k
 | 0, w, h => by rw [lS h]; exact Nat.le_refl _
 | k + 1, w, h => by
  rcases lA h with h | h
  ·exact Nat.le_succ_of_le (jW w h)
  ·obtain ⟨u, hu, rfl⟩ := List.mem_map.mp h
   rw [List.length_append]
   exact Nat.succ_le_succ (jW u hu)
noncomputable def Kf (w : List Nat) : Str := Txt.join "/" (w.map bG)
noncomputable abbrev Ed (w : List Nat) : Prop := w = [] \/
 ((Txt.startswith (cg w) "/" = true /\ (cg w).length <= 500 /\ (Builtin.Str.partsBetween (cg w) (Builtin.Str.occurrences (cg w) "/" 0 (cg w).length ((cg w).length + 1)) ("/" : Str).length).length <= 1000 /\ (Txt.split (cg w) "/").length <= 1000 /\ ∀ c ∈ Txt.split (cg w) "/", c.length <= 1000)
  /\ aV (cg w) = w.map bG /\ PyData.strOk (cg w) = true /\ cM (cg w.dropLast) (bG (w.getLastD 0)) = cg w
  /\ ∀ i < 8, JoinOk "/" ((w.take i).map bG) = true /\ (Kf (w.take i)).length <= 500 /\ zJ (("/" : Str) ++ Kf (w.take i)) = (w.take i).length)
noncomputable def okW (w : List Nat) : Bool := decide (Ed w)
theorem Hq : ((cZ 7).take 80).all okW = true := by decide +kernel
theorem Hr : ((cZ 7).drop 80).all okW = true := by decide +kernel
theorem zP : (cZ 7).all okW = true := Ec 80 Hq Hr
theorem dR {w : List Nat} (h : w ∈ cZ 7) : Ed w := of_decide_eq_true (List.all_eq_true.mp zP w h)
theorem iB {w : List Nat} (h : w ≠ []) : (cg w).cps.toList = Hp w := by
 unfold cg
 rw [if_neg h]
noncomputable abbrev ltW (u v : List Nat) : Prop := (cg u).cps.toList < (cg v).cps.toList
theorem Ht {w a : List Nat} (h : w ≠ []) : ltW w (w ++ i :: a) := by
 unfold ltW
 rw [iB h, iB (by simp)]
 unfold Hp
 rw [List.flatMap_append]
 generalize w.flatMap (fun x => [47, 97 + x]) = p
 induction p with
 | nil => exact .nil
 | cons x p ih => exact List.cons_lt_cons_iff.mpr (.inr ⟨rfl, ih⟩)
theorem Hw {w a b : List Nat} (h : i < j) : ltW (w ++ i :: a) (w ++ j :: b) := by
 unfold ltW
 rw [iB (by simp), iB (by simp)]
 unfold Hp
 rw [List.flatMap_append, List.flatMap_append]
 generalize w.flatMap (fun x => [47, 97 + x]) = p
 induction p with
 | nil => exact List.cons_lt_cons_iff.mpr (.inr ⟨rfl, List.cons_lt_cons_iff.mpr (.inl (Nat.add_lt_add_left h 97))⟩)
 | cons x p ih => exact List.cons_lt_cons_iff.mpr (.inr ⟨rfl, ih⟩)
theorem uG : ∀ xs ys : List Str, ∃ i, lcp xs ys = xs.take i
 | [], ys => ⟨0, by cases ys <;> rfl⟩
 | x :: xs, [] => ⟨0, rfl⟩
 | x :: xs, y :: ys => by
  unfold lcp
  obtain ⟨i, e⟩ := uG xs ys
  split
  ·exact ⟨i + 1, congrArg (x :: ·) e⟩
  ·exact ⟨0, rfl⟩
theorem xX (h : x ≠ y) (xs ys : List Str) : ∀ p : List Str, lcp (p ++ x :: xs) (p ++ y :: ys) = p
 | [] => if_neg h
 | z :: p => by
  show lcp (z :: _) (z :: _) = _
  unfold lcp
  rw [if_pos rfl]
  exact congrArg (z :: ·) (xX h xs ys p)
theorem uH {u v : List Nat} (hu : u ∈ cZ 7) (hv : v ∈ cZ 7) (u0 : u ≠ []) (v0 : v ≠ []) : ∃ i < 8, lcp (aV (cg u)) (aV (cg v)) = (u.take i).map bG := by
 rw [((dR hu).resolve_left u0).2.1, ((dR hv).resolve_left v0).2.1]
 obtain ⟨i, e⟩ := uG (u.map bG) (v.map bG)
 rw [e]
 by_cases h : i < 8
 ·exact ⟨i, h, List.map_take.symm⟩
 ·have := jW u hu
  exact ⟨7, by decide, by rw [List.take_of_length_le (by rw [List.length_map]; omega), List.take_of_length_le this]⟩
theorem Hx {w a b : List Nat} (h : i ≠ j) (hu : w ++ i :: a ∈ cZ 7) (hv : w ++ j :: b ∈ cZ 7) : fu (cg (w ++ i :: a)) (cg (w ++ j :: b)) = cI 1 w.length := by
 have h1 := (dR hu).resolve_left (by simp)
 have h2 := (dR hv).resolve_left (by simp)
 have hl := jW _ hu
 rw [List.length_append, List.length_cons] at hl
 have h3 := (h1.2.2.2.2 w.length (by omega)).2.2
 rw [List.take_append_of_le_length (Nat.le_refl _), List.take_length] at h3
 unfold fu cI vO
 rw [h1.2.1, h2.2.1, List.map_append, List.map_append, List.map_cons, List.map_cons, xX (fun e => h ?_)]
 ·show decide ((zJ (("/" : Str) ++ Kf w)).fmod 2 = 1) = _
  rw [h3]
 ·have := congrArg (fun s : Str => s.cps[0]?) e
  exact Nat.add_left_cancel (Option.some.inj this)
noncomputable abbrev lV (ups : List Int) (k : Int) : Str := (aB ups 7).getD k.toNat ""
theorem gM (ups : List Int) {k m j : Nat} (hj : j <= k) (hm : k <= m) : (aB ups m).getD j "" = (aB ups k).getD j "" := by
 induction hm with
 | refl => rfl
 | @step m h ih =>
  rw [<- ih, List.getD_eq_getElem?_getD, List.getD_eq_getElem?_getD, aB, List.getElem?_append_left (by rw [bZ]; exact Nat.lt_succ_of_le (Nat.le_trans hj h))]
structure zQ (ups : List Int) (p : Int) (j : Nat) : Prop where
 up : ups[j]? = some p
 ge : 0 <= p
 le : p.toNat <= j
 lt : j < 7
theorem mK {ups : List Int} (hu : dY ups) {p k : Int} (h : k ∈ ao ups p) : ∃ j : Nat, k = (j : Int) + 1 /\ zQ ups p j := by
 obtain ⟨z, hz, rfl⟩ := List.mem_map.mp h
 obtain ⟨hz, e⟩ := List.mem_filter.mp hz
 have hj : ups[z.1]? = some p := eq_of_beq e ▸ pL hz
 have h1 := hu.le _ _ hj
 exact ⟨z.1, rfl, hj, h1.1, Int.toNat_le.mpr h1.2, hu.len ▸ (List.getElem?_eq_some_iff.mp hj).1⟩
theorem zR {ups : List Int} {p : Int} (h : zQ ups p j) : lV ups ((j : Int) + 1) = cM (lV ups p) (bG j) := by
 show (aB ups 7).getD (j + 1) "" = _
 unfold lV
 rw [gM ups (Nat.le_refl _) h.lt, gM ups h.le (Nat.le_of_lt h.lt), List.getD_eq_getElem?_getD, aB, List.getElem?_append_right (Nat.le_of_eq (bZ ..)), bZ, Nat.sub_self]
 show cM ((aB ups j).getD (ups.getD j 0).toNat "") (bG j) = _
 rw [List.getD_eq_getElem?_getD (l := ups), h.up]; rfl
noncomputable abbrev AtW (ups : List Int) (x : Int × List Nat) : Prop := lV ups x.1 = cg x.2 /\ x.2 ∈ cZ x.1.toNat
theorem AtW.heir {ups : List Int} {p : Int} {w : List Nat} (a : AtW ups (p, w)) (h : zQ ups p j) : AtW ups ((j : Int) + 1, w ++ [j]) := by
 have hs : w ++ [j] ∈ cZ (j + 1) := lR _ (lM (f := (· ++ [j])) (iZ h.le w a.2))
 have := ((dR (iZ h.lt _ hs)).resolve_left (by simp)).2.2.2.1
 rw [List.dropLast_concat, List.getLastD_concat] at this
 exact ⟨(zR h).trans ((congrArg (cM · (bG j)) a.1).trans this), hs⟩
inductive Bl (ups : List Int) : Int -> List Nat -> List Int -> Fo (Int × List Nat) -> List (Int × List Nat) -> Prop
 | nil (p w : _) : Bl ups p w [] .nil []
 | lf {p w j L F P : _} (hh : zQ ups p j) (hl : ∀ x ∈ L, (j : Int) + 1 < x) (e : ao ups ((j : Int) + 1) = []) (r : Bl ups p w L F P) : Bl ups p w (((j : Int) + 1) :: L) (.lf ((j : Int) + 1, w ++ [j]) F) (((j : Int) + 1, w ++ [j]) :: P)
 | nd {p w j L F P C Q : _} (hh : zQ ups p j) (hl : ∀ x ∈ L, (j : Int) + 1 < x) (e : ao ups ((j : Int) + 1) ≠ []) (c : Bl ups ((j : Int) + 1) (w ++ [j]) (ao ups ((j : Int) + 1)) C Q) (r : Bl ups p w L F P) : Bl ups p w (((j : Int) + 1) :: L) (.nd C F) (((j : Int) + 1, w ++ [j]) :: (Q ++ P))
noncomputable abbrev Fuel (f : Nat) (L : List Int) : Prop := ∀ j : Nat, (j : Int) + 1 ∈ L -> 7 <= j + f
section
variable {ups : List Int} {p : Int} {f : Nat}
theorem Fuel.up (hu : dY ups) {j : Nat} (h : 7 <= j + (f + 1)) : Fuel f (ao ups ((j : Int) + 1)) := fun i hi => by
 obtain ⟨k, e, hk⟩ := mK hu hi
 have e : i = k := Nat.succ.inj (Int.ofNat.inj e)
 subst e
 exact Nat.le_trans h (Nat.le_trans (Nat.le_of_eq (Nat.succ_add j f).symm) (Nat.add_le_add_right hk.le f))
theorem Fuel.lt {L : List Int} (h : Fuel f (((j : Int) + 1) :: L)) (hh : zQ ups p j) : ∃ f', f = f' + 1 := by
 cases f with
 | zero => exact absurd hh.lt (Nat.not_lt.mpr (h j (.head _)))
 | succ f => exact ⟨f, rfl⟩
theorem Ny (hu : dY ups) (f : Nat) : ∀ (p : Int) (w : List Nat) (L : List Int), (∀ h ∈ L, h ∈ ao ups p) -> Fuel f L -> L.Pairwise (· < ·) -> ∃ F P, Bl ups p w L F P := by
 induction f with
 | zero =>
  intro p w L hL hf _
  cases L with
  | nil => exact ⟨_, _, .nil p w⟩
  | cons h L =>
   obtain ⟨j, rfl, hj⟩ := mK hu (hL h (.head _))
   exact absurd hj.lt (Nat.not_lt.mpr (hf j (.head _)))
 | succ f ih =>
  intro p w L hL hf hp
  cases L with
  | nil => exact ⟨_, _, .nil p w⟩
  | cons h L =>
   have hp := List.pairwise_cons.mp hp
   obtain ⟨j, rfl, hj⟩ := mK hu (hL h (.head _))
   obtain ⟨F, P, r⟩ := ih p w L (fun x hx => hL x (.tail _ hx)) (fun i hi => by
    have h1 := hf j (.head _)
    have h2 := Int.ofNat_lt.mp (Int.lt_of_add_lt_add_right (hp.1 _ hi))
    exact Nat.le_trans h1 (Nat.le_trans (Nat.le_of_eq (Nat.succ_add j f).symm) (Nat.add_le_add_right h2 f))) hp.2
   by_cases e : ao ups ((j : Int) + 1) = []
   ·exact ⟨_, _, .lf hj hp.1 e r⟩
   ·obtain ⟨C, Q, c⟩ := ih ((j : Int) + 1) (w ++ [j]) _ (fun x hx => hx) (.up hu (hf j (.head _))) (dG ups _)
    exact ⟨_, _, .nd hj hp.1 e c r⟩
end
namespace Bl
section
variable {ups : List Int} {p : Int} {w : List Nat} {L : List Int} {F : Fo (Int × List Nat)} {P : List (Int × List Nat)}
theorem told (hu : dY ups) {t : Int} (ht : t = 0 \/ t = 1) (B : Bl ups p w L F P) : ∀ (f : Nat) (d : Int) acc, Fuel f L -> L.foldl (fun lines h => eG (cI t d) lines (cu ups t f h (d + 1))) acc = (F.map (·.1)).told (cI t d) acc := by
 induction B with
 | nil => exact fun _ _ _ _ => rfl
 | lf hh hl e r ih =>
  intro f d acc hf
  obtain ⟨f, rfl⟩ := hf.lt hh
  rw [List.foldl_cons, ih _ _ _ fun x hx => hf x (.tail _ hx), cu, if_pos e]
  rfl
 | nd hh hl e c r ihc ih =>
  intro f d acc hf
  obtain ⟨f, rfl⟩ := hf.lt hh
  rw [List.foldl_cons, ih _ _ _ fun x hx => hf x (.tail _ hx), cu, if_neg e, ihc f (d + 1) _ (.up hu (hf _ (.head _))), jQ ht]
  rfl
theorem walk (hu : dY ups) (B : Bl ups p w L F P) : ∀ (f : Nat) (d : Int), Fuel f L -> (if d.fmod 2 = 1 then L.reverse else L).flatMap (fun h => bR ups f h (d + 1)) = (F.map (·.1)).wk (cI 1 d) := by
 have app : ∀ (d : Int) (f : Nat) (h : Int) (L X Y : List Int), bR ups f h (d + 1) = X -> (if d.fmod 2 = 1 then L.reverse else L).flatMap (fun h => bR ups f h (d + 1)) = Y -> (if d.fmod 2 = 1 then (h :: L).reverse else h :: L).flatMap (fun h => bR ups f h (d + 1)) = if cI 1 d then Y ++ X else X ++ Y := fun d f h L X Y e1 e2 => by
  unfold cI
  by_cases z : d.fmod 2 = 1
  ·rw [if_pos z] at e2 ⊢
   rw [if_pos (decide_eq_true z), List.reverse_cons, List.flatMap_append, e2, List.flatMap_singleton, e1]
  ·rw [if_neg z] at e2 ⊢
   rw [if_neg (by simpa using z), List.flatMap_cons, e1, e2]
 induction B with
 | nil => exact fun f d _ => by split <;> rfl
 | lf hh hl e r ih =>
  intro f d hf
  obtain ⟨f, rfl⟩ := hf.lt hh
  exact app d (f + 1) _ _ [_] _ (by rw [bR, if_pos e, e, List.reverse_nil, ite_self]; rfl) (ih (f + 1) d fun x hx => hf x (.tail _ hx))
 | nd hh hl e c r ihc ih =>
  intro f d hf
  obtain ⟨f, rfl⟩ := hf.lt hh
  have h2 := ihc f (d + 1) (.up hu (hf _ (.head _)))
  rw [jQ (.inr rfl)] at h2
  exact app d (f + 1) _ _ _ _ (by rw [bR, if_neg e, h2]; rfl) (ih (f + 1) d fun x hx => hf x (.tail _ hx))
theorem size (B : Bl ups p w L F P) : F.ok /\ F.sz = P.length /\ (L ≠ [] -> F.sz ≠ 0) := by
 induction B with
 | nil => exact ⟨trivial, rfl, fun h => absurd rfl h⟩
 | lf hh hl e r ih => exact ⟨ih.1, congrArg (· + 1) ih.2.1, fun _ => Nat.succ_ne_zero _⟩
 | @nd _ _ _ _ F P C Q hh hl e c r ihc ih =>
  refine ⟨⟨ihc.2.2 e, ihc.1, ih.1⟩, ?_, fun _ => Nat.succ_ne_zero _⟩
  show C.sz + F.sz + 1 = (Q ++ P).length + 1
  rw [ihc.2.1, ih.2.1, List.length_append]
theorem lv (B : Bl ups p w L F P) : F.lv = P.filter fun x => decide (ao ups x.1 = []) := by
 induction B with
 | nil => rfl
 | lf hh hl e r ih => rw [List.filter_cons, if_pos (decide_eq_true e), <- ih]; rfl
 | nd hh hl e c r ihc ih => rw [List.filter_cons, if_neg (by simpa using e), List.filter_append, <- ihc, <- ih]; rfl
inductive Ext (w : List Nat) (L : List Int) (x : Int × List Nat) : Prop
 | mk (j : Nat) (a : List Nat) (h : (j : Int) + 1 ∈ L) (e : x.2 = w ++ j :: a) : Ext w L x
theorem ext (B : Bl ups p w L F P) : ∀ x ∈ P, Ext w L x := by
 have up : ∀ {w : List Nat} {L : List Int} {h : Int} {x : Int × List Nat}, Ext w L x -> Ext w (h :: L) x := fun ⟨j, a, h, e⟩ => ⟨j, a, .tail _ h, e⟩
 induction B with
 | nil => exact fun _ h => nomatch h
 | lf hh hl e r ih => exact fun x hx => (lC hx).elim (fun z => ⟨_, [], .head _, congrArg (·.2) z⟩) fun hx => up (ih x hx)
 | nd hh hl e c r ihc ih =>
  refine fun x hx => (lC hx).elim (fun z => ⟨_, [], .head _, congrArg (·.2) z⟩) fun hx => (lA hx).elim (fun hx => ?_) fun hx => up (ih x hx)
  obtain ⟨i, a, _, z⟩ := ihc x hx
  exact ⟨_, i :: a, .head _, by rw [z, List.append_assoc]; rfl⟩
noncomputable abbrev NodeOk (ups : List Int) (x : Int × List Nat) : Prop := AtW ups x /\ ∃ j : Nat, x.1 = (j : Int) + 1 /\ j < 7
theorem at_ (B : Bl ups p w L F P) : AtW ups (p, w) -> ∀ x ∈ P, NodeOk ups x := by
 induction B with
 | nil => exact fun _ _ h => nomatch h
 | lf hh hl e r ih => exact fun a x hx => (lC hx).elim (fun z => z ▸ ⟨a.heir hh, _, rfl, hh.lt⟩) (ih a x)
 | nd hh hl e c r ihc ih => exact fun a x hx => (lC hx).elim (fun z => z ▸ ⟨a.heir hh, _, rfl, hh.lt⟩) fun hx => (lA hx).elim (ihc (a.heir hh) x) (ih a x)
theorem sub (B : Bl ups p w L F P) : (∀ h ∈ L, h ∈ P.map (·.1)) /\ ∀ x ∈ P, ∀ k ∈ ao ups x.1, k ∈ P.map (·.1) := by
 induction B with
 | nil => exact ⟨fun _ h => (nomatch h), fun _ h => (nomatch h)⟩
 | lf hh hl e r ih =>
  refine ⟨fun h hm => List.mem_cons.mpr ((lC hm).imp id (ih.1 h)), fun x hx k hk => ?_⟩
  rcases lC hx with rfl | hx
  ·rw [e] at hk; cases hk
  ·exact .tail _ (ih.2 x hx k hk)
 | nd hh hl e c r ihc ih =>
  rw [List.map_cons, List.map_append]
  refine ⟨fun h hm => List.mem_cons.mpr ((lC hm).imp id fun hm => lR _ (ih.1 h hm)), fun x hx k hk => .tail _ ?_⟩
  rcases lC hx with rfl | hx
  ·exact lL _ (ihc.1 k hk)
  ·exact (lA hx).elim (fun hx => lL _ (ihc.2 x hx k hk)) fun hx => lR _ (ih.2 x hx k hk)
theorem xY (z : (j : Int) + 1 < (i : Int) + 1) : j < i := Int.ofNat_lt.mp (Int.lt_of_add_lt_add_right z)
theorem sorted (B : Bl ups p w L F P) : P.Pairwise fun x y => ltW x.2 y.2 := by
 have up : ∀ {p : Int} {j : Nat} {w : List Nat} {L : List Int} {F P}, (∀ x ∈ L, (j : Int) + 1 < x) -> Bl ups p w L F P -> ∀ a, ∀ y ∈ P, ltW (w ++ j :: a) y.2 := fun hl r a y hy => by
  obtain ⟨i, b, hx, e⟩ := r.ext y hy
  rw [e]
  exact Hw (xY (hl _ hx))
 induction B with
 | nil => exact .nil
 | lf hh hl e r ih => exact .cons (up hl r []) ih
 | nd hh hl e c r ihc ih =>
  refine .cons (fun y hy => (lA hy).elim (fun hy => ?_) (up hl r [] y)) (List.pairwise_append.mpr ⟨ihc, ih, fun x hx y hy => ?_⟩)
  ·obtain ⟨_, a, _, z⟩ := c.ext y hy
   rw [z]
   exact Ht (by simp)
  ·obtain ⟨_, a, _, e⟩ := c.ext x hx
   rw [e, List.append_assoc]
   exact up hl r _ y hy
end
end Bl
noncomputable def pB (t : Bool) : List Str -> List Str -> Gr
 | _, [] => []
 | pre, x :: L => (x, pre.filter fun e => fu e x == t) :: pB t (pre ++ [x]) L
theorem Ef (t : Bool) (L : List Str) : ∀ (pre : List Str), pB t pre L = L.zip ((List.range L.length).map fun j => (pre ++ L.take j).filter fun e => fu e (L.getD j "") == t) := by
 induction L with
 | nil =>
  intro _
  exact rfl
 | cons x L ih =>
  intro pre
  rw [pB, ih, List.length_cons, List.range_succ_eq_map, List.map_cons, List.map_map, List.zip_cons_cons, List.take_zero, List.append_nil]
  congr 3
  funext j
  show _ = (pre ++ x :: L.take j).filter fun e => fu e (L.getD j "") == t
  rw [List.append_assoc]; rfl
theorem Eh (t : Bool) (A : List Str) : ∀ (pre : List Str) (B : List Str), pB t pre (A ++ B) = pB t pre A ++ pB t (pre ++ A) B := by
 induction A with
 | nil =>
  intro pre B
  rw [List.append_nil]; rfl
 | cons x A ih =>
  intro pre B
  show _ :: pB t _ (A ++ B) = _
  rw [ih, List.append_assoc]; rfl
theorem xZ {t : Bool} {pre o A : List Str} (h : ∀ u ∈ A, fu u y = b) (ho : (pre.filter fun e => fu e y == t) = o) : ((pre ++ A).filter fun e => fu e y == t) = Fo.lE (b == t) o A := by
 rw [List.filter_append, ho]
 unfold Fo.lE
 cases z : b == t with
 | true => rw [List.filter_eq_self.mpr fun u hu => by rw [h u hu]; exact z]; rfl
 | false => rw [List.filter_eq_nil_iff.mpr fun u hu => by rw [h u hu, z]; exact Bool.false_ne_true, List.append_nil]; rfl
noncomputable abbrev sW (x : Int × List Nat) : Str := cg x.2
namespace Bl
section
variable {ups : List Int} {p : Int} {w : List Nat} {L : List Int} {F : Fo (Int × List Nat)} {P : List (Int × List Nat)}
theorem Hy (B : Bl ups p w L F P) (a : AtW ups (p, w)) : ∀ x ∈ P, x.2 ∈ cZ 7 := fun x hx => by
 obtain ⟨⟨_, hs⟩, j, e, hj⟩ := B.at_ a x hx
 rw [e] at hs
 exact iZ hj _ hs
theorem oF (B : Bl ups p w L F P) {x : Int × List Nat} (h : x ∈ F.lv) : x ∈ P := by
 rw [B.lv] at h
 exact (List.mem_filter.mp h).1
theorem way (B : Bl ups p w L F P) (a : AtW ups (p, w)) {j : Nat} (hl : ∀ x ∈ L, (j : Int) + 1 < x) {b : List Nat} (hu7 : w ++ j :: b ∈ cZ 7) : ∀ y ∈ P, fu (cg (w ++ j :: b)) (sW y) = cI 1 w.length := fun y hy => by
 obtain ⟨i, c, hx, e⟩ := B.ext y hy
 have h7 := B.Hy a y hy
 unfold sW
 rw [e] at h7 ⊢
 exact Hx (Nat.ne_of_lt (xY (hl _ hx))) hu7 h7
theorem rows (B : Bl ups p w L F P) : AtW ups (p, w) -> ∀ t pre o, (∀ x ∈ F.lv, (pre.filter fun e => fu e (sW x) == t) = o) -> pB t pre (F.lv.map sW) = (F.map sW).gr (cI 1 w.length == t) o := by
 induction B with
 | nil => exact fun _ _ _ _ _ => rfl
 | lf hh hl e r ih =>
  intro a t pre o H
  show (_, _) :: pB t _ _ = (_, o) :: Fo.gr _ (Fo.lE _ o [_]) _
  rw [H _ (.head _), ih a t _ (Fo.lE _ o [_]) fun y hy => xZ (fun u hu' => ?_) (H y (.tail _ hy))]
  exact lS hu' ▸ r.way a hl (iZ hh.lt _ (a.heir hh).2) y (r.oF hy)
 | @nd p w j L F P C Q hh hl e c r ihc ih =>
  intro a t pre o H
  have a' := a.heir hh
  show pB t pre ((C.lv ++ F.lv).map sW) = Fo.gr _ o (C.map sW) ++ Fo.gr _ (Fo.lE _ o (C.map sW).lv) _
  rw [List.map_append, Eh, ihc a' t pre o fun x hx => H x (lL _ hx), Fo.oE, ih a t _ (Fo.lE _ o (C.lv.map sW)) fun y hy => xZ (fun u hu' => ?_) (H y (lR _ hy))]
  ·congr 2
   rw [List.length_append]
   show (cI 1 ((w.length + 1 : Nat) : Int) == t) = _
   rw [Int.natCast_succ, jQ (.inr rfl)]
   cases cI 1 w.length <;> cases t <;> rfl
  ·obtain ⟨x, hx, rfl⟩ := List.mem_map.mp hu'
   have hq := c.oF hx
   obtain ⟨i, b, _, z⟩ := c.ext x hq
   have h7 := c.Hy a' x hq
   unfold sW
   rw [z, List.append_assoc] at h7 ⊢
   exact r.way a hl h7 y (r.oF hy)
end
end Bl
theorem fX {ups : List Int} {p : Int} (h : ups[j]? = some p) : (j : Int) + 1 ∈ ao ups p := by
 refine List.mem_map.mpr ⟨(j, p), List.mem_filter.mpr ⟨?_, beq_self_eq_true _⟩, rfl⟩
 obtain ⟨hj, e⟩ := List.getElem?_eq_some_iff.mp h
 exact lG (i := j) (by unfold dh; rw [List.getElem?_map, List.getElem?_zipIdx, h]; simp)
structure Root (ups : List Int) (F : Fo (Int × List Nat)) (P : List (Int × List Nat)) : Prop where
 hu : dY ups
 bl : Bl ups 0 [] (ao ups 0) F P
theorem Hz {ups : List Int} (hu : dY ups) : ∃ F P, Root ups F P := by
 obtain ⟨F, P, B⟩ := Ny hu 7 0 [] (ao ups 0) (fun h hh => hh) (fun j _ => Nat.le_add_left 7 j) (dG ups 0)
 exact ⟨F, P, hu, B⟩
namespace Root
section
variable {ups : List Int} {F : Fo (Int × List Nat)} {P : List (Int × List Nat)} (rt : Root ups F P)
include rt
theorem top : AtW ups (0, []) := ⟨gM ups (Nat.le_refl 0) (Nat.zero_le 7), .head _⟩
theorem at_ : ∀ x ∈ P, Bl.NodeOk ups x := rt.bl.at_ rt.top
theorem Ei (h : j < 7) : ∃ m : Nat, ups[j]? = some (m : Int) /\ m <= j := by
 have e := List.getElem?_eq_getElem (rt.hu.len.symm ▸ h : j < ups.length)
 have hl := rt.hu.le j _ e
 generalize ups[j]'(rt.hu.len.symm ▸ h) = u at e hl
 obtain ⟨m, rfl⟩ := Int.eq_ofNat_of_zero_le hl.1
 exact ⟨m, e, Int.ofNat_le.mp hl.2⟩
theorem Kg : ups[0]? = some 0 := by
 obtain ⟨m, e, h⟩ := rt.Ei (j := 0) (by decide)
 rw [e, Nat.le_zero.mp h]; rfl
theorem nodes (j : Nat) : j < 7 -> (j : Int) + 1 ∈ P.map (·.1) := by
 induction j using Nat.strongRecOn with
 | ind j ih =>
  intro hj
  obtain ⟨m, e, hm⟩ := rt.Ei hj
  have hh := fX e
  cases m with
  | zero => exact rt.bl.sub.1 _ hh
  | succ i =>
   obtain ⟨x, hx, e⟩ := List.mem_map.mp (ih i hm (Nat.lt_trans hm hj))
   exact rt.bl.sub.2 x hx _ (e ▸ hh)
theorem nd : (P.map (·.1)).Nodup := by
 refine List.pairwise_map.mpr (rt.bl.sorted.imp_of_mem fun {x y} hx hy h e => ?_)
 have h1 := (rt.at_ x hx).1.1
 rw [e, (rt.at_ y hy).1.1] at h1
 unfold ltW at h
 rw [h1] at h
 exact List.lt_irrefl _ h
theorem size : F.sz <= 7 := by
 rw [rt.bl.size.2.1, <- List.length_map (f := fun x : Int × List Nat => x.1), <- List.length_range (n := 7), <- List.length_map (f := fun j : Nat => (j : Int) + 1)]
 refine Nat.le_of_eq (List.Perm.length_eq ((List.perm_ext_iff_of_nodup rt.nd (List.pairwise_map.mpr (List.nodup_range.imp fun h e => h (Nat.succ.inj (Int.ofNat.inj e))))).mpr fun k => ⟨fun hk => ?_, fun hk => ?_⟩))
 ·obtain ⟨x, hx, rfl⟩ := List.mem_map.mp hk
  obtain ⟨_, j, e, hj⟩ := rt.at_ x hx
  exact List.mem_map.mpr ⟨j, List.mem_range.mpr hj, e.symm⟩
 ·obtain ⟨j, hj, rfl⟩ := List.mem_map.mp hk
  exact rt.nodes j (List.mem_range.mp hj)
theorem Nz : F.sz ≠ 0 := rt.bl.size.2.2 (List.ne_nil_of_mem (fX rt.Kg))
theorem zT (i : Nat) : ao ups i = [] ↔ (i : Int) ∉ ups := by
 rw [List.eq_nil_iff_forall_not_mem]
 refine ⟨fun h hm => ?_, fun h k hk => ?_⟩
 ·obtain ⟨j, hj⟩ := List.getElem?_of_mem hm
  exact h _ (fX hj)
 ·obtain ⟨j, _, hj⟩ := mK rt.hu hk
  exact h (lG hj.up)
theorem leaves : bA ups = F.lv.map sW := by
 have hs : (F.lv.map sW).Pairwise fun a b => leS a b = true := by
  rw [rt.bl.lv]
  exact List.pairwise_map.mpr ((rt.bl.sorted.sublist List.filter_sublist).imp fun h => dH.mpr (List.le_of_lt h))
 refine (nU ?_ hs).symm
 have e : F.lv.map sW = (F.lv.map fun x => x.1.toNat).map fun i => (aB ups 7).getD i "" := by
  rw [List.map_map]
  exact List.map_congr_left fun x hx => ((rt.at_ x (rt.bl.oF hx)).1.1).symm
 rw [e]
 have hne : (F.lv.map fun x => x.1.toNat).Nodup := by
  rw [rt.bl.lv]
  refine List.pairwise_map.mpr (((List.pairwise_map.mp rt.nd).imp_of_mem fun {x y} hx hy h z => h ?_).sublist List.filter_sublist)
  obtain ⟨_, i, e1, _⟩ := rt.at_ x hx
  obtain ⟨_, j, e2, _⟩ := rt.at_ y hy
  rw [e1, e2] at z ⊢
  exact congrArg Int.ofNat z
 refine ((List.perm_ext_iff_of_nodup hne (List.nodup_range.sublist List.filter_sublist)).mpr fun i => ?_).map _
 rw [List.mem_filter, List.mem_range, Bool.not_eq_true', decide_eq_false_iff_not, <- rt.zT]
 constructor
 ·intro h
  obtain ⟨x, hx, rfl⟩ := List.mem_map.mp h
  rw [rt.bl.lv] at hx
  obtain ⟨hx, z⟩ := List.mem_filter.mp hx
  obtain ⟨_, j, e, hj⟩ := rt.at_ x hx
  rw [e] at z ⊢
  exact ⟨Nat.succ_lt_succ hj, of_decide_eq_true z⟩
 ·rintro ⟨h, z⟩
  cases i with
  | zero => exact absurd z (List.ne_nil_of_mem (fX rt.Kg))
  | succ j =>
   obtain ⟨x, hx, e⟩ := List.mem_map.mp (rt.nodes j (Nat.lt_of_succ_lt_succ h))
   refine List.mem_map.mpr ⟨x, ?_, by rw [e]; rfl⟩
   rw [rt.bl.lv]
   exact List.mem_filter.mpr ⟨hx, decide_eq_true (by rw [e]; exact z)⟩
theorem way (t : Bool) : gB (bA ups) t = (F.map sW).gr (!t) [] := by
 have h := rt.bl.rows rt.top t [] [] fun _ _ => rfl
 rw [Ef, <- rt.leaves] at h
 rw [show (!t) = (cI 1 (List.length ([] : List Nat)) == t) by cases t <;> rfl, <- h]; rfl
end
end Root
theorem vY (x : List Str) : ∀ y : List Str, PyData.eqv (sL x) (sL y) = decide (x = y) := by
 induction x with
 | nil => exact fun y => by cases y <;> rfl
 | cons a x ih =>
  intro y
  cases y with
  | nil => rfl
  | cons b y =>
   have h : PyData.eqvAll (x.map .str) (y.map .str) = decide (x = y) := ih y
   show ((a == b) && PyData.eqvAll (x.map .str) (y.map .str)) = _
   rw [h, Bool.eq_iff_iff]
   simp
theorem Ej (x : List Str) (l : List (List Str)) : ((l.map sL).any fun y => PyData.eqv y (sL x)) = decide (x ∈ l) := by
 rw [List.any_map, Bool.eq_iff_iff, List.any_eq_true, decide_eq_true_iff]
 constructor
 ·rintro ⟨y, hy, e⟩
  rw [Function.comp, vY] at e
  exact of_decide_eq_true e ▸ hy
 ·exact fun h => ⟨x, h, by rw [Function.comp, vY]; exact decide_eq_true rfl⟩
theorem uI (l : List (List Str)) (h : l.Nodup) : dedup (l.map sL) = l.map sL := by
 have key : ∀ l acc : List (List Str), (acc ++ l).Nodup -> (l.map sL).foldl (fun acc d => if acc.any (fun y => PyData.eqv y d) then acc else acc ++ [d]) (acc.map sL) = (acc ++ l).map sL := fun l => by
  induction l with
  | nil => intro acc _; rw [List.append_nil]; rfl
  | cons x l ih =>
   intro acc h
   rw [List.map_cons, List.foldl_cons, Ej, if_neg (fun z => (List.nodup_append.mp h).2.2 x (of_decide_eq_true z) x (.head _) rfl)]
   have := ih (acc ++ [x])
   rw [List.append_assoc, List.map_append] at this
   exact this h
 exact key l [] h
theorem HB (x : List Str) (l : List (List Str)) : lX (sL x) (l.map sL) = (l.erase x).map sL := by
 induction l with
 | nil => rfl
 | cons y l ih =>
  rw [List.map_cons, lX, vY, List.erase_cons, ih]
  by_cases z : y = x <;> simp [z]
theorem Ek {a b : List (List Str)} (p : b.Perm a) (nd : a.Nodup) : tC (a.map sL) (b.map sL) = true := by
 have key : ∀ es l : List (List Str), l.Perm es -> dM (l.map sL) (es.map sL) = some [] := fun es => by
  induction es with
  | nil => intro l h; rw [h.eq_nil]; rfl
  | cons e es ih =>
   intro l h
   rw [List.map_cons, dM, Ej, if_pos (decide_eq_true (h.mem_iff.mpr (.head _))), HB]
   have := h.erase e
   rw [List.erase_cons_head] at this
   exact ih _ this
 unfold tC
 rw [uI _ nd, uI _ (p.nodup_iff.mpr nd), key _ _ p]
 rfl
theorem NK (g : Gn) (k : Nat) : wG g k = [] \/ ∃ p ∈ g, wG g k = p.2 := by
 unfold wG cj
 cases e : g.find? fun p => decide (p.1 = k) with
 | none => exact .inl rfl
 | some p => exact .inr ⟨p, List.mem_of_find?_eq_some e, rfl⟩
noncomputable abbrev Kh (g : Gn) (L : List Nat) (kvs : List (Nat × List (List Nat))) : List (Nat × List (List Nat)) := L.foldl (fun kvs leaf => kvs ++ [(leaf, fW g kvs leaf)]) kvs
theorem Kl (g : Gn) (L : List Nat) : ∀ kvs, Ka g L kvs = true -> ∀ i x, L[i]? = some x -> (∀ e ∈ dI g x, e ∈ (Kh g (L.take i) kvs).map (·.1) /\ ∀ l ∈ lk (Kh g (L.take i) kvs) e, l.length <= 10) /\ ((dI g x).flatMap (lk (Kh g (L.take i) kvs))).length <= 1000 := by
 induction L with
 | nil => exact fun _ _ _ _ h => nomatch h
 | cons y L ih =>
  intro kvs h i x hx
  obtain ⟨h1, h2⟩ := Bool.and_eq_true_iff.mp h
  cases i with
  | zero => cases hx; exact of_decide_eq_true h1
  | succ i => exact ih _ h2 i x hx
section
variable {f : Nat -> Str} {g h : Gn} {T : List (List Nat)}
theorem qF (f : Nat -> Str) (gs : List (List Nat)) : (gs.map (List.map f)).flatten = gs.flatten.map f := List.map_flatten.symm
theorem El (N : Nm n f) : rI (cL f g) (bJ (cL f g) ((gsN g).map (List.map f)).flatten) = (enN g).map (List.map f) := by
 rw [qF, jw N.inj, DR N.inj]; rfl
theorem NP (N : Nm n f) (hs : ∀ i < n, PyData.strOk (f i) = true) (w : Nu n g h T) (n7 : n <= 7) : Dy (cL f g) ((gsN g).map (List.map f)) := by
 obtain ⟨⟨_, ks, su, pm, ln⟩, ⟨_, _, tot, _⟩, _⟩ := w
 have eL := qF f (gsN g)
 have eE := El (g := g) N
 have hp := (gH (gsN g).flatten).symm
 rw [pm] at hp
 have hm : ∀ {x}, x ∈ (gsN g).flatten ↔ x < n := hp.mem_iff.trans List.mem_range
 have hl := hp.length_eq
 rw [List.length_range] at hl
 have hnd := hp.nodup_iff.mpr List.nodup_range
 have hk : cA (cL f g) = (List.range n).map f := by rw [lD, ks]
 have hw : ∀ i, (wG g i).length <= 7 /\ ∀ x ∈ wG g i, x < n := fun i => by
  rcases NK g i with e | ⟨p, hp, e⟩
  ·rw [e]; exact ⟨Nat.zero_le _, fun _ h => nomatch h⟩
  ·rw [e]; exact su p hp
 have hat : ∀ (i : Nat) k, ((gsN g).flatten.map f)[i]? = some k -> ∃ x, (gsN g).flatten[i]? = some x /\ f x = k := fun i k hk => by
  rw [List.getElem?_map] at hk
  exact Option.map_eq_some_iff.mp hk
 have hln : ∀ (i : Nat) x, (gsN g).flatten[i]? = some x -> (∀ e ∈ dI g x, e ∈ (gsN g).flatten.take i /\ ∀ l ∈ lk (bJ g ((gsN g).flatten.take i)) e, l.length <= 10) /\ ((dI g x).flatMap (lk (bJ g ((gsN g).flatten.take i)))).length <= 1000 := fun i x hx => by
  have := Kl g _ _ ln i x hx
  exact ⟨fun e he => ⟨ju g ((gsN g).flatten.take i) ▸ (this.1 e he).1, (this.1 e he).2⟩, this.2⟩
 refine ⟨?_, ?_, ?_, ?_, ?_, ?_, ?_, ?_, ?_, ?_, ?_, ?_⟩
 ·rw [hk]
  intro k hk
  obtain ⟨i, hi, rfl⟩ := List.mem_map.mp hk
  exact hs i (List.mem_range.mp hi)
 ·rw [hk]
  intro k hk x hx
  obtain ⟨i, hi, rfl⟩ := List.mem_map.mp hk
  rw [gF N.inj] at hx
  obtain ⟨j, hj, rfl⟩ := List.mem_map.mp hx
  exact lM (List.mem_range.mpr ((hw i).2 j hj))
 ·rw [eL, hk]
  intro k hk
  obtain ⟨i, hi, rfl⟩ := List.mem_map.mp hk
  exact lM (List.mem_range.mpr (hm.mp hi))
 ·rw [eL]
  exact List.pairwise_map.mpr (hnd.imp fun z e => z (N.inj _ _ e))
 ·rw [hk, List.length_map, List.length_range]; omega
 ·rw [hk]
  intro k hk
  obtain ⟨i, hi, rfl⟩ := List.mem_map.mp hk
  rw [gF N.inj, List.length_map]
  have := (hw i).1
  omega
 ·rw [eL, List.length_map]; omega
 ·rw [eL]
  intro i k hk e he
  obtain ⟨x, hx, rfl⟩ := hat i k hk
  rw [iY N.inj] at he
  obtain ⟨y, hy, rfl⟩ := List.mem_map.mp he
  rw [<- List.map_take]
  exact lM ((hln i x hx).1 y hy).1
 ·rw [eL, oh N.inj]
  intro k hk
  obtain ⟨x, hx, rfl⟩ := List.mem_map.mp hk
  have := (List.mem_filter.mp hx).1
  rw [ks] at this
  exact lM (hm.mpr (List.mem_range.mp this))
 ·rw [eL]
  intro i k hk
  obtain ⟨x, hx, rfl⟩ := hat i k hk
  rw [<- List.map_take, jw N.inj, iY N.inj, List.flatMap_map]
  simp only [lkM N.inj]
  rw [<- List.map_flatMap, List.length_map]
  exact Nat.le_trans (hln i x hx).2 (by decide)
 ·rw [eL]
  intro i k hk e he line hl
  obtain ⟨x, hx, rfl⟩ := hat i k hk
  rw [iY N.inj] at he
  obtain ⟨y, hy, rfl⟩ := List.mem_map.mp he
  rw [<- List.map_take, jw N.inj, lkM N.inj] at hl
  obtain ⟨l, hll, rfl⟩ := List.mem_map.mp hl
  rw [List.length_map]
  exact Nat.le_trans (((hln i x hx).1 y hy).2 l hll) (by decide)
 ·rw [eE, List.length_map]
  exact Nat.le_trans tot (by decide)
theorem oG (N : Nm n f) {P : List Nat} {gs : List (List Nat)} (s : rO g n P gs) : nZ (cL f g) (gs.map (List.map f)) :=
 gJ.J7 N s.2.1 (fun x => P.length - P.idxOf x) (fun m hm x hx => by
  have h := (s.2.2 m hm x hx).1
  exact Nat.sub_lt_sub_left (Nat.lt_of_lt_of_le h List.idxOf_le_length) h) (fun m hm x hx => (s.2.2 m hm x hx).2) (by decide) s.1
theorem qG {rows : List (List Nat)} (hs : ∀ i < n, PyData.strOk (f i) = true) (h : ∀ l ∈ rows, ∀ x ∈ l, x < n) (hl : rows.length <= 1000) : iJ ((rows.map (List.map f)).map sL) := by
 have hd : ∀ d ∈ (rows.map (List.map f)).map sL, ∃ l ∈ rows, d = sL (l.map f) := fun d hd => by
  rw [List.map_map] at hd
  obtain ⟨l, hl, rfl⟩ := List.mem_map.mp hd
  exact ⟨l, hl, rfl⟩
 refine ⟨fun d h' => ?_, fun d h' => ?_, by rw [List.length_map, List.length_map]; omega⟩
 ·obtain ⟨l, hl, rfl⟩ := hd d h'
  exact iV fun x hx => by
   obtain ⟨i, hi, rfl⟩ := List.mem_map.mp hx
   exact hs i (h l hl i hi)
 ·obtain ⟨l, hl, rfl⟩ := hd d h'
  exact xM _
theorem Em (N : Nm n f) (ks : List Nat) : uF (ks.map f) (cL f g) (cL f h) = cL f (uF ks g h) := by
 unfold uF cL
 rw [List.map_map, List.map_map]
 refine List.map_congr_left fun k _ => ?_
 show (f k, wG (cL f g) (f k) ++ _) = (f k, List.map f (_ ++ _))
 rw [gF N.inj, List.map_append, cJ (q := fun late => decide (k ∈ wG h late)) fun late => by
  show decide (f k ∈ wG (cL f h) (f late)) = _
  rw [gF N.inj, memD N.inj]]
structure Nam (ups : List Int) (f : Nat -> Str) (k : Ky) : Prop where
 nm : Nm k.1.1.length f
 ok : ∀ i < k.1.1.length, PyData.strOk (f i) = true
 lf : bA ups = (List.range k.1.1.length).map f
 g : ∀ t, gB (bA ups) t = cL f (gK k t)
 told : ∀ t, lU ups t = (tK k t).map (List.map f)
 walk : ((bR ups 8 0 0).map fun node => [(aB ups 7).getD node.toNat ""]) = (k.2.2.map fun x => [x]).map (List.map f)
theorem Nam.law {ups : List Int} {k : Ky} (M : Nam ups f k) (K : OkN k) (lv : jR (bA ups)) (pk : ∀ p ∈ aB ups 7, PyData.strOk p = true) (tn : ∀ t, ∀ line ∈ cu ups (cT t) 8 0 0, ∀ n ∈ line, 0 <= n /\ n <= 7) (wn : ∀ n ∈ bR ups 8 0 0, 0 <= n /\ n <= 7) : xT ups (bA ups) fun t => (gsN (gK k t)).map (List.map f) := by
 obtain ⟨K, n7, cr, bo, wl⟩ := K
 have N := M.nm
 have ml : ∀ {x}, x < k.1.1.length -> f x ∈ bA ups := fun hx => by
  rw [M.lf]
  exact lM (List.mem_range.mpr hx)
 have inj : ∀ {a b : List Nat}, a.map f = b.map f -> a = b := fun {a b} e => (List.map_inj_right fun a b => N.inj a b).mp e
 have eE : ∀ t, jd (bA ups) t ((gsN (gK k t)).map (List.map f)) = (enN (gK k t)).map (List.map f) := fun t => by
  unfold jd
  rw [M.g]
  exact El N
 have mq : ∀ t, ∀ q ∈ gsN (gK k t), ∀ x ∈ q, x < k.1.1.length := fun t q hq x hx => by
  have h := (gH (gsN (gK k t)).flatten).mem_iff (a := x)
  rw [(K t).1.2.2.2.1] at h
  exact List.mem_range.mp (h.mpr (List.mem_flatten.mpr ⟨q, hq, hx⟩))
 have tp : ∀ t, (tK k t).Perm (enN (gK k t)) := fun t => List.isPerm_iff.mp (K t).2.1.1
 refine ⟨lv, fun t => ?_, fun t => ?_, fun t => ?_, fun t => ?_, fun t => ?_, fun t => ?_, fun t => ?_, ?_, fun t => ?_, fun x hx => ?_, fun t => ?_, fun t => ?_, pk, tn, wn, ?_⟩
 ·rw [M.g]
  exact oG N (K t).1.1
 ·rw [M.g]
  exact NP N M.ok (K t) n7
 ·rw [eE]
  exact qG M.ok (fun l hl => ((K t).2.1.2.2.2 l hl).2) (K t).2.1.2.2.1
 ·rw [M.told]
  exact qG M.ok (fun l hl => ((K t).2.1.2.2.2 l ((tp t).mem_iff.mp hl)).2) ((tp t).length_eq ▸ (K t).2.1.2.2.1)
 ·rw [eE, M.told]
  exact Ek ((tp t).map _) (List.pairwise_map.mpr ((K t).2.1.2.1.imp fun z e => z (inj e)))
 ·rw [M.told, List.map_map, List.length_map]
  have h := (K t).2.2
  constructor
  ·obtain ⟨l, hl, e⟩ := List.mem_map.mp h.1
   exact List.mem_map.mpr ⟨l, hl, by rw [<- e]; simp⟩
  ·intro a ha
   obtain ⟨l, hl, rfl⟩ := List.mem_map.mp ha
   have := h.2.1 l hl
   simp
   exact this
 ·intro group hg place late hp
  obtain ⟨q, hq, rfl⟩ := List.mem_map.mp hg
  rw [List.getElem?_map] at hp
  obtain ⟨x, hx, rfl⟩ := Option.map_eq_some_iff.mp hp
  obtain ⟨hlt, e⟩ := List.getElem?_eq_some_iff.mp hx
  refine ⟨ml (mq t q hq x (lG hx)), ?_⟩
  have h := ((K t).2.2.2.2.2 q hq).2 place hlt
  rw [List.getD_eq_getElem?_getD, hx, Option.getD_some] at h
  rw [M.g, gF N.inj, <- List.map_take, cJ (q := fun e => !decide (e ∈ wG (gK k !t) x)) fun e => by rw [memD N.inj], h]
  rfl
 ·intro one h1 other h2
  rw [eE] at h1 h2
  obtain ⟨a, ha, rfl⟩ := List.mem_map.mp h1
  obtain ⟨b, hb, rfl⟩ := List.mem_map.mp h2
  rw [cJ (q := fun x => decide (x ∈ b)) fun e => memD N.inj e b, List.length_map]
  exact cr a ha b hb
 ·rw [List.length_map]
  exact Nat.le_trans (K t).2.2.2.2.1 (by decide)
 ·rw [M.lf] at hx
  obtain ⟨i, hi, rfl⟩ := List.mem_map.mp hx
  exact M.ok i (List.mem_range.mp hi)
 ·intro group hg
  obtain ⟨q, hq, rfl⟩ := List.mem_map.mp hg
  refine ⟨by rw [List.length_map]; exact Nat.le_trans ((K t).2.2.2.2.2 q hq).1 (by decide), fun x hx => ?_⟩
  obtain ⟨i, hi, rfl⟩ := List.mem_map.mp hx
  exact ml (mq t q hq i hi)
 ·rw [eE]
  intro line hl
  obtain ⟨l, hll, rfl⟩ := List.mem_map.mp hl
  have h := (K t).2.1.2.2.2 l hll
  refine ⟨by rw [List.length_map]; exact h.1, fun x hx => ?_⟩
  obtain ⟨i, hi, rfl⟩ := List.mem_map.mp hx
  exact ml (h.2 i hi)
 ·rw [M.walk]
  have := Em (g := gK k false) (h := gK k true) N (List.range k.1.1.length)
  rw [<- M.lf, <- M.g, <- M.g] at this
  show nZ (uF _ _ _) _
  rw [this]
  exact oG N bo
end
theorem zU {ls : List (List Nat)} (h : ∀ w ∈ ls, w ∈ cZ 7 /\ w ≠ []) (nd : (ls.map cg).Nodup) (few : ls.length <= 100) : jR (ls.map cg) := by
 have hw : ∀ p ∈ ls.map cg, ∃ w, w ∈ cZ 7 /\ w ≠ [] /\ cg w = p := fun p hp => by
  obtain ⟨w, hw, e⟩ := List.mem_map.mp hp
  exact ⟨w, (h w hw).1, (h w hw).2, e⟩
 refine ⟨nd, by rw [List.length_map]; exact few, fun p hp => ?_, fun p hp q hq => ?_, fun p hp q hq => ?_⟩
 ·obtain ⟨w, h1, h2, rfl⟩ := hw p hp
  have := ((dR h1).resolve_left h2).1
  exact ⟨this.1, this.2.1, this.2.2.1, this.2.2.2.1, this.2.2.2.2⟩
 ·obtain ⟨w, h1, h2, rfl⟩ := hw p hp
  obtain ⟨u, h3, h4, rfl⟩ := hw q hq
  obtain ⟨i, hi, e⟩ := uH h1 h3 h2 h4
  rw [e]
  exact (((dR h1).resolve_left h2).2.2.2.2 i hi).1
 ·obtain ⟨w, h1, h2, rfl⟩ := hw p hp
  obtain ⟨u, h3, h4, rfl⟩ := hw q hq
  obtain ⟨i, hi, e⟩ := uH h1 h3 h2 h4
  rw [e]
  exact (((dR h1).resolve_left h2).2.2.2.2 i hi).2.1
noncomputable def lW (ls : List Str) (i : Nat) : Str := ls[i]?.getD ⟨#[1000 + i]⟩
theorem jX {ls : List Str} (h : ls[i]? = some x) : lW ls i = x := by unfold lW; rw [h]; rfl
theorem HD {ls : List (List Nat)} (h : ∀ w ∈ ls, w ≠ []) (nd : (ls.map cg).Nodup) (so : (ls.map cg).Pairwise fun a b => leS a b = true) : Nm (ls.map cg).length (lW (ls.map cg)) := by
 have h47 : ∀ (x : Str) (i j : Nat), (ls.map cg)[i]? = some x -> x ≠ ⟨#[1000 + j]⟩ := fun x i j hx e => by
  obtain ⟨w, hw, rfl⟩ := List.mem_map.mp (lG hx)
  have := iB (h w hw)
  rw [e] at this
  cases w with
  | nil => exact h _ hw rfl
  | cons a w => exact absurd (List.cons.inj this).1 (by omega)
 refine ⟨fun i j e => ?_, fun i j hij hj => ?_⟩
 ·unfold lW at e
  cases hi : (ls.map cg)[i]? with
  | some x =>
   cases hj : (ls.map cg)[j]? with
   | some y =>
    rw [hi, hj] at e
    obtain ⟨h1, e1⟩ := List.getElem?_eq_some_iff.mp hi
    obtain ⟨h2, e2⟩ := List.getElem?_eq_some_iff.mp hj
    have np := List.pairwise_iff_getElem.mp nd
    have e3 := e1.trans (Eq.trans e e2.symm)
    rcases Nat.lt_trichotomy i j with z | z | z
    ·exact absurd e3 (np i j h1 h2 z)
    ·exact z
    ·exact absurd e3.symm (np j i h2 h1 z)
   | none => rw [hi, hj] at e; exact absurd e (h47 x i j hi)
  | none =>
   cases hj : (ls.map cg)[j]? with
   | some y => rw [hi, hj] at e; exact absurd e.symm (h47 y j i hj)
   | none =>
    rw [hi, hj] at e
    have : (1000 + i : Nat) = 1000 + j := (List.cons.inj (congrArg (fun s : Str => s.cps.toList) e)).1
    omega
 ·have hi := List.getElem?_eq_getElem (l := ls.map cg) (show i < _ from Nat.lt_of_le_of_lt hij hj)
  have hj' := List.getElem?_eq_getElem (l := ls.map cg) hj
  rw [jX hi, jX hj']
  rcases Nat.lt_or_eq_of_le hij with z | rfl
  ·exact List.pairwise_iff_getElem.mp so i j _ _ z
  ·exact dH.mpr (List.le_refl _)
theorem lF (f : α -> β) (F : Fo α) (s : Bool) : (F.map f).told s (d8 s) = (F.told s (d8 s)).map (List.map f) := by
 rw [<- Fo.DX]
 cases s <;> rfl
theorem Root.law {ups : List Int} {F : Fo (Int × List Nat)} {P : List (Int × List Nat)} (R : Root ups F P) : xT ups (bA ups) fun t => (gsN (gK (key (F.idx 0)) t)).map (List.map (lW (bA ups))) := by
 have K := Nv R.bl.size.1 R.Nz R.size
 have hm := fun {x} => R.bl.oF (x := x)
 have ev : F.lv.map sW = (F.lv.map (·.2)).map cg := by rw [List.map_map]; rfl
 have hL := R.leaves.trans ev
 have wk : ∀ w ∈ F.lv.map (·.2), w ∈ cZ 7 /\ w ≠ [] := fun w hw => by
  obtain ⟨x, hx, rfl⟩ := List.mem_map.mp hw
  refine ⟨R.bl.Hy R.top x (hm hx), fun e => ?_⟩
  obtain ⟨j, a, _, z⟩ := R.bl.ext x (hm hx)
  rw [e] at z
  exact absurd (congrArg List.length z) (by simp)
 have lt : (bA ups).Pairwise fun a b => a.cps.toList < b.cps.toList := by
  rw [R.leaves, R.bl.lv]
  exact List.pairwise_map.mpr (R.bl.sorted.sublist List.filter_sublist)
 have nd : (bA ups).Nodup := lt.imp fun {a b} h (e : a = b) => List.lt_irrefl _ (e ▸ h)
 have hS : (F.idx 0).map (lW (bA ups)) = F.map sW := by
  rw [<- Fo.vX sW]
  refine Fo.idx_map fun i x hx => ?_
  rw [Nat.zero_add]
  rw [Fo.oE, <- R.leaves] at hx
  exact jX hx
 have hN : (F.idx 0).map (fun i => ((F.lv.map (·.1))[i]?).getD 0) = F.map (·.1) := by
  rw [<- Fo.vX (·.1)]
  refine Fo.idx_map fun i x hx => ?_
  rw [Nat.zero_add]
  rw [Fo.oE] at hx
  rw [hx]; rfl
 have hP : (F.map (·.1)).map (lV ups) = F.map sW := by
  rw [Fo.map_map]
  exact Fo.map_congr fun x hx => (R.at_ x (hm hx)).1.1
 have hg : ∀ t, gB (bA ups) t = cL (lW (bA ups)) (gK (key (F.idx 0)) t) := fun t => by
  rw [R.way, <- hS, show gK (key (F.idx 0)) t = (F.idx 0).gr (!t) [] by cases t <;> rfl, <- Fo.J9]; rfl
 have hn : (key (F.idx 0)).1.1.length = (bA ups).length := by
  have := congrArg List.length (hg false)
  rw [show gK (key (F.idx 0)) false = (key (F.idx 0)).1.1 from rfl] at this
  unfold cL gB at this
  rw [List.length_map, List.length_zip, List.length_map, List.length_range, Nat.min_self] at this
  exact this.symm
 have hne : ao ups 0 ≠ [] := List.ne_nil_of_mem (fX R.Kg)
 have h8 : Fuel 7 (ao ups 0) := fun j _ => Nat.le_add_left 7 j
 have hT : ∀ t, cu ups (cT t) 8 0 0 = (F.map (·.1)).told (!t) (d8 (!t)) := fun t => by
  have := R.bl.told R.hu (t := cT t) (by cases t <;> decide) 7 0 (d8 (cI (cT t) 0)) h8
  rw [cu, if_neg hne, this]
  cases t <;> rfl
 have hW : bR ups 8 0 0 = (F.map (·.1)).wk false := by
  have := R.bl.walk R.hu 7 0 h8
  rw [bR, if_neg hne, this]; rfl
 have hk : ∀ t, tK (key (F.idx 0)) t = (F.idx 0).told (!t) (d8 (!t)) := fun t => by cases t <;> rfl
 have hok : ∀ w ∈ F.lv.map (·.2), PyData.strOk (cg w) = true := fun w hw => ((dR (wk w hw).1).resolve_left (wk w hw).2).2.2.1
 have M : Nam ups (lW (bA ups)) (key (F.idx 0)) := by
  refine ⟨?_, fun i hi => ?_, ?_, hg, fun t => ?_, ?_⟩
  ·rw [hn, hL]
   exact HD (fun w hw => (wk w hw).2) (hL ▸ nd) (hL ▸ lt.imp fun h => dH.mpr (List.le_of_lt h))
  ·rw [hn] at hi
   obtain ⟨x, e⟩ : ∃ x, (bA ups)[i]? = some x := ⟨_, List.getElem?_eq_getElem hi⟩
   rw [jX e]
   have := lG e
   rw [hL] at this
   obtain ⟨w, hw, e⟩ := List.mem_map.mp this
   exact e ▸ hok w hw
  ·refine List.ext_getElem (by rw [List.length_map, List.length_range, hn]) fun i h1 h2 => ?_
   rw [List.getElem_map, List.getElem_range]
   exact (jX (List.getElem?_eq_getElem h1)).symm
  ·show List.map (List.map (lV ups)) (cu ups (cT t) 8 0 0) = _
   rw [hT, hk, <- lF, hP, <- hS, lF]
  ·show List.map ((fun x => [x]) ∘ lV ups) _ = _
   rw [hW, <- List.map_map, <- Fo.vW, hP, <- hS, Fo.vW, List.map_map, List.map_map]; rfl
 have n17 : ∀ i < (key (F.idx 0)).1.1.length, 0 <= ((F.lv.map (·.1))[i]?).getD 0 /\ ((F.lv.map (·.1))[i]?).getD 0 <= 7 := fun i hi => by
  rw [hn, R.leaves, List.length_map] at hi
  rw [List.getElem?_map, List.getElem?_eq_getElem hi]
  obtain ⟨_, j, e, hj⟩ := R.at_ _ (hm (List.getElem_mem hi))
  rw [Option.map_some, Option.getD_some, e]
  exact ⟨Int.natCast_nonneg (j + 1), Int.ofNat_le.mpr hj⟩
 refine M.law K ?_ (fun p hp => ?_) (fun t line hl n hn => ?_) fun n hn => ?_
 ·rw [hL]
  refine zU wk (hL ▸ nd) ?_
  rw [hL, List.length_map] at hn
  rw [<- hn]
  exact Nat.le_trans K.2.1 (by decide)
 ·obtain ⟨i, hi, rfl⟩ := List.mem_iff_getElem.mp hp
  cases i with
  | zero =>
   have := gM ups (Nat.le_refl 0) (Nat.zero_le 7)
   rw [List.getD_eq_getElem?_getD, List.getElem?_eq_getElem hi] at this
   rw [show (aB ups 7)[0] = "/" from this]
   decide +kernel
  | succ j =>
   rw [bZ] at hi
   obtain ⟨x, hx, e⟩ := List.mem_map.mp (R.nodes j (Nat.lt_of_succ_lt_succ hi))
   have h1 := (R.at_ x hx).1.1
   rw [e, lV, show ((j : Int) + 1).toNat = j + 1 from rfl, List.getD_eq_getElem?_getD, List.getElem?_eq_getElem (by rw [bZ]; exact hi), Option.getD_some] at h1
   rw [h1]
   obtain ⟨i, a, _, z⟩ := R.bl.ext x hx
   exact ((dR (R.bl.Hy R.top x hx)).resolve_left (by rw [z]; exact List.cons_ne_nil _ _)).2.2.1
 ·rw [hT, <- hN, lF, <- hk] at hl
  obtain ⟨l, hll, rfl⟩ := List.mem_map.mp hl
  obtain ⟨i, hi, rfl⟩ := List.mem_map.mp hn
  exact n17 i (((K.1 t).2.1.2.2.2 l ((List.isPerm_iff.mp (K.1 t).2.1.1).mem_iff.mp hll)).2 i hi)
 ·rw [hW, <- hN, Fo.vW] at hn
  obtain ⟨i, hi, rfl⟩ := List.mem_map.mp hn
  exact n17 i (K.2.2.2.2 i hi)
theorem HF (ups : List Int) (hu : dY ups) : ∃ groups, xT ups (bA ups) groups := by
 obtain ⟨F, P, R⟩ := Hz hu
 exact ⟨_, R.law⟩
theorem law2 : WalkO qv1 lo1 (fun _ _ => True) hk1.says PySem.Challenge.rw_il0092_02.row.toRowW (dr1 33) [] fun f vs => PySem.call f vs := by
 refine join (l := PySem.Challenge.rw_il0092_02) rfl rfl (fun w h Y => ⟨_, kIn_of Y 1 _ rfl⟩) fun c mg mb hp hY W script hl => ?_
 obtain ⟨groups, h⟩ := HF _ (xR (vU script))
 exact Nr W (kIn_of hY) (by decide) script (by omega) h
end Mine
theorem PySem.Challenge.cw_il0092_02_holds : PySem.Challenge.rw_il0092_02.Holds := by
 exact Mine.Ml Mine.law2
