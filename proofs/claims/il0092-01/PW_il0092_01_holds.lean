import PyProof.Rows.All
import Wide.All
import OpenK.AllK
import Wide.FinOn
import KE.LcSums
import KE.KBoundM
import KE.KStar
import KE.KFromBytes
import KE.KDictIter
import PySem.Challenge.RW_il0092_01
set_option maxRecDepth 1000000
set_option Elab.async false
set_option maxHeartbeats 4000000
set_option genSizeOf false
set_option bootstrap.genMatcherCode false
set_option genInjectivity false
set_option linter.all false
local macro_rules | `(tactic| omega) => `(tactic| first | assumption | exact Mine.o1 (by assumption) (by rfl) | exact Mine.o2 (by assumption) (by rfl) | exact Mine.o3 (by assumption) (by rfl) | exact Mine.o4 (by assumption) (by rfl) | exact Mine.o5 (by assumption) (by rfl) | exact Mine.o6 | lia)
namespace Mine
open PySem PySem.Spec PySem.Calls PyProof.Rows PySem.W
section
variable {α β : Type} {a b : α} {l l' : List α} {M : Model} {A : Around} {E E' : Value -> Shared -> Prop} {s : Shared} {t : Sem α} {Q Q' : α -> Shared -> Prop}
theorem lS (h : a ∈ [b]) : a = b := List.mem_singleton.mp h
theorem lC (h : a ∈ b :: l) : a = b \/ a ∈ l := List.mem_cons.mp h
theorem lA (h : a ∈ l ++ l') : a ∈ l \/ a ∈ l' := List.mem_append.mp h
theorem lR (l : List α) (h : a ∈ l') : a ∈ l ++ l' := List.mem_append_right l h
theorem lL (l' : List α) (h : a ∈ l) : a ∈ l ++ l' := List.mem_append_left l' h
theorem lM {f : α -> β} (h : a ∈ l) : f a ∈ l.map f := List.mem_map_of_mem h
theorem lG {i : Nat} (h : l[i]? = some a) : a ∈ l := List.mem_of_getElem? h
theorem hP (h : Heap) {o : Obj} (e : o.isFreed = false) : (h.push o).get? h.objs.size = some o := Heap.get?_push_size h e
theorem wP (h : Q a s) : wpAny M A (pure a) Q E s := wpAny_pure h
theorem wM (h : wpAny M A t Q E s) (hQ : ∀ a s, Q a s -> Q' a s) (hE : ∀ e s, E e s -> E' e s) : wpAny M A t Q' E' s := wpAny_mono h hQ hE
theorem wK (h : wpAny M A t Q E s) (hQ : ∀ a s, Q a s -> Q' a s) : wpAny M A t Q' E s := wpAny_mono h hQ fun _ _ f => f
theorem o1 {l a b : Nat} (h : l < a) (e : Nat.ble (a + 1) b = true) : l + 1 < b := Nat.lt_of_lt_of_le (Nat.succ_lt_succ h) (Nat.le_of_ble_eq_true e)
theorem o2 {l a b : Nat} (h : l < a) (e : Nat.ble a b = true) : l < b := Nat.lt_of_lt_of_le h (Nat.le_of_ble_eq_true e)
theorem o3 {l a b : Nat} (h : l <= a) (e : Nat.ble a b = true) : l <= b := Nat.le_trans h (Nat.le_of_ble_eq_true e)
theorem o4 {l a b : Nat} (h : l <= a) (e : Nat.ble (a + 1) b = true) : l < b := Nat.lt_of_le_of_lt h (Nat.le_of_ble_eq_true e)
theorem o5 {l a b : Nat} (h : l < a) (e : Nat.ble a (b + 1) = true) : l <= b := Nat.le_of_lt_succ (Nat.lt_of_lt_of_le h (Nat.le_of_ble_eq_true e))
theorem o6 {n : Nat} : (0 : Int) <= (n : Int) := Int.natCast_nonneg n
theorem wB {m : Sem α} {f : α -> Sem β} {Q : β -> Shared -> Prop} (h : wpAny M A m (fun a s' => wpAny M A (f a) Q E s') E s) : wpAny M A (m >>= f) Q E s := wpAny_bind h
end
def aS (k : Lean.Name) (a : String) : Lean.Syntax := .node .none `Lean.Parser.Tactic.tacticSeq #[.node .none `Lean.Parser.Tactic.tacticSeq1Indented #[.node .none `null #[.node .none k #[Lean.mkAtom a]]]]
def aR : Lean.Syntax := aS `Lean.Parser.Tactic.tacticRfl "rfl"
def aK : Lean.Syntax := aS `tacticKernel_rfl "kernel_rfl"
section
theorem m0 {α : Type} {a : α} {l : List α} : a ∈ a :: l := .head _
theorem m1 {α : Type} {a b : α} {l : List α} : a ∈ b :: a :: l := .tail _ (.head _)
theorem m2 {α : Type} {a b c : α} {l : List α} : a ∈ b :: c :: a :: l := .tail _ (.tail _ (.head _))
theorem m3 {α : Type} {a b c d : α} {l : List α} : a ∈ b :: c :: d :: a :: l := .tail _ m2
theorem m4 {α : Type} {a b c d e : α} {l : List α} : a ∈ b :: c :: d :: e :: a :: l := .tail _ m3
theorem m5 {α : Type} {a b c d e f : α} {l : List α} : a ∈ b :: c :: d :: e :: f :: a :: l := .tail _ m4
theorem m6 {α : Type} {a b c d e f g : α} {l : List α} : a ∈ b :: c :: d :: e :: f :: g :: a :: l := .tail _ m5
theorem m7 {α : Type} {a b c d e f g h : α} {l : List α} : a ∈ b :: c :: d :: e :: f :: g :: h :: a :: l := .tail _ m6
theorem m8 {α : Type} {a b c d e f g h i : α} {l : List α} : a ∈ b :: c :: d :: e :: f :: g :: h :: i :: a :: l := .tail _ m7
theorem len_two {α : Type} {l : List α} (h : l.length = 2) : ∃ a b, l = [a, b] := by
 obtain ⟨a, t, rfl⟩ := List.exists_cons_of_length_eq_add_one h
 obtain ⟨b, rfl⟩ := List.length_eq_one_iff.mp (Nat.succ.inj h)
 exact ⟨a, b, rfl⟩
structure Cfg where
 prog : Program
 w : World
 base : Heap
 fr : List Addr := []
noncomputable abbrev Cfg.M (c : Cfg) : Model := model c.prog c.w
noncomputable abbrev Cfg.push (c : Cfg) (L : Addr) : Cfg := { c with fr := L :: c.fr }
noncomputable def NoFld (o : Obj) : Prop := ∀ vs, o.data ≠ .fields vs
structure HX (c : Cfg) (Y : List Addr) (h h' : Heap) : Prop where
 up : ∀ b o, b ∉ Y -> h.get? b = some o -> ∃ sl, h'.get? b = some { o with slots := sl } /\ (b ∈ c.fr \/ sl = o.slots)
 st : c.base.StaysIn h -> c.base.StaysIn h'
 lv : ∀ b o, b ∈ c.fr -> h.get? b = some o -> NoFld o -> ∃ o', h'.get? b = some o' /\ NoFld o'
namespace HX
variable {c : Cfg} {Y Y' : List Addr} {h h' h'' h₀ : Heap}
theorem refl (h : Heap) : HX c Y h h := ⟨fun _ o _ e => ⟨o.slots, e, .inr rfl⟩, id, fun _ o _ e n => ⟨o, e, n⟩⟩
theorem lvs (x : HX c Y h h') (y : HX c Y' h' h'') : ∀ b o, b ∈ c.fr -> h.get? b = some o -> NoFld o -> ∃ o', h''.get? b = some o' /\ NoFld o' := fun b o hb e n => by
 obtain ⟨o', e', n'⟩ := x.lv b o hb e n
 exact y.lv b o' hb e' n'
theorem ups {b : Addr} {o : Obj} (x : ∃ sl, h'.get? b = some { o with slots := sl } /\ (b ∈ c.fr \/ sl = o.slots)) (y : HX c Y h' h'') (hb : b ∉ Y) : ∃ sl, h''.get? b = some { o with slots := sl } /\ (b ∈ c.fr \/ sl = o.slots) := by
 obtain ⟨sl, e1, r1⟩ := x
 obtain ⟨sl2, e2, r2⟩ := y.up b _ hb e1
 refine ⟨sl2, e2, ?_⟩
 rcases r1 with r1 | r1
 ·exact .inl r1
 ·rcases r2 with r2 | r2
  ·exact .inl r2
  ·exact .inr (r2.trans r1)
theorem trans (x : HX c Y h h') (y : HX c Y h' h'') : HX c Y h h'' := ⟨fun b o hb e => ups (x.up b o hb e) y hb, fun k => y.st (x.st k), x.lvs y⟩
theorem mono (x : HX c Y h h') (hs : ∀ y ∈ Y, y ∈ Y') : HX c Y' h h' := ⟨fun b o hb e => x.up b o (fun z => hb (hs b z)) e, x.st, x.lv⟩
theorem of_keep (k : ∀ b o, b ∉ Y -> h.get? b = some o -> h'.get? b = some o) (hb : ∀ y ∈ Y, c.base.get? y = none) (hl : ∀ y ∈ Y, y ∉ c.fr) : HX c Y h h' :=
 ⟨fun b o hn e => ⟨o.slots, k b o hn e, .inr rfl⟩, fun s b o e => k b o (fun z => by rw [hb b z] at e; cases e) (s b o e), fun b o hf e n => ⟨o, k b o (fun z => hl b z hf) e, n⟩⟩
theorem keep0 (k : ∀ b o, h.get? b = some o -> h'.get? b = some o) : HX c [] h h' := of_keep (fun b o _ e => k b o e) (fun _ z => nomatch z) (fun _ z => nomatch z)
theorem push (h : Heap) (o : Obj) : HX c [] h (h.push o) := keep0 (fun _ _ e => Heap.get?_push_of_some _ e)
theorem sameBut {a : Addr} (s : Heap.SameBut a h h') (hb : c.base.get? a = none) (hl : a ∉ c.fr) : HX c [a] h h' :=
 of_keep (fun b o hn e => by rw [s.2 b (by simpa using hn)]; exact e) (by simpa using hb) (by simpa using hl)
theorem sameButL {a : Addr} {o' : Obj} (s : Heap.SameBut a h h') (hb : c.base.get? a = none) (e' : h'.get? a = some o') (n' : NoFld o') : HX c [a] h h' := by
 have k : ∀ b o, b ∉ [a] -> h.get? b = some o -> h'.get? b = some o := fun b o hn e => by rw [s.2 b (by simpa using hn)]; exact e
 refine ⟨fun b o hn e => ⟨o.slots, k b o hn e, .inr rfl⟩, fun s b o e => k b o (fun z => by rw [lS z, hb] at e; cases e) (s b o e), fun b o hf e n => ?_⟩
 by_cases q : b = a
 ·exact ⟨o', q ▸ e', n'⟩
 ·exact ⟨o, k b o (by simpa using q) e, n⟩
theorem young (x : HX c [] h₀ h) (y : HX c Y h h') (hy : ∀ a ∈ Y, h₀.get? a = none) : HX c [] h₀ h' :=
 ⟨fun b o _ e => ups (x.up b o (fun z => nomatch z) e) y fun z => (by rw [hy b z] at e; cases e), fun k => y.st (x.st k), x.lvs y⟩
theorem youngY {Z : List Addr} (x : HX c Z h₀ h) (y : HX c Y h h') (hy : ∀ a ∈ Y, a ∈ Z \/ h₀.get? a = none) : HX c Z h₀ h' :=
 ⟨fun b o hz e => ups (x.up b o hz e) y fun z => (by
  rcases hy b z with q | q
  ·exact hz q
  ·rw [q] at e; cases e), fun k => y.st (x.st k), x.lvs y⟩
theorem exact (x : HX c Y h h') {b : Addr} {o : Obj} (hb : b ∉ Y) (hf : b ∉ c.fr) (e : h.get? b = some o) : h'.get? b = some o := by
 obtain ⟨sl, e1, r⟩ := x.up b o hb e
 rcases r with r | r
 ·exact absurd r hf
 ·rw [e1, r]
theorem get (x : HX c Y h h') {b : Addr} {o : Obj} (hb : b ∉ Y) (e : h.get? b = some o) : ∃ o', h'.get? b = some o' /\ o'.cls = o.cls /\ o'.dict = o.dict /\ o'.data = o.data := by
 obtain ⟨sl, e1, _⟩ := x.up b o hb e
 exact ⟨_, e1, rfl, rfl, rfl⟩
theorem ns (x : HX c Y h h') {a : Addr} {m : Str -> Option Value} (ha : a ∉ Y) (n : h.Ns a m) : h'.Ns a m := by
 obtain ⟨o, es, ep, e, d, r⟩ := n
 obtain ⟨o', e', _, _, d'⟩ := x.get ha e
 exact ⟨o', es, ep, e', d'.trans d, r⟩
theorem cell (x : HX c Y h h') {a : Addr} {v : Option Value} (ha : a ∉ Y) (n : h.IsCell a v) : h'.IsCell a v := by
 obtain ⟨o, e, d⟩ := n
 obtain ⟨o', e', _, _, d'⟩ := x.get ha e
 exact ⟨o', e', d'.trans d⟩
theorem alive (x : HX c Y h h') {a : Addr} (ha : a ∉ Y) (n : ∃ o, h.get? a = some o) : ∃ o, h'.get? a = some o := by
 obtain ⟨o, e⟩ := n
 obtain ⟨o', e', _⟩ := x.get ha e
 exact ⟨o', e'⟩
theorem frames (x : HX c Y h h') : ∀ {l : List Env}, (∀ env ∈ l, ∀ L, env.frame = some L -> L ∈ c.fr) -> h.FunFrames c.base l -> h'.FunFrames c.base l
 | [], _, _ => trivial
 | env :: _, hf, ⟨hk, ⟨L, o, e1, e2, e3, e4⟩, r⟩ => by
  obtain ⟨o', e', n'⟩ := x.lv L o (hf env (.head _) L e1) e3 e4
  exact ⟨hk, ⟨L, o', e1, e2, e', n'⟩, x.frames (fun env he => hf env (.tail _ he)) r⟩
theorem below (x : HX c Y h h') {A : Around} {l : List Env} (hf : ∀ env ∈ l, ∀ L, env.frame = some L -> L ∈ c.fr) (b : Below A c.base l h) : Below A c.base l h' := ⟨b.stack, x.st b.stays, x.frames hf b.frames⟩
theorem none_of (x : HX c Y h h') {a : Addr} (ha : a ∉ Y) (e : h'.get? a = none) : h.get? a = none := by
 cases q : h.get? a with
 | none => rfl
 | some o =>
  obtain ⟨o', e', _⟩ := x.get ha q
  rw [e] at e'; cases e'
theorem pop {L : Addr} (x : HX (c.push L) Y h h') (hL : h.get? L = none) : HX c Y h h' := by
 refine ⟨fun b o hb e => ?_, x.st, fun b o hb e n => x.lv b o (.tail _ hb) e n⟩
 obtain ⟨sl, e1, r⟩ := x.up b o hb e
 refine ⟨sl, e1, r.imp_left fun z => ?_⟩
 rcases lC z with q | q
 ·rw [q, hL] at e; cases e
 ·exact q
end HX
theorem fresh_ge {h : Heap} {a : Addr} (ha : h.objs.size <= a) : h.get? a = none := Heap.get?_none_of_le ha
noncomputable def KeyIs (w : World) (e : DictEntry) : PyData -> Prop
 | .int i => (∃ t, e.key = .int i t) /\ e.hash = hashInt i
 | .str x => (∃ t, e.key = .str x t) /\ e.hash = hashStr w x
 | _ => False
inductive KeysAre (w : World) : List DictEntry -> List PyData -> Prop
 | nil : KeysAre w [] []
 | cons {e es k ks} : KeyIs w e k -> KeysAre w es ks -> KeysAre w (e :: es) (k :: ks)
noncomputable abbrev opq (a : Addr) : PyData := .dict [(.none, .int (a : Int))]
noncomputable abbrev tyS : PyData := .dict [(.none, .bool true)]
noncomputable abbrev instD (C : Addr) (ns : List Str) (is : List Nat) (ks ds : List PyData) : PyData := .dict [(.none, .list [.int (C : Int), .list (ns.map .str), .list (is.map fun i => .int (i : Nat)), .list ks, .list ds])]
noncomputable abbrev instO (C dx : Addr) (sl : Array (Option Value)) : Obj := { cls := .ref C, dict := some dx, data := .plain, slots := sl }
noncomputable abbrev lstO (vs : List Value) (n : Nat) : Obj := { cls := .type "list", dict := none, data := .seq vs.toArray n, slots := #[] }
noncomputable abbrev tupO (vs : List Value) (n : Nat) : Obj := { cls := .type "tuple", dict := none, data := .seq vs.toArray n, slots := #[] }
noncomputable abbrev dicO (es : List DictEntry) (n : Nat) : Obj := { cls := .type "dict", dict := none, data := .dict es.toArray n, slots := #[] }
mutual
inductive Rd (w : World) (X : List Addr) (h : Heap) : Value -> PyData -> Prop
 | none : Rd w X h .none .none
 | bool (b) : Rd w X h (.bool b) (.bool b)
 | int (i t) : Rd w X h (.int i t) (.int i)
 | str (x t) : Rd w X h (.str x t) (.str x)
 | list {a vs n xs} : a ∉ X -> h.get? a = some (lstO vs n) -> RdL w X h vs xs -> Rd w X h (.ref a) (.list xs)
 | tuple {a vs n xs} : a ∉ X -> h.get? a = some (tupO vs n) -> RdL w X h vs xs -> Rd w X h (.ref a) (.tuple xs)
 | dict {a es n kvs} : a ∉ X -> h.get? a = some (dicO es n) -> KeysAre w es (kvs.map (·.1)) -> (kvs.map (·.1)).Nodup -> RdL w X h (es.map (·.val)) (kvs.map (·.2)) -> Rd w X h (.ref a) (.dict kvs)
 | opq (a : Addr) : Rd w X h (.ref a) (.dict [(.none, .int (a : Int))])
 | tys : Rd w X h (.type "str") (.dict [(.none, .bool true)])
 | inst {a C dx sl es n us ws ks ds} {ns : List Str} {is : List Nat} : a ∉ X -> dx ∉ X -> h.get? a = some (instO C dx sl) -> h.get? dx = some (dictOf es n) -> ((∀ p ∈ ns.zip us, getL p.1 es = some (some p.2)) /\ ∀ p ∈ is.zip ws, (sl[p.1]?).join = some p.2) -> RdL w X h us ks -> RdL w X h ws ds -> Rd w X h (.ref a) (.dict [(.none, .list [.int (C : Int), .list (ns.map .str), .list (is.map fun i => .int (i : Nat)), .list ks, .list ds])])
inductive RdL (w : World) (X : List Addr) (h : Heap) : List Value -> List PyData -> Prop
 | nil : RdL w X h [] []
 | cons {v vs d ds} : Rd w X h v d -> RdL w X h vs ds -> RdL w X h (v :: vs) (d :: ds)
end
section
variable {w : World} {X X' : List Addr} {h h' : Heap} {v : Value} {d : PyData} {vs us : List Value} {ds es : List PyData}
theorem RdL.ind {P : List Value -> List PyData -> Prop} (h0 : P [] []) (h1 : ∀ v vs d ds, Rd w X h v d -> RdL w X h vs ds -> P vs ds -> P (v :: vs) (d :: ds)) (r : RdL w X h vs ds) : P vs ds :=
 RdL.rec (motive_1 := fun _ _ _ => True) (motive_2 := fun vs ds _ => P vs ds) trivial (fun _ => trivial) (fun _ _ => trivial) (fun _ _ => trivial) (fun _ _ _ _ => trivial) (fun _ _ _ _ => trivial) (fun _ _ _ _ _ _ => trivial) (fun _ => trivial) trivial (fun _ _ _ _ _ _ _ _ _ => trivial) h0 (fun a r _ q => h1 _ _ _ _ a r q) r
theorem Rd.map (f : ∀ a o, a ∉ X -> h.get? a = some o -> a ∉ X' /\ h'.get? a = some o) (r : Rd w X h v d) : Rd w X' h' v d :=
 Rd.rec (motive_1 := fun v d _ => Rd w X' h' v d) (motive_2 := fun vs ds _ => RdL w X' h' vs ds) .none .bool .int .str (fun ha e _ q => .list (f _ _ ha e).1 (f _ _ ha e).2 q) (fun ha e _ q => .tuple (f _ _ ha e).1 (f _ _ ha e).2 q)
  (fun ha e k n _ q => .dict (f _ _ ha e).1 (f _ _ ha e).2 k n q) .opq .tys (fun ha hd e e2 k _ _ q p => .inst (f _ _ ha e).1 (f _ _ hd e2).1 (f _ _ ha e).2 (f _ _ hd e2).2 k q p) .nil (fun _ _ a q => .cons a q) r
theorem RdL.map (f : ∀ a o, a ∉ X -> h.get? a = some o -> a ∉ X' /\ h'.get? a = some o) (r : RdL w X h vs ds) : RdL w X' h' vs ds := r.ind .nil fun _ _ _ _ a _ q => .cons (a.map f) q
inductive RdQ (w : World) (X : List Addr) (h : Heap) (f : List Value -> Nat -> Obj) (xs : List PyData) : Value -> Prop
 | mk (a : Addr) (vs : List Value) (n : Nat) (ha : a ∉ X) (e : h.get? a = some (f vs n)) (q : RdL w X h vs xs) : RdQ w X h f xs (.ref a)
inductive RdD (w : World) (X : List Addr) (h : Heap) (kvs : List (PyData × PyData)) : Value -> Prop
 | dict (a : Addr) (es : List DictEntry) (n : Nat) : a ∉ X -> h.get? a = some (dicO es n) -> KeysAre w es (kvs.map (·.1)) -> (kvs.map (·.1)).Nodup -> RdL w X h (es.map (·.val)) (kvs.map (·.2)) -> RdD w X h kvs (.ref a)
 | opq (a : Addr) : kvs = [(.none, .int (a : Int))] -> RdD w X h kvs (.ref a)
 | tys : kvs = [(.none, .bool true)] -> RdD w X h kvs (.type "str")
 | inst (a C dx : Addr) (sl) (es : List DictEntry) (n : Nat) (us ws : List Value) (ks ds : List PyData) (ns : List Str) (is : List Nat) : kvs = [(.none, .list [.int (C : Int), .list (ns.map .str), .list (is.map fun i => .int (i : Nat)), .list ks, .list ds])] -> a ∉ X -> dx ∉ X -> h.get? a = some (instO C dx sl) -> h.get? dx = some (dictOf es n) -> ((∀ p ∈ ns.zip us, getL p.1 es = some (some p.2)) /\ ∀ p ∈ is.zip ws, (sl[p.1]?).join = some p.2) -> RdL w X h us ks -> RdL w X h ws ds -> RdD w X h kvs (.ref a)
inductive RdK (w : World) (X : List Addr) (h : Heap) (kvs : List (PyData × PyData)) : Value -> Prop
 | mk (a : Addr) (es : List DictEntry) (n : Nat) (ha : a ∉ X) (e : h.get? a = some (dicO es n)) (k : KeysAre w es (kvs.map (·.1))) (nd : (kvs.map (·.1)).Nodup) (r : RdL w X h (es.map (·.val)) (kvs.map (·.2))) : RdK w X h kvs (.ref a)
inductive RdT (f : Tok -> Value) : Value -> Prop
 | mk (t) : RdT f (f t)
inductive RdC (w : World) (X : List Addr) (h : Heap) (d : PyData) (P : List Value -> Prop) : List Value -> Prop
 | mk (v : Value) (us : List Value) (a : Rd w X h v d) (q : P us) : RdC w X h d P (v :: us)
inductive Rd1 (w : World) (X : List Addr) (h : Heap) (d : PyData) : List Value -> Prop
 | mk (v : Value) (a : Rd w X h v d) : Rd1 w X h d [v]
inductive Rd2 (w : World) (X : List Addr) (h : Heap) (d d' : PyData) : List Value -> Prop
 | mk (v v' : Value) (a : Rd w X h v d) (a' : Rd w X h v' d') : Rd2 w X h d d' [v, v']
noncomputable def RdI (w : World) (X : List Addr) (h : Heap) (v : Value) : PyData -> Prop
 | .none => v = .none
 | .bool b => v = .bool b
 | .int i => RdT (.int i) v
 | .str x => RdT (.str x) v
 | .list xs => RdQ w X h lstO xs v
 | .tuple xs => RdQ w X h tupO xs v
 | .dict kvs => RdD w X h kvs v
noncomputable def RdLI (w : World) (X : List Addr) (h : Heap) : List PyData -> List Value -> Prop
 | [], vs => vs = []
 | d :: ds, vs => RdC w X h d (fun us => RdL w X h us ds) vs
theorem Rd.inv (r : Rd w X h v d) : RdI w X h v d :=
 Rd.casesOn (motive_1 := fun v d _ => RdI w X h v d) r rfl (fun _ => rfl) (fun _ t => .mk t) (fun _ t => .mk t) (fun ha e q => .mk _ _ _ ha e q) (fun ha e q => .mk _ _ _ ha e q) (fun ha e k n q => .dict _ _ _ ha e k n q) (fun a => .opq a rfl) (.tys rfl) fun ha hd e e2 k q p => .inst _ _ _ _ _ _ _ _ _ _ _ _ rfl ha hd e e2 k q p
theorem RdL.inv (r : RdL w X h vs ds) : RdLI w X h ds vs := r.ind (P := fun vs ds => RdLI w X h ds vs) rfl fun _ _ _ _ a q _ => .mk _ _ a q
theorem Rd.list_inv {xs : List PyData} (r : Rd w X h v (.list xs)) : RdQ w X h lstO xs v := r.inv
theorem Rd.tuple_inv {xs : List PyData} (r : Rd w X h v (.tuple xs)) : RdQ w X h tupO xs v := r.inv
theorem Rd.dict_inv {kvs : List (PyData × PyData)} (r : Rd w X h v (.dict kvs)) (hn : ∀ x, kvs ≠ [(.none, x)]) : RdK w X h kvs v := by
 have hz : RdD w X h kvs v := r.inv
 cases hz with
 | dict a es n ha e k nd q => exact ⟨a, es, n, ha, e, k, nd, q⟩
 | opq _ e => exact absurd e (hn _)
 | tys e => exact absurd e (hn _)
 | inst _ _ _ _ _ _ _ _ _ _ _ _ e => exact absurd e (hn _)
theorem Rd.int_inv {i : Int} (r : Rd w X h v (.int i)) : RdT (.int i) v := r.inv
theorem Rd.str_inv {i : Str} (r : Rd w X h v (.str i)) : RdT (.str i) v := r.inv
theorem Rd.bool_inv {i : Bool} (r : Rd w X h v (.bool i)) : v = .bool i := r.inv
theorem Rd.none_inv (r : Rd w X h v .none) : v = .none := r.inv
theorem RdL.nil_inv (r : RdL w X h vs []) : vs = [] := r.inv
theorem RdL.cons_inv (r : RdL w X h vs (d :: ds)) : RdC w X h d (fun us => RdL w X h us ds) vs := r.inv
theorem RdL.one_inv (r : RdL w X h vs [d]) : Rd1 w X h d vs := by
 obtain ⟨v, us, a, q⟩ := r.cons_inv
 cases q.nil_inv; exact ⟨v, a⟩
theorem RdL.two_inv {d' : PyData} (r : RdL w X h vs [d, d']) : Rd2 w X h d d' vs := by
 obtain ⟨v, us, a, q⟩ := r.cons_inv
 obtain ⟨v', a'⟩ := q.one_inv
 exact ⟨v, v', a, a'⟩
end
theorem hxf {c : Cfg} {X Y : List Addr} {h h' : Heap} (x : HX c Y h h') (hF : ∀ a ∈ c.fr, a ∈ X) (hs : ∀ y ∈ Y, y ∈ X) : ∀ a o, a ∉ X -> h.get? a = some o -> a ∉ X /\ h'.get? a = some o := fun _ _ ha e => ⟨ha, x.exact (fun z => ha (hs _ z)) (fun z => ha (hF _ z)) e⟩
theorem Rd.hx {c : Cfg} {X Y : List Addr} {h h' : Heap} (x : HX c Y h h') (hF : ∀ a ∈ c.fr, a ∈ X) (hs : ∀ y ∈ Y, y ∈ X) {v : Value} {d : PyData} (r : Rd c.w X h v d) : Rd c.w X h' v d := r.map (hxf x hF hs)
theorem RdL.hx {c : Cfg} {X Y : List Addr} {h h' : Heap} (x : HX c Y h h') (hF : ∀ a ∈ c.fr, a ∈ X) (hs : ∀ y ∈ Y, y ∈ X) {vs : List Value} {ds : List PyData} (r : RdL c.w X h vs ds) : RdL c.w X h' vs ds := r.map (hxf x hF hs)
theorem widef {X X' : List Addr} {h : Heap} (hs : ∀ a ∈ X', a ∈ X \/ h.get? a = none) : ∀ a o, a ∉ X -> h.get? a = some o -> a ∉ X' /\ h.get? a = some o := fun _ _ ha e => ⟨fun z => (hs _ z).elim ha fun q => (by rw [q] at e; cases e), e⟩
theorem Rd.wide {w : World} {X X' : List Addr} {h : Heap} (hs : ∀ a ∈ X', a ∈ X \/ h.get? a = Option.none) {v : Value} {d : PyData} (r : Rd w X h v d) : Rd w X' h v d := r.map (widef hs)
theorem RdL.wide {w : World} {X X' : List Addr} {h : Heap} (hs : ∀ a ∈ X', a ∈ X \/ h.get? a = Option.none) {vs : List Value} {ds : List PyData} (r : RdL w X h vs ds) : RdL w X' h vs ds := r.map (widef hs)
theorem Rd.sub {w : World} {X X' : List Addr} {h : Heap} (hs : ∀ a ∈ X', a ∈ X) {v : Value} {d : PyData} (r : Rd w X h v d) : Rd w X' h v d := r.wide fun a ha => .inl (hs a ha)
theorem RdL.sub {w : World} {X X' : List Addr} {h : Heap} (hs : ∀ a ∈ X', a ∈ X) {v : List Value} {d : List PyData} (r : RdL w X h v d) : RdL w X' h v d := r.wide fun a ha => .inl (hs a ha)
theorem Rd.hx0 {c : Cfg} {X : List Addr} {h h' : Heap} (x : HX c [] h h') (hF : ∀ a ∈ c.fr, a ∈ X) {v : Value} {d : PyData} (r : Rd c.w X h v d) : Rd c.w X h' v d := r.hx x hF fun _ z => nomatch z
theorem RdL.hx0 {c : Cfg} {X : List Addr} {h h' : Heap} (x : HX c [] h h') (hF : ∀ a ∈ c.fr, a ∈ X) {v : List Value} {d : List PyData} (r : RdL c.w X h v d) : RdL c.w X h' v d := r.hx x hF fun _ z => nomatch z
section
variable {w : World} {X : List Addr} {h : Heap} {vs us : List Value} {ds es : List PyData}
theorem RdL.length (r : RdL w X h vs ds) : vs.length = ds.length := r.ind (P := fun vs ds => vs.length = ds.length) rfl fun _ _ _ _ _ _ q => congrArg (· + 1) q
theorem RdL.isEmpty (r : RdL w X h vs ds) : vs.isEmpty = ds.isEmpty := r.ind (P := fun vs ds => vs.isEmpty = ds.isEmpty) rfl fun _ _ _ _ _ _ _ => rfl
theorem RdL.append (r : RdL w X h vs ds) (p : RdL w X h us es) : RdL w X h (vs ++ us) (ds ++ es) := r.ind (P := fun vs ds => RdL w X h (vs ++ us) (ds ++ es)) p fun _ _ _ _ a _ q => .cons a q
theorem RdL.get (r : RdL w X h vs ds) : ∀ (i : Nat) {d : PyData}, ds[i]? = some d -> ∃ v, vs[i]? = some v /\ Rd w X h v d :=
 r.ind (P := fun vs ds => ∀ (i : Nat) {d : PyData}, ds[i]? = some d -> ∃ v, vs[i]? = some v /\ Rd w X h v d) (fun _ _ e => nomatch e) fun v vs _ _ a _ q i d e => by
  cases i with
  | zero => cases e; exact ⟨v, rfl, a⟩
  | succ i => exact q i e
end
noncomputable def noneB : PyData -> Bool
 | .none => true
 | _ => false
noncomputable def ibB : PyData -> Bool
 | .int _ => true
 | .bool _ => true
 | _ => false
noncomputable def opqB : List (PyData × PyData) -> Bool
 | [] => false
 | p :: t => t.isEmpty && noneB p.1 && ibB p.2
noncomputable def flat : PyData -> Bool
 | .none => true
 | .bool _ => true
 | .int _ => true
 | .str _ => true
 | .dict kvs => opqB kvs
 | _ => false
theorem key_none {w : World} {es : List DictEntry} {kvs : List (PyData × PyData)} (hk : KeysAre w es (kvs.map (·.1))) (hf : opqB kvs = true) : False := by
 cases kvs with
 | nil => cases hf
 | cons p t =>
  obtain ⟨k, v⟩ := p
  cases hk with
  | cons q _ =>
   cases k with
   | none => exact q.elim
   | _ => simp [opqB, noneB] at hf
theorem Rd.flat {w : World} {X X' : List Addr} {h h' : Heap} {v : Value} {d : PyData} (r : Rd w X h v d) (hf : Mine.flat d = true) : Rd w X' h' v d :=
 Rd.casesOn (motive_1 := fun v d _ => Mine.flat d = true -> Rd w X' h' v d) r (fun _ => .none) (fun b _ => .bool b) (fun i t _ => .int i t) (fun x t _ => .str x t) (fun _ _ _ hf => nomatch hf) (fun _ _ _ hf => nomatch hf) (fun _ _ hk _ _ hf => (key_none hk hf).elim) (fun a _ => .opq a) (fun _ => .tys) (fun _ _ _ _ _ _ _ hf => nomatch hf) hf
theorem Rd.reads {w : World} {X : List Addr} {h : Heap} {v : Value} {d : PyData} (r : Rd w X h v d) : d.canLay0 = true -> ∃ as, Reads h v d as :=
 Rd.rec (motive_1 := fun v d _ => d.canLay0 = true -> ∃ as, Reads h v d as) (motive_2 := fun vs ds _ => PyData.canLayAll0 ds = true -> ∃ as, ReadsAll h vs ds as) (fun _ => ⟨_, .none⟩) (fun b _ => ⟨_, .bool b⟩) (fun i t _ => ⟨_, .int i t⟩) (fun x t _ => ⟨_, .str x t⟩)
  (fun _ e _ q hc => let ⟨_, q⟩ := q (by simpa only [PyData.canLay0] using hc); ⟨_, .list e rfl rfl q⟩) (fun _ e _ q hc => let ⟨_, q⟩ := q (by simpa only [PyData.canLay0] using hc); ⟨_, .tuple e rfl rfl q⟩)
  (fun _ _ _ _ _ _ hc => by simp [PyData.canLay0] at hc) (fun _ hc => by simp [PyData.canLay0] at hc) (fun hc => by simp [PyData.canLay0] at hc) (fun _ _ _ _ _ _ _ _ _ hc => by simp [PyData.canLay0] at hc)
  (fun _ => ⟨_, .nil⟩) (fun _ _ q1 q2 hc => by
   rw [PyData.canLayAll0, Bool.and_eq_true] at hc
   obtain ⟨as, q⟩ := q1 hc.1
   obtain ⟨bs, p⟩ := q2 hc.2
   exact ⟨_, .cons q p⟩) r
inductive Has (env : Env) (h : Heap) (x : Str) (v : Value) : Prop
 | loc {m : Str -> Option Value} : env.kindOf x = some .local -> h.Ns env.locals m -> m x = some v -> Has env h x v
 | cell {a : Addr} : env.kindOf x = some .cell -> env.cells.lookup x = some a -> h.IsCell a (some v) -> Has env h x v
 | free {a : Addr} : env.kindOf x = some .free -> env.cells.lookup x = some a -> h.IsCell a (some v) -> (x == ("__classdict__" : Str)) = false -> Has env h x v
theorem Has.load {M : Model} {A : Around} {E : Value -> Shared -> Prop} {s : Shared} {Q : Value -> Shared -> Prop} {env : Env} {x : Str} {v : Value} (H : Has env s.heap x v) (hk : env.scope.kind = .function) (h : Q v s) : wpAny M A (loadName env x) Q E s := by
 cases H with
 | loc k n e => exact wpAny_loadName_local hk k n e h
 | cell k l i => exact wpAny_loadName_cell hk k l i h
 | free k l i d => exact wpAny_loadName_free hk k l i h d
theorem Has.hxL {c : Cfg} {Y : List Addr} {h h' : Heap} {env : Env} {x : Str} {v : Value} (H : Has env h x v) (q : HX c Y h h') (hL : env.locals ∉ Y) (hC : ∀ x a, env.cells.lookup x = some a -> a ∉ Y) : Has env h' x v := by
 cases H with
 | loc k n e => exact .loc k (q.ns hL n) e
 | cell k l i => exact .cell k l (q.cell (hC _ _ l) i)
 | free k l i d => exact .free k l (q.cell (hC _ _ l) i) d
theorem Has.hx0 {c : Cfg} {h h' : Heap} (q : HX c [] h h') {env : Env} {x : Str} {v : Value} (H : Has env h x v) : Has env h' x v := H.hxL q (fun z => nomatch z) fun _ _ _ z => nomatch z
noncomputable abbrev Gam := List (Str × PyData)
structure Bas (c : Cfg) (A : Around) (X : List Addr) (h : Heap) : Prop where
 handled : A.handled = none
 below : ∃ outer, Below A c.base outer h /\ ∀ env ∈ outer, ∀ L, env.frame = some L -> L ∈ c.fr
 alloc : ∀ a ∈ X, ∃ o, h.get? a = some o
 frs : ∀ a ∈ c.fr, a ∈ X
theorem Bas.hx0 {c : Cfg} {A : Around} {X : List Addr} {h h' : Heap} (G : Bas c A X h) (q : HX c [] h h') : Bas c A X h' :=
 ⟨G.handled, let ⟨o, b, f⟩ := G.below; ⟨o, q.below f b, f⟩, fun a ha => q.alive (fun z => nomatch z) (G.alloc a ha), G.frs⟩
theorem Bas.stays {c : Cfg} {A : Around} {X : List Addr} {h : Heap} (G : Bas c A X h) : c.base.StaysIn h := let ⟨_, b, _⟩ := G.below; b.stays
theorem Bas.inBase {c : Cfg} {A : Around} {X : List Addr} {h : Heap} (G : Bas c A X h) {a : Addr} {o : Obj} (e : c.base.get? a = some o) : h.get? a = some o := G.stays a o e
structure Good (c : Cfg) (A : Around) (X : List Addr) (env : Env) (Γ : Gam) (h : Heap) : Prop where
 bas : Bas c A X h
 kind : env.scope.kind = .function
 globals : env.globals = mainGlobals
 builtins : env.builtins = builtinsNs
 cells : ∀ x, env.kindOf x = some .cell \/ env.kindOf x = some .free -> ∃ a, env.cells.lookup x = some a
 inj : ∀ x y a, env.cells.lookup x = some a -> env.cells.lookup y = some a -> x = y
 cal : ∀ x a, env.cells.lookup x = some a -> ∃ v, h.IsCell a v
 vars : ∀ p ∈ Γ, ∃ v, Has env h p.1 v /\ Rd c.w X h v p.2
theorem Good.hx0 {c : Cfg} {A : Around} {X : List Addr} {env : Env} {Γ : Gam} {h h' : Heap} (G : Good c A X env Γ h) (q : HX c [] h h') : Good c A X env Γ h' where
 bas := G.bas.hx0 q
 kind := G.kind
 globals := G.globals
 builtins := G.builtins
 cells := G.cells
 inj := G.inj
 cal := fun x a e => let ⟨v, i⟩ := G.cal x a e; ⟨v, q.cell (fun z => nomatch z) i⟩
 vars := fun p hp => let ⟨v, H, r⟩ := G.vars p hp; ⟨v, H.hx0 q, r.hx0 q G.bas.frs⟩
noncomputable def Lev (l : Nat) (A : Around) : Prop := A.depth <= 400 + l /\ A.units <= 100 + 8 * l /\ l <= 60
inductive Pst (c : Cfg) (s : Shared) : Shared -> Prop
 | mk (h' : Heap) (tk : Nat) (q : HX c [] s.heap h') : Pst c s { s with heap := h', toks := tk }
theorem Pst.refl {c : Cfg} {s : Shared} : Pst c s s := ⟨s.heap, s.toks, .refl _⟩
theorem Pst.tk {c : Cfg} {s : Shared} {k : Nat} : Pst c s { s with toks := k } := ⟨s.heap, k, .refl _⟩
theorem Pst.trans {c : Cfg} {s s' s'' : Shared} (x : Pst c s s') (y : Pst c s' s'') : Pst c s s'' := by
 obtain ⟨h1, k1, e1⟩ := x
 obtain ⟨h2, k2, e2⟩ := y
 exact ⟨h2, k2, e1.trans e2⟩
theorem Pst.hx {c : Cfg} {s s' : Shared} (x : Pst c s s') : HX c [] s.heap s'.heap := by
 obtain ⟨h1, k1, e1⟩ := x
 exact e1
noncomputable def NoE (_ : Value) (_ : Shared) : Prop := False
noncomputable abbrev Yield (c : Cfg) (X : List Addr) (s : Shared) (d : PyData) (v : Value) (s' : Shared) : Prop := Pst c s s' /\ Rd c.w X s'.heap v d
noncomputable def Ev (c : Cfg) (l : Nat) (X : List Addr) (env : Env) (Γ : Gam) (e : Expr) (d : PyData) : Prop :=
 ∀ A s, Lev l A -> Good c A X env Γ s.heap -> wpAny c.M A (eval e env) (Yield c X s d) NoE s
noncomputable def Et (c : Cfg) (l : Nat) (X : List Addr) (env : Env) (Γ : Gam) (e : Expr) (b : Bool) : Prop :=
 ∀ A s, Lev l A -> Good c A X env Γ s.heap -> wpAny c.M A (isTrue e env (eval e env)) (fun r s' => r = b /\ Pst c s s') NoE s
section
variable {c : Cfg} {l : Nat} {X : List Addr} {env : Env} {Γ : Gam}
theorem noE_any {α : Type} {M : Model} {A : Around} {t : Sem α} {Q : α -> Shared -> Prop} {E : Value -> Shared -> Prop} {s : Shared} (h : wpAny M A t Q NoE s) : wpAny M A t Q E s := wM h (fun _ _ q => q) fun _ _ f => f.elim
theorem Ev.use {A : Around} {s : Shared} {e : Expr} {d : PyData} (h : Ev c l X env Γ e d) (L : Lev l A) (G : Good c A X env Γ s.heap) {Q : Value -> Shared -> Prop} {E : Value -> Shared -> Prop}
  (k : ∀ v s', Pst c s s' -> Rd c.w X s'.heap v d -> Good c A X env Γ s'.heap -> Q v s') : wpAny c.M A (eval e env) Q E s :=
 wM (h A s L G) (fun v s' q => k v s' q.1 q.2 (G.hx0 q.1.hx)) fun _ _ f => f.elim
theorem Ev.name {x : Str} {pos : Pos} {d : PyData} (hm : (x, d) ∈ Γ) (hd : (x == ("__debug__" : Str)) = false) : Ev c l X env Γ (.Name x pos) d := fun A s _ G => by
 obtain ⟨v, H, r⟩ := G.vars _ hm
 exact wpAny_Name (H.load G.kind ⟨.refl, r⟩) hd
theorem Ev.int {i : Int} {k : Nat} {pos : Pos} : Ev c l X env Γ (.Constant (.int i) k pos) (.int i) := fun A s _ _ => wpAny_Constant_int ⟨.tk, .int _ _⟩
end
end
section
noncomputable def P1 {α : Type} (c : Cfg) (t : Value -> Sem α) (d : PyData) (R : α -> Prop) : Prop :=
 ∀ l A X s v, Lev l A -> Bas c A X s.heap -> Rd c.w X s.heap v d -> wpAny c.M A (t v) (fun r s' => R r /\ Pst c s s') NoE s
noncomputable def P2 (c : Cfg) (t : Value -> Value -> Sem Value) (d1 d2 d : PyData) : Prop :=
 ∀ l A X s v1 v2, Lev l A -> Bas c A X s.heap -> Rd c.w X s.heap v1 d1 -> Rd c.w X s.heap v2 d2 -> wpAny c.M A (t v1 v2) (Yield c X s d) NoE s
noncomputable abbrev Tru (c : Cfg) (d : PyData) (b : Bool) : Prop := P1 c truthy d (· = b)
noncomputable def CallOk (c : Cfg) (l : Nat) (f : Value) (ds : List PyData) (d : PyData) : Prop :=
 ∀ A X s vs, Lev l A -> Bas c A X s.heap -> RdL c.w X s.heap vs ds -> wpAny c.M A (call f vs) (Yield c X s d) NoE s
noncomputable def Keep0 (c : Cfg) (v : Value) : Prop := ∀ h, c.base.StaysIn h -> ∃ k, (k = Keeper.frame \/ k = Keeper.machine \/ k = Keeper.boundFrame) /\ Looks c.M h (keeperOf v) k
noncomputable def Glb (c : Cfg) (x : Str) (v : Value) : Prop :=
 ∀ A E s env (Q : Value -> Shared -> Prop), c.base.StaysIn s.heap -> env.globals = mainGlobals -> env.builtins = builtinsNs -> env.scope.kind = .function -> env.kindOf x = some .globalImplicit -> Q v s -> wpAny c.M A (loadName env x) Q E s
theorem keep_builtin {c : Cfg} {id : String} : Keep0 c (.builtin id) := fun _ _ => ⟨.machine, .inr (.inl rfl), .of_pure rfl⟩
theorem keep_type {c : Cfg} {id : String} : Keep0 c (.type id) := fun _ _ => ⟨.machine, .inr (.inl rfl), .of_pure rfl⟩
theorem keep_fn {c : Cfg} {a : Addr} {o : Obj} {fd : FuncData} (e : c.base.get? a = some o) (hd : o.data = .func fd) : Keep0 c (.ref a) := fun h st => by
 refine ⟨.frame, .inl rfl, ?_⟩
 refine (Looks.ld (part := none) (st a o e)).andThen ?_
 rw [hd]
 exact .now
noncomputable def EvA (c : Cfg) (l : Nat) (X : List Addr) (env : Env) (Γ : Gam) (pos : Pos) (es : List Expr) (ds : List PyData) : Prop :=
 ∀ A s, Lev l A -> Good c A X env Γ s.heap -> wpAny c.M A (spliced (backTo pos (starEach es env))) (fun vs s' => Pst c s s' /\ RdL c.w X s'.heap vs ds) NoE s
section
variable {c : Cfg} {l : Nat} {X : List Addr} {env : Env} {Γ : Gam} {A : Around} {s : Shared}
theorem Pst.push {o : Obj} {k : Nat} : Pst c s { s with heap := s.heap.push o, toks := k } := ⟨_, k, .push _ _⟩
theorem Pst.push' {o : Obj} : Pst c s { s with heap := s.heap.push o } := ⟨_, s.toks, .push _ _⟩
theorem notIn_alloc (hX : ∀ a ∈ X, ∃ o, s.heap.get? a = some o) : s.heap.objs.size ∉ X := fun z => by
 obtain ⟨o, e⟩ := hX _ z
 exact absurd (Heap.lt_size e) (Nat.lt_irrefl _)
theorem Rd.newList {vs : List Value} {ds : List PyData} (hF : ∀ a ∈ c.fr, a ∈ X) (hX : ∀ a ∈ X, ∃ o, s.heap.get? a = some o) (r : RdL c.w X s.heap vs ds) : Rd c.w X (s.heap.push { cls := .type "list", data := .seq vs.toArray }) (.ref s.heap.objs.size) (.list ds) :=
 .list (notIn_alloc hX) (hP _ rfl) (r.hx0 (c := c) (.push _ _) hF)
theorem Rd.newTuple {vs : List Value} {ds : List PyData} (hF : ∀ a ∈ c.fr, a ∈ X) (hX : ∀ a ∈ X, ∃ o, s.heap.get? a = some o) (r : RdL c.w X s.heap vs ds) : Rd c.w X (s.heap.push { cls := .type "tuple", data := .seq vs.toArray }) (.ref s.heap.objs.size) (.tuple ds) :=
 .tuple (notIn_alloc hX) (hP _ rfl) (r.hx0 (c := c) (.push _ _) hF)
theorem Rd.truB {w : World} {X : List Addr} {h : Heap} {v : Value} {b : Bool} {M : Model} {Q : Bool -> Shared -> Prop} {E : Value -> Shared -> Prop} (r : Rd w X h v (.bool b)) (k : Q b s) : wpAny M A (truthy v) Q E s := r.bool_inv ▸ wpAny_truthy_bool k
theorem Ev.str {x : Str} {k : Nat} {pos : Pos} : Ev c l X env Γ (.Constant (.str x) k pos) (.str x) := fun A s _ _ => wpAny_Constant_str ⟨.tk, .str _ _⟩
theorem Ev.none {k : Nat} {pos : Pos} : Ev c l X env Γ (.Constant .none k pos) .none := fun A s _ _ => wpAny_Constant_none ⟨.refl, .none⟩
theorem Ev.bool {b : Bool} {k : Nat} {pos : Pos} : Ev c l X env Γ (.Constant (.bool b) k pos) (.bool b) := fun A s _ _ => wpAny_Constant_bool ⟨.refl, .bool b⟩
theorem Ev.two {e1 e2 : Expr} {d1 d2 d : PyData} {t : Value -> Value -> Sem Value} {Q E : Value -> Shared -> Prop} (h1 : Ev c l X env Γ e1 d1) (h2 : Ev c l X env Γ e2 d2) (h : P2 c t d1 d2 d) (L : Lev l A) (G : Good c A X env Γ s.heap) (k : ∀ v s', Pst c s s' -> Rd c.w X s'.heap v d -> Q v s') :
  wpAny c.M A (eval e1 env) (fun v1 s1 => wpAny c.M A (eval e2 env) (fun v2 s2 => wpAny c.M A (t v1 v2) Q E s2) E s1) E s :=
 h1.use L G fun v1 s1 p1 r1 G1 => h2.use L G1 fun v2 s2 p2 r2 G2 => wM (h l A X s2 v1 v2 L G2.bas (r1.hx0 p2.hx G.bas.frs) r2) (fun v s3 q => k v s3 ((p1.trans p2).trans q.1) q.2) fun _ _ f => f.elim
theorem Ev.binop {e1 e2 : Expr} {op : Operator} {pos : Pos} {d1 d2 d : PyData} (h1 : Ev c l X env Γ e1 d1) (h2 : Ev c l X env Γ e2 d2) (h : P2 c (binaryOp op) d1 d2 d) : Ev c l X env Γ (.BinOp e1 op e2 pos) d := fun A s L G =>
 wpAny_BinOp (h1.two h2 h L G fun v s3 p r => ⟨p, r⟩)
theorem Ev.cmp {e1 e2 : Expr} {op : CmpOp} {pos : Pos} {d1 d2 d : PyData} (h1 : Ev c l X env Γ e1 d1) (h2 : Ev c l X env Γ e2 d2) (h : P2 c (compareOp op) d1 d2 d) (hm : behindInMarks op e2 = false := by with_unfolding_all rfl) :
  Ev c l X env Γ (.Compare e1 [op] [e2] pos) d := fun A s L G =>
 wpAny_Compare1 (h1.two h2 h L G fun v s3 p r => ⟨p, r⟩) hm
theorem Et.cmp {e1 e2 : Expr} {op : CmpOp} {pos : Pos} {d1 d2 : PyData} {b : Bool} (h1 : Ev c l X env Γ e1 d1) (h2 : Ev c l X env Γ e2 d2) (h : P2 c (compareOp op) d1 d2 (.bool b)) (hm : behindInMarks op e2 = false := by with_unfolding_all rfl) :
  Et c l X env Γ (.Compare e1 [op] [e2] pos) b := fun A s L G =>
 wpAny_isTrue_Compare1 (h1.two h2 h L G fun v s3 p r => r.truB ⟨rfl, p⟩) hm
theorem Et.not {e : Expr} {pos : Pos} {b : Bool} (h : Et c l X env Γ e b) : Et c l X env Γ (.UnaryOp .Not e pos) (!b) := fun A s L G =>
 wpAny_isTrue_Not (wK (h A s L G) (fun r s' q => ⟨by rw [q.1], q.2⟩))
theorem Et.val {e : Expr} {d : PyData} {b : Bool} (h : Ev c l X env Γ e d) (t : Tru c d b) (he : ∀ whole, isTrue e env whole = (do let v <- whole; standAt e.pos; holding [v] (truthy v)) := by intro _; rfl) : Et c l X env Γ e b := fun A s L G =>
 wpAny_isTrue_value (h.use L G fun v s1 p1 r1 G1 => wK (t l A X s1 v L G1.bas r1) (fun r s' q => ⟨q.1, p1.trans q.2⟩)) (he _)
theorem Et.and2 {x y : Expr} {pos : Pos} {a b : Bool} (h1 : Et c l X env Γ x a) (h2 : a = true -> Et c l X env Γ y b) : Et c l X env Γ (.BoolOp .And [x, y] pos) (a && b) := fun A s L G => by
 refine wpAny_isTrue_BoolOp (wpAny_allTrue_And_cons (wK (h1 A s L G) (fun r s' q => ?_)))
 obtain ⟨rfl, p⟩ := q
 cases r with
 | false => exact ⟨rfl, p⟩
 | true =>
  simp only [if_true, Bool.true_and]
  refine wpAny_allTrue_And_cons (wK (h2 rfl A s' L (G.hx0 p.hx)) (fun r s' q => ?_))
  obtain ⟨rfl, p'⟩ := q
  cases r with
  | false => exact ⟨rfl, p.trans p'⟩
  | true => exact wpAny_allTrue_And_nil ⟨rfl, p.trans p'⟩
theorem Et.or2 {x y : Expr} {pos : Pos} {a b : Bool} (h1 : Et c l X env Γ x a) (h2 : a = false -> Et c l X env Γ y b) : Et c l X env Γ (.BoolOp .Or [x, y] pos) (a || b) := fun A s L G => by
 refine wpAny_isTrue_BoolOp (wpAny_allTrue_Or_cons (wK (h1 A s L G) (fun r s' q => ?_)))
 obtain ⟨rfl, p⟩ := q
 cases r with
 | true => exact ⟨rfl, p⟩
 | false =>
  simp only [Bool.false_eq_true, if_false, Bool.false_or]
  refine wpAny_allTrue_Or_cons (wK (h2 rfl A s' L (G.hx0 p.hx)) (fun r s' q => ?_))
  obtain ⟨rfl, p'⟩ := q
  cases r with
  | true => exact ⟨rfl, p.trans p'⟩
  | false => exact wpAny_allTrue_Or_nil ⟨rfl, p.trans p'⟩
theorem Ev.and2 {x y : Expr} {pos : Pos} {a b : Bool} (h1 : Ev c l X env Γ x (.bool a)) (h2 : a = true -> Ev c l X env Γ y (.bool b)) : Ev c l X env Γ (.BoolOp .And [x, y] pos) (.bool (a && b)) := fun A s L G => by
 refine wpAny_And2 (h1.use L G fun v s1 p1 r1 G1 => r1.truB ?_)
 cases a with
 | false => exact ⟨p1, r1⟩
 | true =>
  simp only [if_true, Bool.true_and]
  exact (h2 rfl).use L G1 fun v s2 p2 r2 _ => ⟨p1.trans p2, r2⟩
theorem Ev.not {e : Expr} {pos : Pos} {d : PyData} {b : Bool} (h : Ev c l X env Γ e d) (t : Tru c d b) : Ev c l X env Γ (.UnaryOp .Not e pos) (.bool (!b)) := fun A s L G =>
 wpAny_UnaryOp (h.use L G fun v s1 p1 r1 G1 => not_value (wK (t l A X s1 v L G1.bas r1) (fun r s' q => ⟨p1.trans q.2, by rw [q.1]; exact .bool _⟩)))
theorem Ev.ifexp {test body orelse : Expr} {pos : Pos} {b : Bool} {d : PyData} (ht : Et c l X env Γ test b) (h1 : b = true -> Ev c l X env Γ body d) (h2 : b = false -> Ev c l X env Γ orelse d) : Ev c l X env Γ (.IfExp test body orelse pos) d := fun A s L G => by
 refine wpAny_IfExp (wK (ht A s L G) (fun r s' q => ?_))
 obtain ⟨rfl, p⟩ := q
 cases r with
 | true => exact (h1 rfl).use L (G.hx0 p.hx) fun v s2 p2 r2 _ => ⟨p.trans p2, r2⟩
 | false => exact (h2 rfl).use L (G.hx0 p.hx) fun v s2 p2 r2 _ => ⟨p.trans p2, r2⟩
theorem EvA.nil {pos : Pos} : EvA c l X env Γ pos [] [] := fun A s _ _ => wpAny_items_nil ⟨.refl, .nil⟩
theorem EvA.cons {pos : Pos} {e : Expr} {es : List Expr} {d : PyData} {ds : List PyData} (h : Ev c l X env Γ e d) (hs : EvA c l X env Γ pos es ds) (he : autoParam (starEach (e :: es) env = (false, eval e env) :: starEach es env) aR) :
  EvA c l X env Γ pos (e :: es) (d :: ds) := fun A s L G =>
 wpAny_items_cons (h.use L G fun v s1 p1 r1 G1 => wK (hs A s1 L G1) (fun vs s2 q => ⟨p1.trans q.1, .cons (r1.hx0 q.1.hx G.bas.frs) q.2⟩)) he
theorem Ev.list {pos : Pos} {es : List Expr} {ds : List PyData} (h : EvA c l X env Γ pos es ds) (hz : ds.length <= 1000 := by decide) : Ev c l X env Γ (.List es pos) (.list ds) := fun A s L G =>
 wpAny_List (wK (h A s L G) (fun vs s1 q => ⟨by rw [q.2.length, sizeLine_eq]; omega, q.1.trans .push', Rd.newList (c := c) G.bas.frs (fun a ha => q.1.hx.alive (fun z => nomatch z) (G.bas.alloc a ha)) q.2⟩))
theorem Ev.tuple {pos : Pos} {k : Nat} {es : List Expr} {ds : List PyData} (h : EvA c l X env Γ pos es ds) (hz : ds.length <= 1000 := by decide) : Ev c l X env Γ (.Tuple es k pos) (.tuple ds) := fun A s L G =>
 wpAny_Tuple (wK (h A s L G) (fun vs s1 q => ⟨by rw [q.2.length, sizeLine_eq]; omega, q.1.trans .push', Rd.newTuple (c := c) G.bas.frs (fun a ha => q.1.hx.alive (fun z => nomatch z) (G.bas.alloc a ha)) q.2⟩))
theorem Ev.call {f : Str} {np pos : Pos} {e : Expr} {es : List Expr} {v : Value} {ds : List PyData} {d : PyData} (hg : Glb c f v) (hf : env.kindOf f = some .globalImplicit) (hk : Keep0 c v) (ha : EvA c l X env Γ pos (e :: es) ds) (h : CallOk c l v ds d)
  (hd : (f == ("__debug__" : Str)) = false := by decide) (he : autoParam (starEach (e :: es) env = (false, eval e env) :: starEach es env) aR) (hp : autoParam ((backTo pos (starEach es env)).any (·.1) = false) aR) :
  Ev c l X env Γ (.Call (.Name f np) (e :: es) [] pos) d := fun A s L G => by
 refine wpAny_Call_ofName (wpAny_Name (hg A _ s env _ G.bas.stays G.globals G.builtins G.kind hf ?_) hd)
 show wpAny c.M A (callWith pos v [] (backTo pos (starEach (e :: es) env)) []) _ _ s
 have a := ha A s L G
 rw [he] at a ⊢
 refine callWith_of (P := fun h => c.base.StaysIn h) (by show ((false || (backTo pos (starEach es env)).any (·.1)) || false) = false; rw [hp]; rfl) hk (evalArgs_plain (wK a (fun vs s1 q => ?_)))
 have G1 := G.hx0 q.1.hx
 exact ⟨G1.bas.stays, wK (h A X s1 vs L G1.bas q.2) (fun v s2 r => ⟨q.1.trans r.1, r.2⟩)⟩
theorem Ev.sub {value slice : Expr} {pos : Pos} {d1 d2 d : PyData} (h1 : Ev c l X env Γ value d1) (h2 : Ev c l X env Γ slice d2) (h : P2 c (subscriptTail value slice) d1 d2 d) : Ev c l X env Γ (.Subscript value slice pos) d := fun A s L G =>
 Subscript_ (h1.two h2 h L G fun v s3 p r => ⟨p, r⟩)
theorem P2.of_int {t : Value -> Value -> Sem Value} {a b : Int} {d : PyData} (h : ∀ l A X s ta tb, Lev l A -> Bas c A X s.heap -> wpAny c.M A (t (.int a ta) (.int b tb)) (Yield c X s d) NoE s) : P2 c t (.int a) (.int b) d := fun l A X s v1 v2 L B r1 r2 => by
 have h1 := r1.int_inv; have h2 := r2.int_inv; clear r1 r2
 obtain ⟨ta⟩ := h1; obtain ⟨tb⟩ := h2
 exact h l A X s _ _ L B
theorem P2.add {a b : Int} : P2 c (binaryOp .Add) (.int a) (.int b) (.int (a + b)) := .of_int fun l A X s ta tb _ _ => add_int ⟨.tk, .int _ _⟩
theorem P2.sub {a b : Int} : P2 c (binaryOp .Sub) (.int a) (.int b) (.int (a - b)) := .of_int fun l A X s ta tb _ _ => sub_int ⟨.tk, .int _ _⟩
theorem P2.mul {a b : Int} (hm : IntMulOk a b := by mul_fits) : P2 c (binaryOp .Mult) (.int a) (.int b) (.int (a * b)) := .of_int fun l A X s ta tb _ _ => mul_int ⟨.tk, .int _ _⟩ hm
theorem P2.mod {a b : Int} (hb : b ≠ 0) : P2 c (binaryOp .Mod) (.int a) (.int b) (.int (a.fmod b)) := .of_int fun l A X s ta tb _ _ => mod_int' hb ⟨.tk, .int _ _⟩
theorem P2.div {a b : Int} (hb : b ≠ 0) (hp : Builtin.divisionGoesByPylong a b = false) : P2 c (binaryOp .FloorDiv) (.int a) (.int b) (.int (a.fdiv b)) := .of_int fun l A X s ta tb _ _ => floordiv_int hb ⟨.tk, .int _ _⟩ (.inl hp)
theorem P2.pow {a b : Int} (h0 : 0 <= b) (h1 : b <= 1000000) (ha : a.natAbs < 2 ^ 64) : P2 c (binaryOp .Pow) (.int a) (.int b) (.int (a ^ b.toNat)) := .of_int fun l A X s ta tb _ _ => pow_int_small h0 h1 ha ⟨.tk, .int _ _⟩
theorem P2.eqI {a b : Int} : P2 c (compareOp .Eq) (.int a) (.int b) (.bool (a == b)) := .of_int fun l A X s ta tb _ _ => eq_int ⟨.refl, .bool _⟩
theorem P2.neI {a b : Int} : P2 c (compareOp .NotEq) (.int a) (.int b) (.bool (a != b)) := .of_int fun l A X s ta tb _ _ => ne_int ⟨.refl, .bool _⟩
theorem P2.ltI {a b : Int} : P2 c (compareOp .Lt) (.int a) (.int b) (.bool (decide (a < b))) := .of_int fun l A X s ta tb _ _ => lt_int ⟨.refl, .bool _⟩
theorem Lev.units {l : Nat} {A : Around} (L : Lev l A) : A.units <= 580 := by obtain ⟨_, h2, h3⟩ := L; omega
theorem Lev.depth {l : Nat} {A : Around} (L : Lev l A) : A.depth <= 460 := by obtain ⟨h1, _, h3⟩ := L; omega
theorem cl_is : cLine = 9900 := rfl
theorem P2.eq {d1 d2 : PyData} (h1 : d1.canLay0 = true) (h2 : d2.canLay0 = true) (hd : d1.depth <= 1000) : P2 c (compareOp .Eq) d1 d2 (.bool (PyData.eqv d1 d2)) := fun l A X s v1 v2 L B r1 r2 => by
 obtain ⟨_, q1⟩ := r1.reads h1
 obtain ⟨_, q2⟩ := r2.reads h2
 refine SeqAt.compareEq_reads q1 q2 h1 h2 ?_ ⟨.refl, .bool _⟩
 have := L.units
 rw [cl_is]; omega
theorem P2.ne {d1 d2 : PyData} (h1 : d1.canLay0 = true) (h2 : d2.canLay0 = true) (hd : d1.depth <= 1000) : P2 c (compareOp .NotEq) d1 d2 (.bool (!PyData.eqv d1 d2)) := fun l A X s v1 v2 L B r1 r2 => by
 obtain ⟨_, q1⟩ := r1.reads h1
 obtain ⟨_, q2⟩ := r2.reads h2
 refine SeqAt.compareNe_reads q1 q2 h1 h2 ?_ ⟨.refl, .bool _⟩
 have := L.units
 rw [cl_is]; omega
theorem P2.inL {d : PyData} {ds : List PyData} (h1 : d.canLay0 = true) (h2 : PyData.canLayAll0 ds = true) (hd : d.depth <= 1000) : P2 c (compareOp .In) d (.list ds) (.bool (ds.any fun y => PyData.eqv y d)) := fun l A X s v1 v2 L B r1 r2 => by
 obtain ⟨_, q1⟩ := r1.reads h1
 obtain ⟨_, q2⟩ := r2.reads (d := .list ds) (by simpa [PyData.canLay0] using h2)
 refine SeqAt.in_list_reads q2 q1 h2 h1 ?_ ⟨.refl, .bool _⟩
 have := L.units
 rw [cl_is]; omega
theorem P2.notInL {d : PyData} {ds : List PyData} (h1 : d.canLay0 = true) (h2 : PyData.canLayAll0 ds = true) (hd : d.depth <= 1000) : P2 c (compareOp .NotIn) d (.list ds) (.bool (!ds.any fun y => PyData.eqv y d)) := fun l A X s v1 v2 L B r1 r2 => by
 obtain ⟨_, q1⟩ := r1.reads h1
 obtain ⟨_, q2⟩ := r2.reads (d := .list ds) (by simpa [PyData.canLay0] using h2)
 refine SeqAt.notIn_list_reads q2 q1 h2 h1 ?_ ⟨.refl, .bool _⟩
 have := L.units
 rw [cl_is]; omega
theorem Tru.bool {b : Bool} : Tru c (.bool b) b := fun l A X s v L B r => r.truB ⟨rfl, .refl⟩
theorem Tru.none : Tru c .none false := fun l A X s v L B r => r.none_inv ▸ PyProof.Rows.truthy_none ⟨rfl, .refl⟩
theorem Tru.list {ds : List PyData} (hz : ds.length <= 2 ^ 30) : Tru c (.list ds) (!ds.isEmpty) := fun l A X s v L B r => by
 have hz := r.list_inv; clear r; obtain ⟨_, _, _, ha, e, q⟩ := hz
 refine wpAny_truthy_list ⟨_, e, rfl, _, rfl⟩ (by rw [List.size_toArray, q.length]; omega) ⟨?_, .tk⟩
 rw [List.isEmpty_toArray]
 rw [q.isEmpty]
theorem Tru.str {x : Str} (hz : x.length <= 2 ^ 30) : Tru c (.str x) ((x.length : Int) != 0) := fun l A X s v L B r => by
 have hz := r.str_inv; clear r; obtain ⟨t⟩ := hz
 exact PySem.P.truthy_str (by omega) ⟨rfl, .tk⟩
theorem P2.ofRef {t : Value -> Value -> Sem Value} {a : Int} {ds : List PyData} {d : PyData} (h : ∀ l A X s x vs n ta, Lev l A -> Bas c A X s.heap -> x ∉ X -> s.heap.get? x = some (lstO vs n) -> RdL c.w X s.heap vs ds -> wpAny c.M A (t (.ref x) (.int a ta)) (Yield c X s d) NoE s) : P2 c t (.list ds) (.int a) d := fun l A X s v1 v2 L B r1 r2 => by
 have h1 := r1.list_inv; have h2 := r2.int_inv; clear r1 r2
 obtain ⟨a, vs, n, ha, e, q⟩ := h1; obtain ⟨t⟩ := h2; exact h l A X s _ _ _ _ L B ha e q
theorem P2.item {value slice : Expr} {i : Int} {ds : List PyData} {d : PyData} (h0 : 0 <= i) (h1 : i < 2 ^ 63) (hx : ds[i.toNat]? = some d) (hs : ∀ o i, subscripted slice false o i = operate [o, i] (getItem o i) := by intro _ _; with_unfolding_all rfl) :
  P2 c (subscriptTail value slice) (.list ds) (.int i) d := .ofRef fun l A X s x vs n ta L B ha e q => by
 obtain ⟨v, hv, r⟩ := q.get _ hx
 have hL : s.heap.IsList x vs.toArray := ⟨_, e, rfl, _, rfl⟩
 exact tail_any hL.typeIs slot_list_getitem.lookup (wpAny_getItem_list hL h0 h1 (by simpa using hv) ⟨.refl, r⟩) (hs _ _)
end
end
section
inductive ItV1 (c : Cfg) (X : List Addr) (h : Heap) : Value -> PyData -> Prop
 | mk (T vs ds) (t : h.IsTuple T vs.toArray) (r : RdL c.w X h vs ds) : ItV1 c X h (.ref T) (.tuple ds)
noncomputable def ItV (c : Cfg) (pair : Bool) (X : List Addr) (h : Heap) (v : Value) (d : PyData) : Prop :=
 if pair then ItV1 c X h v d else Rd c.w X h v d
inductive NxI (c : Cfg) (pair : Bool) (fp : List Addr) (St : List Addr -> Nat -> Heap -> Prop) (s : Shared) (X : List Addr) (i : Nat) (d : PyData) (v : Value) : Shared -> Prop
 | mk (h' : Heap) (tk : Nat) (q : HX c fp s.heap h') (st : St X (i + 1) h') (iv : ItV c pair X h' v d) : NxI c pair fp St s X i d v { s with heap := h', toks := tk }
inductive NxE (c : Cfg) (fp : List Addr) (s : Shared) : Option Value -> Shared -> Prop
 | mk (h' : Heap) (tk : Nat) (q : HX c fp s.heap h') : NxE c fp s none { s with heap := h', toks := tk }
inductive TgI : Bool -> Expr -> Prop
 | name {x p} : TgI false (.Name x p)
 | tuple {es k p} : TgI true (.Tuple es k p)
structure ItS (c : Cfg) (pair : Bool) (I : Addr) (fp : List Addr) (ds : List PyData) (St : List Addr -> Nat -> Heap -> Prop) : Prop where
 alive : ∀ X i h, St X i h -> ∀ a ∈ fp, ∃ o, h.get? a = some o
 keep : ∀ X i h h' Y, St X i h -> HX c Y h h' -> (∀ a ∈ c.fr, a ∈ X /\ a ∉ fp) -> (∀ y ∈ Y, y ∈ X /\ y ∉ fp) -> St X i h'
 wide : ∀ X X' i h, St X i h -> (∀ a ∈ X', a ∈ X \/ h.get? a = none) -> St X' i h
 item : ∀ (A : Around) (s : Shared) (X : List Addr) (i : Nat) (d : PyData) (tg : Expr), A.handled = none -> TgI pair tg -> St X i s.heap -> (∀ a ∈ fp, a ∈ X /\ c.base.get? a = none /\ a ∉ c.fr) -> (∀ a ∈ c.fr, a ∈ X) -> ds[i]? = some d ->
  wpAny c.M A (pyNext (.ref I)) (fun r s1 => ∃ v, r = some v /\ wpAny c.M A (letOwnedTupleGo tg (.ref I) v) (fun _ s2 => NxI c pair fp St s X i d v s2) NoE s1) NoE s
 done : ∀ (A : Around) (s : Shared) (X : List Addr), A.handled = none -> St X ds.length s.heap -> (∀ a ∈ fp, a ∈ X /\ c.base.get? a = none /\ a ∉ c.fr) ->
  wpAny c.M A (pyNext (.ref I)) (NxE c fp s) NoE s
 self : ∀ (A : Around) (s : Shared) (X : List Addr) (i : Nat), St X i s.heap -> wpAny c.M A (pyIter (.ref I)) (fun v s' => v = .ref I /\ s' = s) NoE s
theorem go_name {M : Model} {A : Around} {E : Value -> Shared -> Prop} {s : Shared} {x : Str} {p : Pos} {it v : Value} {Q : Unit -> Shared -> Prop} (h : Q () s) : wpAny M A (letOwnedTupleGo (.Name x p) it v) Q E s := wP h
inductive TgN : Expr -> Prop
 | mk (x p) : TgN (.Name x p)
inductive TgT : Expr -> Prop
 | mk (es k p) : TgT (.Tuple es k p)
theorem tg_inv {pair : Bool} {tg : Expr} (h : TgI pair tg) : if pair then TgT tg else TgN tg := by
 cases h with
 | name => exact .mk ..
 | tuple => exact .mk ..
theorem tg_name {tg : Expr} (h : TgI false tg) : TgN tg := tg_inv h
theorem tg_tuple {tg : Expr} (h : TgI true tg) : TgT tg := tg_inv h
inductive StL (c : Cfg) (I ax : Addr) (ds : List PyData) (X : List Addr) (i : Nat) (h : Heap) : Prop
 | mk (it : h.IsListIter I ax i) (off : ax ∉ X) (vs : List Value) (n : Nat) (e : h.get? ax = some (lstO vs n)) (r : RdL c.w X h vs ds)
theorem HX.listIter {c : Cfg} {Y : List Addr} {h h' : Heap} (x : HX c Y h h') {I l : Addr} {i : Nat} (ha : I ∉ Y) (n : h.IsListIter I l i) : h'.IsListIter I l i := by
 obtain ⟨o, e, cl, d⟩ := n
 obtain ⟨o', e', cl', _, d'⟩ := x.get ha e
 exact ⟨o', e', cl'.trans cl, d'.trans d⟩
theorem StL.keep {c : Cfg} {I ax : Addr} {ds : List PyData} {X Y : List Addr} {i : Nat} {h h' : Heap} (st : StL c I ax ds X i h) (q : HX c Y h h') (hF : ∀ a ∈ c.fr, a ∈ X /\ a ∉ [I]) (hy : ∀ y ∈ Y, y ∈ X /\ y ∉ [I]) : StL c I ax ds X i h' := by
 obtain ⟨h1, h2, vs, n, h3, h4⟩ := st
 exact ⟨q.listIter (fun z => (hy _ z).2 (.head _)) h1, h2, vs, n, q.exact (fun z => h2 (hy _ z).1) (fun z => h2 (hF _ z).1) h3, h4.hx q (fun a z => (hF a z).1) fun y z => (hy y z).1⟩
theorem StL.wide {c : Cfg} {I ax : Addr} {ds : List PyData} {X X' : List Addr} {i : Nat} {h : Heap} (st : StL c I ax ds X i h) (hy : ∀ a ∈ X', a ∈ X \/ h.get? a = none) : StL c I ax ds X' i h := by
 obtain ⟨h1, h2, vs, n, h3, h4⟩ := st
 exact ⟨h1, fun z => (hy _ z).elim h2 fun e => (by rw [e] at h3; cases h3), vs, n, h3, h4.wide hy⟩
theorem ItS.off {c : Cfg} {I : Addr} {X : List Addr} {h h' : Heap} (hf : ∀ a ∈ [I], a ∈ X /\ c.base.get? a = none /\ a ∉ c.fr) (he : ∀ b o, b ≠ I -> h.get? b = some o -> h'.get? b = some o) : HX c [I] h h' :=
 .of_keep (fun b o hb e => he b o (fun z => hb (z ▸ .head _)) e) (fun y hy => (hf y hy).2.1) fun y hy => (hf y hy).2.2
theorem its_list {c : Cfg} {pair : Bool} {I ax : Addr} {ds : List PyData} (hp : pair = true -> ∀ d ∈ ds, ∃ es, d = .tuple es) : ItS c pair I [I] ds (StL c I ax ds) where
 alive := fun X i h st a ha => by
  obtain ⟨⟨o, e, _⟩, _⟩ := st
  rw [lS ha]
  exact ⟨o, e⟩
 keep := fun X i h h' Y st q hF hy => st.keep q hF hy
 wide := fun X X' i h st hy => st.wide hy
 item := fun A s X i d tg hh ht st hf hF hd => by
  obtain ⟨h1, h2, vs, n, h3, h4⟩ := st
  obtain ⟨v, hv, r⟩ := h4.get _ hd
  obtain ⟨hI, hIb, hIf⟩ := hf I (.head _)
  have hL : s.heap.IsList ax vs.toArray := ⟨_, h3, rfl, _, rfl⟩
  refine wpAny_pyNext_list_item h1 hL (x := v) (by simpa using hv) fun h' hit' hs' => ⟨v, rfl, ?_⟩
  have q : HX c [I] s.heap h' := .sameBut hs' hIb hIf
  have st' : StL c I ax ds X (i + 1) h' := by
   refine ⟨hit', h2, vs, n, q.exact (fun z => h2 (lS z ▸ hI)) (fun z => h2 (hF _ z)) h3, h4.hx q hF fun y z => lS z ▸ hI⟩
  have r' : Rd c.w X h' v d := r.hx q hF fun y z => lS z ▸ hI
  cases pair with
  | false =>
   obtain ⟨x, p⟩ := tg_name ht
   exact go_name ⟨h', s.toks, q, st', r'⟩
  | true =>
   obtain ⟨es, k, p⟩ := tg_tuple ht
   obtain ⟨es', rfl⟩ := hp rfl d (lG hd)
   have hz := r'.tuple_inv; clear r r' hv
   obtain ⟨T, us, _, ha, e, rr⟩ := hz
   exact wpAny_letOwnedTupleGo_listiter (T := _) hit' ⟨h', s.toks, q, st', _, _, _, ⟨_, e, rfl, _, rfl⟩, rr⟩
 done := fun A s X hh st hf => by
  obtain ⟨h1, h2, vs, n, h3, h4⟩ := st
  have hL : s.heap.IsList ax vs.toArray := ⟨_, h3, rfl, _, rfl⟩
  refine wpAny_pyNext_list_end hh h1 hL (by simp [h4.length]) fun h' he' => ⟨h', s.toks, ItS.off hf he'⟩
 self := fun A s X i st => wpAny_pyIter_listiter st.1 ⟨rfl, rfl⟩
inductive MMI {α β : Type} (g : α -> β) (l : List α) : β -> Prop
 | mk (k : α) (h : k ∈ l) : MMI g l (g k)
theorem mem_mapI {α β : Type} {g : α -> β} {l : List α} {d : β} (h : d ∈ l.map g) : MMI g l d := by
 obtain ⟨k, e, rfl⟩ := List.mem_map.mp h
 exact ⟨k, e⟩
inductive MapI {α β : Type} (g : α -> β) (l : List α) (i : Nat) : β -> Prop
 | mk (k : α) (h : l[i]? = some k) : MapI g l i (g k)
theorem map_get {α β : Type} {ks : List α} {g : α -> β} {i : Nat} {d : β} (h : (ks.map g)[i]? = some d) : MapI g ks i d := by
 rw [List.getElem?_map] at h
 obtain ⟨k, e, rfl⟩ := Option.map_eq_some_iff.mp h
 exact ⟨k, e⟩
noncomputable def rng (a : Int) (n : Nat) : List PyData := (List.range n).map fun i => .int (a + (i : Nat))
noncomputable def StR (I : Addr) (a : Int) (n : Nat) (_X : List Addr) (i : Nat) (h : Heap) : Prop := IsRangeIter h I (a + (i : Nat)) ((n : Int) - (i : Nat)) 1
theorem rng_get {a : Int} {n i : Nat} {d : PyData} (h : (rng a n)[i]? = some d) : i < n /\ d = .int (a + (i : Nat)) := by
 obtain ⟨k, e⟩ := map_get h
 obtain ⟨hi, rfl⟩ := List.getElem?_eq_some_iff.mp e
 rw [List.getElem_range]
 exact ⟨List.length_range (n := n) ▸ hi, rfl⟩
theorem its_range {c : Cfg} {I : Addr} {a : Int} {n : Nat} : ItS c false I [I] (rng a n) (StR I a n) where
 alive := fun X i h st a ha => by
  rw [lS ha]
  exact ⟨_, st⟩
 keep := fun X i h h' Y st q hF hy => q.exact (fun z => (hy _ z).2 (.head _)) (fun z => (hF _ z).2 (.head _)) st
 wide := fun X X' i h st hy => st
 item := fun A s X i d tg hh ht st hf hF hd => by
  obtain ⟨hi, rfl⟩ := rng_get hd
  obtain ⟨x, p⟩ := tg_name ht
  obtain ⟨hI, hIb, hIf⟩ := hf I (.head _)
  refine wpAny_pyNext_range_item st (by omega) fun h' hit' hs' => ⟨_, rfl, go_name ⟨h', _, .sameBut hs' hIb hIf, ?_, .int _ _⟩⟩
  unfold StR
  have e1 : a + ((i + 1 : Nat) : Int) = a + (i : Int) + 1 := by omega
  have e2 : (n : Int) - ((i + 1 : Nat) : Int) = (n : Int) - (i : Int) - 1 := by omega
  rw [e1, e2]; exact hit'
 done := fun A s X hh st hf => by
  have hl : (rng a n).length = n := by simp [rng]
  unfold StR at st
  refine wpAny_pyNext_range_end hh st (by rw [hl]; omega) fun h' he' => ⟨h', s.toks, ItS.off hf he'⟩
 self := fun A s X i st => wpAny_pyIter_rangeiter st ⟨rfl, rfl⟩
inductive ItP (c : Cfg) (X : List Addr) (pair : Bool) (ds : List PyData) (s : Shared) : Value -> Shared -> Prop
 | mk {s2 : Shared} (p : Pst c s s2) (I : Addr) (fp : List Addr) (St : List Addr -> Nat -> Heap -> Prop) (IT : ItS c pair I fp ds St) (st : St (fp ++ X) 0 s2.heap) (new : ∀ a ∈ fp, s.heap.get? a = none) : ItP c X pair ds s (.ref I) s2
noncomputable def EvI (c : Cfg) (l : Nat) (X : List Addr) (env : Env) (Γ : Gam) (pair : Bool) (e : Expr) (ds : List PyData) : Prop :=
 ∀ A s, Lev l A -> Good c A X env Γ s.heap -> wpAny c.M A (eval e env) (fun x s1 => wpAny c.M A (pyIter x) (ItP c X pair ds s) NoE s1) NoE s
section
variable {c : Cfg} {l : Nat} {X : List Addr} {env : Env} {Γ : Gam}
theorem EvI.ofList {pair : Bool} {e : Expr} {ds : List PyData} (h : Ev c l X env Γ e (.list ds)) (hp : pair = true -> ∀ d ∈ ds, ∃ es, d = .tuple es := by intro h; cases h) : EvI c l X env Γ pair e ds := fun A s L G =>
 h.use L G fun v s1 p1 r1 G1 => by
  have hz := r1.list_inv; clear r1; obtain ⟨ax, vs, n, ha, ea, q⟩ := hz
  have hL : s1.heap.IsList ax vs.toArray := ⟨_, ea, rfl, _, rfl⟩
  refine wpAny_pyIter_list hL ⟨p1.trans .push', s1.heap.objs.size, [s1.heap.objs.size], StL c s1.heap.objs.size ax ds, its_list hp, ?_, ?_⟩
  ·have w := RdL.wide (X' := [s1.heap.objs.size] ++ X) (fun a hm => by
    rcases lA hm with z | z
    ·rw [lS z]; exact .inr (fresh_ge (Nat.le_refl _))
    ·exact .inl z) q
   refine ⟨⟨_, hP _ rfl, rfl, rfl⟩, ?_, vs, n, Heap.get?_push_of_some _ ea, w.hx0 (c := c) (.push _ _) (fun a z => lR _ (G1.bas.frs a z))⟩
   intro hm
   rcases lA hm with z | z
   ·rw [lS z] at ea
    exact absurd (Heap.lt_size ea) (Nat.lt_irrefl _)
   ·exact ha z
  ·intro a hm
   rw [lS hm]
   exact p1.hx.none_of (fun z => nomatch z) (fresh_ge (Nat.le_refl _))
theorem EvI.ofRange {e : Expr} {f : Str} {np pos : Pos} {n : Nat} (hg : Glb c f (.type "range")) (hf : env.kindOf f = some .globalImplicit) (h : Ev c l X env Γ e (.int (n : Nat))) (hn : n <= 10 ^ 9)
  (hd : (f == ("__debug__" : Str)) = false := by decide) (he : autoParam (starEach [e] env = (false, eval e env) :: starEach [] env) aR) : EvI c l X env Γ false (.Call (.Name f np) [e] [] pos) (rng 0 n) := fun A s L G => by
 refine wpAny_Call_ofName (wpAny_Name (hg A _ s env _ G.bas.stays G.globals G.builtins G.kind hf ?_) hd)
 have a := EvA.cons (pos := pos) h .nil he A s L G
 show wpAny c.M A (callWith pos (.type "range") [] (backTo pos (starEach [e] env)) []) _ _ s
 rw [he] at a ⊢
 refine callWith_of (P := fun h => c.base.StaysIn h) rfl keep_type (evalArgs_plain (wK a (fun vs s1 q => ?_)))
 obtain ⟨p1, q⟩ := q
 refine ⟨(G.hx0 p1.hx).bas.stays, ?_⟩
 have hz := q.one_inv; clear q; obtain ⟨_, r⟩ := hz
 have hz := r.int_inv; clear r; obtain ⟨t⟩ := hz
 refine call_range_1 ?_
 have hz : Builtin.Range.rangeSize 0 (n : Int) 1 = ((n : Nat) : Int) := by rw [rangeSize_nat]; omega
 refine wpAny_pyIter_range (IsRange.new ..) ?_ ?_
 ·unfold Builtin.Range.small
  rw [hz]
  simp [Builtin.Range.rangeFitsLong]
  omega
 ·refine ⟨p1.trans (Pst.push.trans .push'), _, [_], StR _ 0 n, its_range, ?_, ?_⟩
  ·unfold StR
   rw [hz, show (0 : Int) + ((0 : Nat) : Int) = 0 from rfl, show ((n : Nat) : Int) - ((0 : Nat) : Int) = (n : Int) from Int.sub_zero _]
   exact hP _ rfl
  ·intro a hm
   rw [lS hm]
   exact p1.hx.none_of (fun z => nomatch z) (fresh_ge (by show s1.heap.objs.size <= (s1.heap.push _).objs.size; rw [Heap.size_push]; exact Nat.le_succ _))
end
end
section
theorem ns_uniq {h : Heap} {a : Addr} {m m' : Str -> Option Value} (x : h.Ns a m) (y : h.Ns a m') (n : Str) : m n = m' n := by
 obtain ⟨o, es, ep, e, d, _, r⟩ := x
 obtain ⟨o', es', ep', e', d', _, r'⟩ := y
 rw [e] at e'; cases e'
 rw [d] at d'; cases d'
 rw [<- r n, <- r' n]
theorem ns_not_cell {h : Heap} {a : Addr} {m : Str -> Option Value} {v : Option Value} (x : h.Ns a m) (y : h.IsCell a v) : False := by
 obtain ⟨o, es, ep, e, d, _⟩ := x
 obtain ⟨o', e', d'⟩ := y
 rw [e] at e'; cases e'
 rw [d] at d'; cases d'
theorem ns_alive {h : Heap} {a : Addr} {m : Str -> Option Value} (x : h.Ns a m) : ∃ o, h.get? a = some o /\ NoFld o := by
 obtain ⟨o, es, ep, e, d, _⟩ := x
 exact ⟨o, e, fun vs q => by rw [d] at q; cases q⟩
theorem cell_alive {h : Heap} {a : Addr} {v : Option Value} (x : h.IsCell a v) : ∃ o, h.get? a = some o /\ NoFld o := by
 obtain ⟨o, e, d⟩ := x
 exact ⟨o, e, fun vs q => by rw [d] at q; cases q⟩
inductive Tgt (env : Env) (h : Heap) (x : Str) (t : Addr) : Prop
 | loc {m : Str -> Option Value} : env.kindOf x = some .local -> t = env.locals -> h.Ns env.locals m -> Tgt env h x t
 | cell {v : Option Value} : env.kindOf x = some .cell -> env.cells.lookup x = some t -> h.IsCell t v -> Tgt env h x t
theorem Tgt.alive {env : Env} {h : Heap} {x : Str} {t : Addr} (T : Tgt env h x t) : ∃ o, h.get? t = some o /\ NoFld o := by
 cases T with
 | loc _ e n => rw [e]; exact ns_alive n
 | cell _ _ n => exact cell_alive n
theorem Tgt.hx {c : Cfg} {Y : List Addr} {env : Env} {h h' : Heap} {x : Str} {t : Addr} (T : Tgt env h x t) (q : HX c Y h h') (hy : t ∉ Y) : Tgt env h' x t := by
 cases T with
 | loc a e n => exact .loc a e (q.ns (e ▸ hy) n)
 | cell a e n => exact .cell a e (q.cell hy n)
theorem Tgt.same {env : Env} {h h' : Heap} {x y : Str} {t u : Addr} (T : Tgt env h x t) (U : Tgt env h y u) (hs : Heap.SameBut t h h') (U' : Tgt env h' x t) : Tgt env h' y u := by
 by_cases e : u = t
 ·cases U with
  | loc k l n =>
   cases U' with
   | loc k' l' n' => exact .loc k l n'
   | cell k' l' n' =>
    cases T with
    | loc k2 l2 n2 => exact absurd (k'.symm.trans k2) (by decide)
    | cell k2 l2 n2 => rw [<- e, l] at n2; exact (ns_not_cell n n2).elim
  | cell k l n =>
   cases U' with
   | loc k' l' n' =>
    cases T with
    | loc k2 l2 n2 => rw [e, l2] at n; exact (ns_not_cell n2 n).elim
    | cell k2 l2 n2 => exact absurd (k'.symm.trans k2) (by decide)
   | cell k' l' n' => exact .cell k l (e ▸ n')
 ·cases U with
  | loc k l n => exact .loc k l (n.sameBut hs (l ▸ e))
  | cell k l n => exact .cell k l (n.sameBut hs e)
structure Kp (env : Env) (h h' : Heap) : Prop where
 tgt : ∀ y u, Tgt env h y u -> Tgt env h' y u
 ns : ∀ m, h.Ns env.locals m -> ∃ m', h'.Ns env.locals m'
theorem Kp.trans {env : Env} {h h' h'' : Heap} (x : Kp env h h') (y : Kp env h' h'') : Kp env h h'' := ⟨fun a u t => y.tgt _ _ (x.tgt _ _ t), fun m n => let ⟨m', n'⟩ := x.ns m n; y.ns m' n'⟩
theorem Kp.hx0 {c : Cfg} {env : Env} {h h' : Heap} (q : HX c [] h h') : Kp env h h' := ⟨fun _ _ t => t.hx q (fun z => nomatch z), fun m n => ⟨m, q.ns (fun z => nomatch z) n⟩⟩
theorem store_raw {c : Cfg} {A : Around} {X : List Addr} {env : Env} {Γ : Gam} {s : Shared} {x : Str} {t : Addr} {v : Value} {Q : Unit -> Shared -> Prop} {E : Value -> Shared -> Prop}
  (G : Good c A X env Γ s.heap) (T : Tgt env s.heap x t) (htX : t ∈ X) (hb : c.base.get? t = none)
  (k : ∀ h' tk, HX c [t] s.heap h' -> Heap.SameBut t s.heap h' -> Tgt env h' x t -> Kp env s.heap h' -> (∀ y u, y ≠ x -> Has env s.heap y u -> Has env h' y u) -> Has env h' x v -> Good c A X env (Γ.filter fun p => p.1 != x) h' -> Q () { s with heap := h', toks := tk }) :
  wpAny c.M A (storeName env x v) Q E s := by
 have key : ∀ h' tk, Heap.SameBut t s.heap h' -> Tgt env h' x t -> Has env h' x v -> (∀ m, s.heap.Ns env.locals m -> ∃ m', h'.Ns env.locals m' /\ ∀ z, z ≠ x -> m' z = m z) ->
   (∀ y a w, y ≠ x -> env.cells.lookup y = some a -> s.heap.IsCell a w -> h'.IsCell a w) -> (∀ a w, env.cells.lookup x = some a -> s.heap.IsCell a w -> ∃ w', h'.IsCell a w') -> Q () { s with heap := h', toks := tk } := by
  intro h' tk hs T' H hl hc hcx
  obtain ⟨o', e', n'⟩ := T'.alive
  have q : HX c [t] s.heap h' := .sameButL hs hb e' n'
  have hkeep : ∀ y u, y ≠ x -> Has env s.heap y u -> Has env h' y u := fun y u hne Hu => by
   cases Hu with
   | loc kk n e =>
    obtain ⟨m', n', e'⟩ := hl _ n
    exact .loc kk n' ((e' _ hne).trans e)
   | cell kk l i => exact .cell kk l (hc _ _ _ hne l i)
   | free kk l i dd => exact .free kk l (hc _ _ _ hne l i) dd
  have hY : ∀ y ∈ [t], y ∈ X := fun y hy => lS hy ▸ htX
  refine k h' tk q hs T' ⟨fun y u U => Tgt.same T U hs T', fun m n => let ⟨m', n', _⟩ := hl m n; ⟨m', n'⟩⟩ hkeep H ⟨⟨G.bas.handled, ?_, fun a ha => ?_, G.bas.frs⟩, G.kind, G.globals, G.builtins, G.cells, G.inj, fun y a e => ?_, fun p hp => ?_⟩
  ·obtain ⟨o, b, f⟩ := G.bas.below
   exact ⟨o, q.below f b, f⟩
  ·by_cases ea : a = t
   ·exact ⟨o', ea ▸ e'⟩
   ·exact q.alive (by simpa using ea) (G.bas.alloc a ha)
  ·obtain ⟨w, i⟩ := G.cal y a e
   by_cases ey : y = x
   ·subst ey
    exact hcx a w e i
   ·exact ⟨w, hc y a w ey e i⟩
  ·obtain ⟨hp1, hp2⟩ := List.mem_filter.mp hp
   have hne : p.1 ≠ x := by simpa using hp2
   obtain ⟨u, Hu, ru⟩ := G.vars p hp1
   exact ⟨u, hkeep _ _ hne Hu, ru.hx q G.bas.frs hY⟩
 cases T with
 | @loc m kx et n =>
  subst et
  refine wpAny_storeName_local kx n (fun h' hn hs => key h' _ hs (.loc kx rfl hn) (.loc kx hn (by simp)) (fun m2 n2 => ⟨_, hn, fun z hz => ?_⟩) (fun y a w hy l i => i.sameBut hs fun z => ?_) fun a w l i => ⟨w, i.sameBut hs fun z => ?_⟩) (by rw [G.kind]; rfl)
  ·rw [if_neg hz]; exact ns_uniq n n2 z
  ·rw [z] at i; exact ns_not_cell n i
  ·rw [z] at i; exact ns_not_cell n i
 | @cell w kx et n =>
  refine wpAny_storeName_cell G.kind kx et n fun h' hi hs => key h' s.toks hs (.cell kx et hi) (.cell kx et hi) (fun m2 n2 => ⟨m2, n2.sameBut hs fun z => ?_, fun _ _ => rfl⟩) (fun y a w hy l i => i.sameBut hs fun z => hy (G.inj _ _ _ (z ▸ l) et)) fun a w l i => ⟨_, (by rw [l] at et; cases et; exact hi)⟩
  rw [<- z] at n; exact ns_not_cell n2 n
theorem Good.put {c : Cfg} {A : Around} {X : List Addr} {env : Env} {Γ : Gam} {h : Heap} (G : Good c A X env Γ h) {x : Str} {v : Value} {d : PyData} (H : Has env h x v) (r : Rd c.w X h v d) : Good c A X env ((x, d) :: Γ) h :=
 { G with vars := fun p hp => (lC hp).elim (fun e => ⟨v, by rw [e]; exact H, by rw [e]; exact r⟩) (G.vars p) }
theorem store_ok {c : Cfg} {A : Around} {X : List Addr} {env : Env} {Γ : Gam} {s : Shared} {x : Str} {t : Addr} {v : Value} {d : PyData} {Q : Unit -> Shared -> Prop} {E : Value -> Shared -> Prop}
  (G : Good c A X env Γ s.heap) (T : Tgt env s.heap x t) (htX : t ∈ X) (hb : c.base.get? t = none) (r : Rd c.w X s.heap v d)
  (k : ∀ h' tk, HX c [t] s.heap h' -> Heap.SameBut t s.heap h' -> Tgt env h' x t -> Kp env s.heap h' -> (∀ y u, y ≠ x -> Has env s.heap y u -> Has env h' y u) -> Good c A X env ((x, d) :: Γ.filter fun p => p.1 != x) h' -> Q () { s with heap := h', toks := tk }) :
  wpAny c.M A (storeName env x v) Q E s :=
 store_raw G T htX hb fun h' tk q hs T' kp kh H G' => k h' tk q hs T' kp kh (G'.put H (r.hx q G.bas.frs fun y hy => lS hy ▸ htX))
theorem Good.sub {c : Cfg} {A : Around} {X : List Addr} {env : Env} {Γ Γ' : Gam} {h : Heap} (G : Good c A X env Γ h) (hs : ∀ p ∈ Γ', p ∈ Γ) : Good c A X env Γ' h :=
 ⟨G.bas, G.kind, G.globals, G.builtins, G.cells, G.inj, G.cal, fun p hp => G.vars p (hs p hp)⟩
theorem Good.mut {c : Cfg} {A : Around} {X X' Y : List Addr} {env : Env} {Γ : Gam} {h h' : Heap} (G : Good c A X env Γ h) (q : HX c Y h h') (hY : ∀ y ∈ Y, y ∈ X) (hL : env.locals ∉ Y) (hC : ∀ x a, env.cells.lookup x = some a -> a ∉ Y)
  (hX : ∀ a ∈ X', a ∈ X) (hA : ∀ a ∈ X', a ∈ Y -> ∃ o, h'.get? a = some o) (hF : ∀ a ∈ c.fr, a ∈ X') : Good c A X' env Γ h' := by
 refine ⟨⟨G.bas.handled, ?_, fun a ha => ?_, hF⟩, G.kind, G.globals, G.builtins, G.cells, G.inj, fun x a e => let ⟨v, i⟩ := G.cal x a e; ⟨v, q.cell (hC _ _ e) i⟩, fun p hp => ?_⟩
 ·obtain ⟨o, b, f⟩ := G.bas.below
  exact ⟨o, q.below f b, f⟩
 ·by_cases ea : a ∈ Y
  ·exact hA a ha ea
  ·exact q.alive ea (G.bas.alloc a (hX a ha))
 ·obtain ⟨u, Hu, ru⟩ := G.vars p hp
  refine ⟨u, ?_, (ru.hx q G.bas.frs hY).sub hX⟩
  exact Hu.hxL q hL hC
end
section
noncomputable def clo (env : Env) : List (Str × NameKind) -> List (Str × Addr) -> List (Str × Addr)
 | [], acc => acc
 | (n, k) :: r, acc => clo env r (if k == .free then (match env.cells.lookup n with | some a => (n, a) :: acc | none => acc) else acc)
theorem closure_go (env : Env) (f : Str × NameKind -> List (Str × Addr) -> Sem (ForInStep (List (Str × Addr))))
  (hf : ∀ n k acc, f (n, k) acc = if k == .free then (do let a <- cellOf env n; pure (.yield ((n, a) :: acc))) else pure (.yield acc)) :
  ∀ (names : List (Str × NameKind)) (acc : List (Str × Addr)), (∀ p ∈ names, p.2 = .free -> ∃ a, env.cells.lookup p.1 = some a) -> forIn names acc f = pure (clo env names acc)
 | [], acc, _ => by rw [List.forIn_nil]; rfl
 | (n, k) :: r, acc, h => by
  rw [List.forIn_cons, hf]
  unfold clo
  by_cases hk : k = .free
  ·subst hk
   obtain ⟨a, e⟩ := h (n, .free) (.head _) rfl
   have e1 : cellOf env n = pure a := by unfold cellOf; rw [e]
   simp only [beq_self_eq_true, if_true, e1, e, pure_bind]
   exact closure_go env f hf r _ fun p hp => h p (.tail _ hp)
  ·have : (k == NameKind.free) = false := by simpa using hk
   simp only [this, Bool.false_eq_true, if_false, pure_bind]
   exact closure_go env f hf r _ fun p hp => h p (.tail _ hp)
theorem closureFor_ok {scope : Scope} {env : Env} (h : ∀ p ∈ scope.names, p.2 = .free -> ∃ a, env.cells.lookup p.1 = some a) : closureFor scope env = pure (clo env scope.names []) := by
 delta closureFor
 dsimp only
 rw [closure_go env _ (fun n k acc => by cases k <;> rfl) scope.names [] h]
 rfl
theorem lk_same {α : Type} {x : Str} {a : α} {acc : List (Str × α)} : ((x, a) :: acc).lookup x = some a := by rw [List.lookup_cons, beq_self_eq_true]
theorem lk_ne {α : Type} {x n : Str} {a : α} {acc : List (Str × α)} (h : x ≠ n) : ((n, a) :: acc).lookup x = acc.lookup x := by rw [List.lookup_cons, beq_eq_false_iff_ne.mpr h]
theorem lk_cons {α : Type} {x n : Str} {k a : α} {acc : List (Str × α)} (e : ((n, k) :: acc).lookup x = some a) : (x = n /\ k = a) \/ (x ≠ n /\ acc.lookup x = some a) :=
 (Decidable.em (x = n)).elim (fun h => .inl ⟨h, Option.some.inj (lk_same.symm.trans (h ▸ e))⟩) fun h => .inr ⟨h, (lk_ne h).symm.trans e⟩
theorem clo_off {env : Env} {x : Str} {names : List (Str × NameKind)} : ∀ {acc : List (Str × Addr)}, x ∉ names.map (·.1) -> (clo env names acc).lookup x = acc.lookup x := by
 induction names with
 | nil => exact fun _ => rfl
 | cons p r ih =>
  intro acc h
  refine (ih fun e => h (.tail _ e)).trans ?_
  split
  ·split
   ·exact lk_ne fun e => h (e ▸ .head _)
   ·rfl
  ·rfl
theorem clo_from {env : Env} {x : Str} {a : Addr} {names : List (Str × NameKind)} : ∀ {acc : List (Str × Addr)}, (∀ y b, acc.lookup y = some b -> env.cells.lookup y = some b) -> (clo env names acc).lookup x = some a -> env.cells.lookup x = some a := by
 induction names with
 | nil => exact fun h e => h _ _ e
 | cons p r ih =>
  intro acc h e
  refine ih ?_ e
  split
  ·split
   ·rename_i b hb
    exact fun y b' e' => (lk_cons e').elim (fun q => by rw [q.1, <- q.2]; exact hb) fun q => h _ _ q.2
   ·exact h
  ·exact h
theorem clo_free {env : Env} {x : Str} {names : List (Str × NameKind)} : ∀ {acc : List (Str × Addr)}, (names.map (·.1)).Nodup -> (x, NameKind.free) ∈ names -> (∃ a, env.cells.lookup x = some a) -> (clo env names acc).lookup x = env.cells.lookup x := by
 induction names with
 | nil => exact fun _ hm => nomatch hm
 | cons p r ih =>
  intro acc hn hm hx
  have hn := List.nodup_cons.mp hn
  rcases lC hm with e | hm
  ·subst e
   refine (clo_off hn.1).trans ?_
   obtain ⟨a, e⟩ := hx
   rw [e]; exact lk_same
  ·exact ih hn.2 hm hx
theorem cells_off {x : Str} {names : List (Str × NameKind)} : ∀ {n : Nat} {acc : List (Str × Addr)}, (x, NameKind.cell) ∉ names -> (cellsFrom n names acc).lookup x = acc.lookup x := by
 induction names with
 | nil => exact fun _ => rfl
 | cons p r ih =>
  intro n acc h
  obtain ⟨y, k⟩ := p
  unfold cellsFrom
  split
  ·rename_i hk
   exact (ih fun e => h (.tail _ e)).trans (lk_ne fun e => h (by rw [e, <- beq_iff_eq.mp hk]; exact .head _))
  ·exact ih fun e => h (.tail _ e)
theorem cells_on {x : Str} {names : List (Str × NameKind)} : ∀ {h : Heap} {acc : List (Str × Addr)}, (names.map (·.1)).Nodup -> (x, NameKind.cell) ∈ names ->
  ∃ a, (cellsFrom h.objs.size names acc).lookup x = some a /\ h.objs.size <= a /\ (pushCells h names).IsCell a none := by
 induction names with
 | nil => intro h acc _ hm; cases hm
 | cons p r ih =>
  intro h acc hn hm
  have hn := List.nodup_cons.mp hn
  rcases lC hm with e | hm
  ·subst e
   exact ⟨h.objs.size, (cells_off (n := h.objs.size + 1) (acc := (x, h.objs.size) :: acc) fun e => hn.1 (lM (f := (·.1)) e)).trans lk_same, Nat.le_refl _,
    (show Heap.IsCell (h.push { cls := .type "cell", data := .cell none }) h.objs.size none from ⟨_, hP _ rfl, rfl⟩).keeps (pushCells_keeps r _)⟩
  ·unfold cellsFrom pushCells
   split
   ·obtain ⟨a, e1, e2, e3⟩ := ih (h := h.push { cls := .type "cell", data := .cell none }) (acc := (p.1, h.objs.size) :: acc) hn.2 hm
    rw [Heap.size_push] at e1 e2
    exact ⟨a, e1, Nat.le_of_succ_le e2, e3⟩
   ·exact ih hn.2 hm
theorem cells_inj {names : List (Str × NameKind)} : ∀ {n : Nat} {acc : List (Str × Addr)}, (∀ x y a, acc.lookup x = some a -> acc.lookup y = some a -> x = y) -> (∀ x a, acc.lookup x = some a -> a < n) ->
  ∀ x y a, (cellsFrom n names acc).lookup x = some a -> (cellsFrom n names acc).lookup y = some a -> x = y := by
 induction names with
 | nil => exact fun hi _ => hi
 | cons p r ih =>
  intro n acc hi hb
  unfold cellsFrom
  split
  ·refine ih (fun x y a e1 e2 => ?_) fun x a e => (lk_cons e).elim (fun q => q.2 ▸ Nat.lt_succ_self _) fun q => Nat.lt_succ_of_lt (hb _ _ q.2)
   rcases lk_cons e1 with q1 | q1 <;> rcases lk_cons e2 with q2 | q2
   ·exact q1.1.trans q2.1.symm
   ·exact absurd (q1.2 ▸ hb _ _ q2.2) (Nat.lt_irrefl _)
   ·exact absurd (q2.2 ▸ hb _ _ q1.2) (Nat.lt_irrefl _)
   ·exact hi _ _ _ q1.2 q2.2
  ·exact ih hi hb
noncomputable def scOk (env : Env) (scope : Scope) : Prop :=
 scope.kind = .function /\ (scope.names.map (·.1)).Nodup /\ (∀ p ∈ scope.names, p.2 = .free -> env.kindOf p.1 = some .cell \/ env.kindOf p.1 = some .free)
noncomputable def cenvOf (scope : Scope) (cs : List (Str × Addr)) (C : Addr) (env : Env) : Env := compEnvC scope cs C env
theorem mem_lookup {α : Type} {x : Str} {k : α} {names : List (Str × α)} : (names.map (·.1)).Nodup -> (x, k) ∈ names -> names.lookup x = some k := by
 induction names with
 | nil => exact fun _ hm => nomatch hm
 | cons p r ih =>
  intro hn hm
  have hn := List.nodup_cons.mp hn
  obtain ⟨y, j⟩ := p
  rcases lC hm with e | hm
  ·rw [<- e]; exact lk_same
  ·exact (lk_ne fun (e : x = y) => hn.1 (e ▸ lM (f := (·.1)) hm)).trans (ih hn.2 hm)
theorem lk_map {α β : Type} {g : Str × α -> β} {f : Str × α -> Str × β} (hf : ∀ p, f p = (p.1, g p)) {x : Str} {names : List (Str × α)} : (names.map f).lookup x = (names.lookup x).map fun k => g (x, k) := by
 induction names with
 | nil => rfl
 | cons p r ih =>
  rw [List.map_cons, hf, List.lookup_cons, List.lookup_cons, ih]
  cases q : x == p.1 with
  | true => rw [beq_iff_eq.mp q]; rfl
  | false => rfl
noncomputable def reK (env : Env) (p : Str × NameKind) : NameKind := if p.2 == .free && env.scope.kind == .function && env.kindOf p.1 == some .cell then .cell else p.2
theorem kind_map {scope : Scope} {env : Env} {cs : List (Str × Addr)} {C : Addr} {x : Str} : (cenvOf scope cs C env).kindOf x = (scope.names.lookup x).map fun k => reK env (x, k) :=
 lk_map (g := reK env) fun p => by
  show (if _ then _ else _) = _
  unfold reK
  split <;> rfl
theorem kind_relabel {scope : Scope} {env : Env} {cs : List (Str × Addr)} {C : Addr} {x : Str} {k : NameKind} (h : scope.names.lookup x = some k) :
  (cenvOf scope cs C env).kindOf x = some (if k == .free && env.scope.kind == .function && env.kindOf x == some .cell then .cell else k) := by rw [kind_map, h]; rfl
theorem kind_relabel_inv {scope : Scope} {env : Env} {cs : List (Str × Addr)} {C : Addr} {x : Str} {k : NameKind} (h : (cenvOf scope cs C env).kindOf x = some k) : ∃ k', scope.names.lookup x = some k' := by
 rw [kind_map] at h
 obtain ⟨k', e, _⟩ := Option.map_eq_some_iff.mp h
 exact ⟨k', e⟩
noncomputable def Cap (env : Env) (scope : Scope) (Γ Γc : Gam) : Prop := ∀ p ∈ Γc, p ∈ Γ /\ scope.names.lookup p.1 = some .free /\ (p.1 == ("__classdict__" : Str)) = false /\ (env.kindOf p.1 = some .cell \/ env.kindOf p.1 = some .free)
structure CompEnv (c : Cfg) (A : Around) (X : List Addr) (env : Env) (scope : Scope) (Γc : Gam) (s : Heap) (cenv : Env) (N : List Addr) (h' : Heap) : Prop where
 keep : ∀ b o, s.get? b = some o -> h'.get? b = some o
 good : Good c A (N ++ X) cenv Γc h'
 tgt : ∀ x, scope.names.lookup x = some .local \/ scope.names.lookup x = some .cell -> ∃ t, t ∈ N /\ Tgt cenv h' x t
 new : ∀ a ∈ N, s.get? a = none
 loc : cenv.locals ∈ N /\ ∃ m, h'.Ns cenv.locals m
 cel : ∀ x a, cenv.cells.lookup x = some a -> a ∈ N \/ env.cells.lookup x = some a
theorem comp_env {c : Cfg} {A : Around} {X : List Addr} {env : Env} {Γ Γc : Gam} {s : Shared} {scope : Scope} {Q : Env -> Shared -> Prop} {E : Value -> Shared -> Prop} (G : Good c A X env Γ s.heap) (hs : scOk env scope) (hc : Cap env scope Γ Γc)
  (k : ∀ cs C N h', CompEnv c A X env scope Γc s.heap (cenvOf scope cs C env) N h' -> (cenvOf scope cs C env).locals = C -> Q { scope := scope, locals := C, globals := env.globals, cells := cs, qual := env.qual, func := none, code := env.code, frame := env.frame, builtins := env.builtins } { s with heap := h' }) :
  wpAny c.M A (newFunctionEnv scope env.globals (clo env scope.names []) [] env.qual none .none (some env)) Q E s := by
 obtain ⟨hk, hnd, hfr⟩ := hs
 simp only [newFunctionEnv, Option.isSome_some, if_true]
 refine wB (wpAny_alloc ?_)
 refine wB (wpAny_layCells _ (fun name kind cells => by cases hkc : kind == NameKind.cell <;> simp [hkc]) _ _ _ _ ?_)
 rw [List.forIn_nil]
 refine wB (wP (wP ?_))
 generalize hH : s.heap.push { cls := Value.type "dict", data := Data.dict #[] } = H
 have hz : H.objs.size = s.heap.objs.size + 1 := by rw [<- hH, Heap.size_push]
 have old : ∀ b o, s.heap.get? b = some o -> (pushCells H scope.names).get? b = some o := fun b o e => pushCells_keeps _ _ b o (hH ▸ Heap.get?_push_of_some _ e)
 have q0 : HX c [] s.heap (pushCells H scope.names) := .keep0 old
 have hacc : ∀ x a, (clo env scope.names []).lookup x = some a -> env.cells.lookup x = some a := fun x a e => clo_from (by intro y b e; cases e) e
 have hNs : (pushCells H scope.names).Ns s.heap.objs.size (fun _ => none) := by
  have := (Heap.Ns.new s.heap (.type "dict")).keeps (pushCells_keeps scope.names _)
  rw [hH] at this; exact this
 have hcell : ∀ x, scope.names.lookup x = some .cell -> ∃ a, (cellsFrom H.objs.size scope.names (clo env scope.names [])).lookup x = some a /\ H.objs.size <= a /\ (pushCells H scope.names).IsCell a none := fun x hx => cells_on hnd (mem_of_lookup hx)
 have hfree : ∀ x, scope.names.lookup x = some .free -> (cellsFrom H.objs.size scope.names (clo env scope.names [])).lookup x = env.cells.lookup x /\ ∃ a, env.cells.lookup x = some a := fun x hx => by
  have hm := mem_of_lookup hx
  have ha := G.cells x (hfr _ hm rfl)
  refine ⟨?_, ha⟩
  rw [cells_off fun z => by rw [mem_lookup hnd z] at hx; cases hx]
  exact clo_free hnd hm ha
 have hfrom : ∀ x a, (cellsFrom H.objs.size scope.names (clo env scope.names [])).lookup x = some a -> env.cells.lookup x = some a \/ (pushCells H scope.names).IsCell a none := fun x a e => by
  by_cases hm : (x, NameKind.cell) ∈ scope.names
  ·obtain ⟨b, e1, _, e3⟩ := hcell x (mem_lookup hnd hm)
   rw [e] at e1; cases e1
   exact .inr e3
  ·rw [cells_off hm] at e
   exact .inl (hacc x a e)
 have hinj := cells_inj (names := scope.names) (n := H.objs.size) (acc := clo env scope.names []) (fun x y a e1 e2 => G.inj x y a (hacc _ _ e1) (hacc _ _ e2)) fun x a e => by
   obtain ⟨v, i⟩ := G.cal x a (hacc _ _ e)
   obtain ⟨o, e, _⟩ := cell_alive i
   exact Nat.lt_of_lt_of_le (Heap.lt_size e) (by rw [hz]; exact Nat.le_succ _)
 have hoff : ∀ x a, (x, NameKind.cell) ∉ scope.names -> (cellsFrom H.objs.size scope.names (clo env scope.names [])).lookup x = some a -> env.cells.lookup x = some a := fun x a hm e => by
  rw [cells_off hm] at e
  exact hacc x a e
 generalize cellsFrom H.objs.size scope.names (clo env scope.names []) = cs at *
 generalize pushCells H scope.names = H2 at *
 refine k cs s.heap.objs.size (s.heap.objs.size :: scope.names.filterMap fun p => if p.2 = .cell then cs.lookup p.1 else none) _ ?_ rfl
 have hN : ∀ a, a ∈ (s.heap.objs.size :: scope.names.filterMap fun p => if p.2 = .cell then cs.lookup p.1 else none) -> a = s.heap.objs.size \/ (H.objs.size <= a /\ H2.IsCell a none) := by
  intro a ha
  rcases lC ha with q | ha
  ·exact .inl q
  ·right
   obtain ⟨p, hp, e⟩ := List.mem_filterMap.mp ha
   split at e
   ·rename_i hpc
    have : (p.1, NameKind.cell) ∈ scope.names := by rw [<- hpc]; exact hp
    obtain ⟨b, e1, e2, e3⟩ := hcell p.1 (mem_lookup hnd this)
    rw [e] at e1; cases e1
    exact ⟨e2, e3⟩
   ·cases e
 have hNew : ∀ a, a ∈ (s.heap.objs.size :: scope.names.filterMap fun p => if p.2 = .cell then cs.lookup p.1 else none) -> s.heap.get? a = none := by
  intro a ha
  rcases hN a ha with q | ⟨q, _⟩
  ·exact fresh_ge (Nat.le_of_eq q.symm)
  ·exact fresh_ge (by rw [hz] at q; omega)
 refine ⟨old, ⟨⟨G.bas.handled, ?_, fun a ha => ?_, fun a ha => lR _ (G.bas.frs a ha)⟩, hk, G.globals, G.builtins, fun x hx => ?_, ?_, fun x a e => ?_, fun p hp => ?_⟩, fun x hx => ?_, hNew, ⟨.head _, _, hNs⟩, fun x a e => ?_⟩
 ·obtain ⟨o, b, f⟩ := G.bas.below
  exact ⟨o, q0.below f b, f⟩
 ·rcases lA ha with ha | ha
  ·rcases hN a ha with q | ⟨_, q⟩
   ·obtain ⟨o, e, _⟩ := ns_alive hNs
    exact ⟨o, q ▸ e⟩
   ·obtain ⟨o, e, _⟩ := cell_alive q
    exact ⟨o, e⟩
  ·exact q0.alive (fun z => nomatch z) (G.bas.alloc a ha)
 ·obtain ⟨k', hk'⟩ : ∃ k', scope.names.lookup x = some k' := by rcases hx with hx | hx <;> exact kind_relabel_inv hx
  rw [kind_relabel hk'] at hx
  show ∃ a, cs.lookup x = some a
  cases k' with
  | cell => obtain ⟨a, e, _⟩ := hcell x hk'; exact ⟨a, e⟩
  | free => rw [(hfree x hk').1]; exact (hfree x hk').2
  | _ => simp at hx
 ·exact hinj
 ·rcases hfrom x a e with e | e
  ·obtain ⟨v, i⟩ := G.cal x a e
   exact ⟨v, i.keeps old⟩
  ·exact ⟨_, e⟩
 ·obtain ⟨hp1, hp2, hp3, hp4⟩ := hc p hp
  obtain ⟨v, Hv, r⟩ := G.vars p hp1
  refine ⟨v, ?_, (r.wide fun a ha => ?_).hx0 q0 fun a ha => lR _ (G.bas.frs a ha)⟩
  ·have hl := (hfree p.1 hp2).1
   have go : ∀ a, env.cells.lookup p.1 = some a -> s.heap.IsCell a (some v) -> Has (cenvOf scope cs s.heap.objs.size env) H2 p.1 v := fun a e i => by
    have hkk := kind_relabel (cs := cs) (C := s.heap.objs.size) (env := env) hp2
    by_cases hcc : (NameKind.free == NameKind.free && env.scope.kind == .function && env.kindOf p.1 == some .cell) = true
    ·rw [if_pos hcc] at hkk
     exact .cell hkk (hl.trans e) (i.keeps old)
    ·rw [if_neg hcc] at hkk
     exact .free hkk (hl.trans e) (i.keeps old) hp3
   cases Hv with
   | loc k1 _ _ => rcases hp4 with q | q <;> (rw [q] at k1; cases k1)
   | cell _ e i => exact go _ e i
   | free _ e i _ => exact go _ e i
  ·rcases lA ha with z | z
   ·exact .inr (hNew a z)
   ·exact .inl z
 ·rcases hx with hx | hx
  ·have hkk := kind_relabel (cs := cs) (C := s.heap.objs.size) (env := env) hx
   refine ⟨s.heap.objs.size, .head _, .loc (by rw [hkk]; rfl) rfl hNs⟩
  ·have hkk := kind_relabel (cs := cs) (C := s.heap.objs.size) (env := env) hx
   obtain ⟨a, e, _, i⟩ := hcell x hx
   refine ⟨a, .tail _ (List.mem_filterMap.mpr ⟨(x, .cell), mem_of_lookup hx, by simpa using e⟩), .cell (by rw [hkk]; rfl) e i⟩
 ·by_cases hm : (x, NameKind.cell) ∈ scope.names
  ·have e' : cs.lookup x = some a := e
   exact .inl (.tail _ (List.mem_filterMap.mpr ⟨(x, .cell), hm, by simpa using e'⟩))
  ·exact .inr (hoff x a hm e)
end
section
inductive Bind2 : Bool -> Expr -> PyData -> List Str -> Gam -> Prop
 | name {x p d} : (x == ("__debug__" : Str)) = false -> Bind2 false (.Name x p) d [x] [(x, d)]
 | pair {a b pa pb k p d1 d2} : (b != a) = true -> Bind2 true (.Tuple [.Name a pa, .Name b pb] k p) (.tuple [d1, d2]) [a, b] [(b, d2), (a, d1)]
noncomputable def offN (xs : List Str) (Γ : Gam) : Prop := ∀ p ∈ Γ, p.1 ∉ xs
noncomputable def TG (env : Env) (N : List Addr) (xs : List Str) (h : Heap) : Prop := (∃ m, h.Ns env.locals m) /\ ∀ x ∈ xs, ∃ t ∈ N, Tgt env h x t
theorem TG.mono {env : Env} {N : List Addr} {xs : List Str} {h h' : Heap} (T : TG env N xs h) (k : Kp env h h') : TG env N xs h' := ⟨let ⟨m, n⟩ := T.1; k.ns m n, fun x hx => let ⟨t, ht, q⟩ := T.2 x hx; ⟨t, ht, k.tgt _ _ q⟩⟩
theorem TG.hx {c : Cfg} {Y : List Addr} {env : Env} {N : List Addr} {xs : List Str} {h h' : Heap} (T : TG env N xs h) (q : HX c Y h h') (hl : env.locals ∉ Y) (hy : ∀ t ∈ N, t ∉ Y) : TG env N xs h' := ⟨let ⟨m, n⟩ := T.1; ⟨m, q.ns hl n⟩, fun x hx => let ⟨t, ht, r⟩ := T.2 x hx; ⟨t, ht, r.hx q (hy t ht)⟩⟩
theorem TG.sub {env : Env} {N : List Addr} {xs ys : List Str} {h : Heap} (T : TG env N xs h) (hs : ∀ x ∈ ys, x ∈ xs) : TG env N ys h := ⟨T.1, fun x hx => T.2 x (hs x hx)⟩
theorem filter_off {x : Str} {Γ : Gam} (h : ∀ p ∈ Γ, p.1 ≠ x) : Γ.filter (fun p => p.1 != x) = Γ := List.filter_eq_self.mpr fun p hp => by simpa using h p hp
theorem assign_ok {c : Cfg} {A : Around} {X N : List Addr} {env : Env} {Γ Γd : Gam} {s : Shared} {pair : Bool} {tg : Expr} {xs : List Str} {d : PyData} {v : Value} (B : Bind2 pair tg d xs Γd) (G : Good c A X env Γ s.heap) (hv : ItV c pair X s.heap v d) (hN : ∀ a ∈ N, a ∈ X /\ c.base.get? a = none)
  (hT : TG env N xs s.heap) (ho : offN xs Γ) {Q : Unit -> Shared -> Prop} (k : ∀ h' tk, HX c N s.heap h' -> Kp env s.heap h' -> (∀ y u, y ∉ xs -> Has env s.heap y u -> Has env h' y u) -> Good c A X env (Γd ++ Γ) h' -> Q () { s with heap := h', toks := tk }) : wpAny c.M A (assign tg env v) Q NoE s := by
 have one : ∀ (s : Shared) (Γ : Gam) (x : Str) (p : Pos) (v : Value) (d : PyData) (Q : Unit -> Shared -> Prop), Good c A X env Γ s.heap -> (∃ t ∈ N, Tgt env s.heap x t) -> (∀ q ∈ Γ, q.1 ≠ x) -> Rd c.w X s.heap v d ->
   (∀ h' tk, HX c N s.heap h' -> Kp env s.heap h' -> (∀ y u, y ≠ x -> Has env s.heap y u -> Has env h' y u) -> Good c A X env ((x, d) :: Γ) h' -> Q () { s with heap := h', toks := tk }) -> wpAny c.M A (assign (.Name x p) env v) Q NoE s := by
  intro s Γ x p v d Q G ⟨t, ht, T⟩ hne r k
  refine wpAny_assign_Name (store_ok G T (hN t ht).1 (hN t ht).2 r fun h' tk q _ _ hk hh G' => ?_)
  rw [filter_off hne] at G'
  exact k h' tk (q.mono fun y hy => lS hy ▸ ht) hk hh G'
 cases B with
 | @name x p d hd =>
  exact one s Γ x p v d _ G (hT.2 x (.head _)) (fun q hq e => ho q hq (e ▸ .head _)) hv fun h' tk q hk hh G' => k h' tk q hk (fun y u hy => hh y u fun e => hy (e ▸ .head _)) G'
 | @pair a b pa pb _ p d1 d2 hab =>
  obtain ⟨T, vs, _, ht, r⟩ := (show ItV1 c X s.heap v (.tuple [d1, d2]) from hv)
  obtain ⟨v1, v2, r1, r2⟩ := r.two_inv
  refine wpAny_assign_Tuple G.bas.handled ht rfl rfl fun h1 hx => ?_
  have q1 : HX c [] s.heap h1 := .keep0 fun b o e => hx b o (Nat.ne_of_lt (Heap.lt_size e)) e
  have G1 := G.hx0 q1
  have T1 := hT.hx q1 (fun z => nomatch z) fun _ _ z => nomatch z
  show wpAny _ _ (do holding [v2] (assign (.Name a pa) env v1); do holding [] (assign (.Name b pb) env v2); pure ()) _ _ _
  refine wB (wpAny_holding (one { s with heap := h1 } Γ a pa v1 d1 _ G1 (T1.2 a (.head _)) (fun q hq e => ho q hq (e ▸ .head _)) (r1.hx0 q1 G.bas.frs) fun h2 tk q2 k2 hh2 G2 => ?_))
  have T2 := T1.mono k2
  refine wB (wpAny_holding (one { s with heap := h2, toks := tk } _ b pb v2 d2 _ G2 (T2.2 b (.tail _ (.head _))) (fun q hq e => ?_) ((r2.hx0 q1 G.bas.frs).hx q2 G.bas.frs fun y hy => (hN y hy).1) fun h3 tk3 q3 k3 hh3 G3 => wP ?_))
  ·rcases lC hq with rfl | hq
   ·have hab' : b ≠ a := by simpa using hab
    exact hab' e.symm
   ·exact ho q hq (e ▸ .tail _ (.head _))
  ·exact k h3 tk3 (((q1.mono fun _ z => nomatch z).trans q2).trans q3) (((Kp.hx0 q1).trans k2).trans k3) (fun y u hy H => hh3 y u (fun e => hy (e ▸ .tail _ (.head _))) (hh2 y u (fun e => hy (e ▸ .head _)) (H.hx0 q1))) G3
noncomputable def turnT (p : Pos) (it : Value) (tg : Expr) (ifs : List Expr) (env : Env) (body : Sem Unit) (c0 : Code) : Sem Fin := do
 standAt p
 match <- pyNext it with
 | none => pure (.done .next)
 | some v =>
  letOwnedTupleGo tg it v
  assign tg env v
  let mut ok := true
  for c in ifs do
   if ok then ok <- isTrue c env (eval c env)
  if ok then body
  again c0
noncomputable def emitL (elt : Expr) (acc : Value) (env : Env) : Sem Unit := do let _ <- call (.builtin "list.append") [acc, <- eval elt env]
theorem turn_list (elt tg iter : Expr) (ifs : List Expr) (scope : Scope) (pos : Pos) (it acc : Value) (env : Env) :
  compTurn (.ListComp elt [⟨tg, iter, ifs, 0⟩] scope pos) 0 it acc env = turnT iter.pos it tg ifs env (emitL elt acc env) (.compLoop (.ListComp elt [⟨tg, iter, ifs, 0⟩] scope pos) 0 it acc env) := by rfl
theorem turn_list2 (elt tg iter : Expr) (g1 : Comprehension) (ifs : List Expr) (scope : Scope) (pos : Pos) (it acc : Value) (env : Env) :
  compTurn (.ListComp elt [g1, ⟨tg, iter, ifs, 0⟩] scope pos) 1 it acc env = turnT iter.pos it tg ifs env (emitL elt acc env) (.compLoop (.ListComp elt [g1, ⟨tg, iter, ifs, 0⟩] scope pos) 1 it acc env) := by rfl
noncomputable def innerK (e iter : Expr) (acc : Value) (env : Env) (k : Sem Fin) : Sem Fin := do
 let x <- eval iter env
 standAt iter.pos
 let x <- foldedSetIterable iter env x
 let _ <- runOwn (.compStart e 1 (<- holding [x] (pyIter x)) acc env) env
 k
noncomputable def innerL (e iter : Expr) (acc : Value) (env : Env) : Sem Unit := do
 let x <- eval iter env
 standAt iter.pos
 let x <- foldedSetIterable iter env x
 let it <- holding [x] (pyIter x)
 let _ <- runOwn (.compStart e 1 it acc env) env
 pure ()
theorem innerK_eq (e iter : Expr) (acc : Value) (env : Env) (k : Sem Fin) : innerK e iter acc env k = (innerL e iter acc env >>= fun _ => k) := by
 simp only [innerK, innerL, bind_assoc, pure_bind]
noncomputable def turnK (p : Pos) (it : Value) (tg : Expr) (ifs : List Expr) (env : Env) (body : Sem Fin -> Sem Fin) (c0 : Code) : Sem Fin := do
 standAt p
 match <- pyNext it with
 | none => pure (.done .next)
 | some v =>
  letOwnedTupleGo tg it v
  assign tg env v
  let mut ok := true
  for c in ifs do
   if ok then ok <- isTrue c env (eval c env)
  if ok then body (again c0) else again c0
theorem turnK_list1 (elt tg iter tg2 iter2 : Expr) (ifs ifs2 : List Expr) (scope : Scope) (pos : Pos) (it acc : Value) (env : Env) :
  compTurn (.ListComp elt [⟨tg, iter, ifs, 0⟩, ⟨tg2, iter2, ifs2, 0⟩] scope pos) 0 it acc env =
   turnK iter.pos it tg ifs env (innerK (.ListComp elt [⟨tg, iter, ifs, 0⟩, ⟨tg2, iter2, ifs2, 0⟩] scope pos) iter2 acc env) (.compLoop (.ListComp elt [⟨tg, iter, ifs, 0⟩, ⟨tg2, iter2, ifs2, 0⟩] scope pos) 0 it acc env) := by rfl
theorem turnK_T (p : Pos) (it : Value) (tg : Expr) (ifs : List Expr) (env : Env) (b : Sem Unit) (body : Sem Fin -> Sem Fin) (hb : ∀ k, body k = (b >>= fun _ => k)) (c0 : Code) : turnK p it tg ifs env body c0 = turnT p it tg ifs env b c0 := by
 unfold turnK turnT
 simp only [hb]
theorem turn_list1 (elt tg iter tg2 iter2 : Expr) (ifs ifs2 : List Expr) (scope : Scope) (pos : Pos) (it acc : Value) (env : Env) :
  compTurn (.ListComp elt [⟨tg, iter, ifs, 0⟩, ⟨tg2, iter2, ifs2, 0⟩] scope pos) 0 it acc env =
   turnT iter.pos it tg ifs env (innerL (.ListComp elt [⟨tg, iter, ifs, 0⟩, ⟨tg2, iter2, ifs2, 0⟩] scope pos) iter2 acc env) (.compLoop (.ListComp elt [⟨tg, iter, ifs, 0⟩, ⟨tg2, iter2, ifs2, 0⟩] scope pos) 0 it acc env) :=
 (turnK_list1 ..).trans (turnK_T _ _ _ _ _ _ _ (innerK_eq _ _ _ _) _)
noncomputable def emitD (kx vx : Expr) (d : Addr) (env : Env) : Sem Unit := do
 let kv <- eval kx env
 let vv <- holding [kv] (eval vx env)
 standAt { kx.pos with endLine := vx.pos.endLine, endCol := vx.pos.endCol }
 holding [kv, vv] (dictSet d kv vv)
theorem turn_dict (kx vx tg iter : Expr) (ifs : List Expr) (scope : Scope) (pos : Pos) (it : Value) (d : Addr) (env : Env) :
  compTurn (.DictComp kx vx [⟨tg, iter, ifs, 0⟩] scope pos) 0 it (.ref d) env = turnT iter.pos it tg ifs env (emitD kx vx d env) (.compLoop (.DictComp kx vx [⟨tg, iter, ifs, 0⟩] scope pos) 0 it (.ref d) env) := by rfl
noncomputable def emitS (elt : Expr) (acc : Value) (env : Env) : Sem Unit := do let v <- eval elt env; standAt elt.pos; let _ <- call (.builtin "set.add") [acc, v]
theorem turn_set (elt tg iter : Expr) (ifs : List Expr) (scope : Scope) (pos : Pos) (it acc : Value) (env : Env) :
  compTurn (.SetComp elt [⟨tg, iter, ifs, 0⟩] scope pos) 0 it acc env = turnT iter.pos it tg ifs env (emitS elt acc env) (.compLoop (.SetComp elt [⟨tg, iter, ifs, 0⟩] scope pos) 0 it acc env) := by rfl
noncomputable def testsT (ifs : List Expr) (env : Env) : Sem Bool := forIn ifs true fun c r => if r = true then do let ok <- isTrue c env (eval c env); pure (ForInStep.yield ok) else pure (ForInStep.yield r)
noncomputable def EvTs (c : Cfg) (l : Nat) (X : List Addr) (env : Env) (Γ : Gam) (ifs : List Expr) (b : Bool) : Prop :=
 ∀ A s, Lev l A -> Good c A X env Γ s.heap -> wpAny c.M A (testsT ifs env) (fun ok s' => ok = b /\ Pst c s s') NoE s
theorem EvTs.nil {c : Cfg} {l : Nat} {X : List Addr} {env : Env} {Γ : Gam} : EvTs c l X env Γ [] true := fun A s _ _ => wP ⟨rfl, .refl⟩
theorem EvTs.one {c : Cfg} {l : Nat} {X : List Addr} {env : Env} {Γ : Gam} {e : Expr} {b : Bool} (h : Et c l X env Γ e b) : EvTs c l X env Γ [e] b := fun A s L G => wpAny_tests_one (h A s L G)
inductive BackC (c : Cfg) (A : Around) (X Z N : List Addr) (env : Env) (Γ : Gam) (xs : List Str) (AI : Heap -> Prop) (s : Shared) : Shared -> Prop
 | mk (h' : Heap) (tk : Nat) (q : HX c Z s.heap h') (ai : AI h') (G : Good c A X env Γ h') (T : TG env N xs h') : BackC c A X Z N env Γ xs AI s { s with heap := h', toks := tk }
theorem BackC.to {c : Cfg} {A : Around} {X Z Z' N : List Addr} {env : Env} {Γ : Gam} {xs : List Str} {AI AI' : Heap -> Prop} {s s' : Shared} (b : BackC c A X Z N env Γ xs AI s s') (hz : ∀ y ∈ Z, y ∈ Z') (ha : ∀ h, AI h -> AI' h) : BackC c A X Z' N env Γ xs AI' s s' := by
 obtain ⟨h', tk, q, ai, G, T⟩ := b
 exact ⟨h', tk, q.mono hz, ha _ ai, G, T⟩
theorem loopG {M : Model} {A : Around} {s : Shared} {c : Code} {R : Result -> Shared -> Prop} (hq : c.quiet = true) (I : Nat -> Shared -> Prop)
  (turn : ∀ n s (Q : Fin -> Shared -> Prop), I n s -> (∀ m s', m < n -> I m s' -> Q (.again c) s') -> (∀ f s', R (.ok f) s' -> Q (.done f) s') -> (∀ c' s', c'.quiet = true -> codeAny M A c' R s' -> Q (.again c') s') -> wpAny M (A.under c) (M.den c) Q (fun e s' => R (.error e) s') s)
  (n : Nat) (h : I n s) : codeAny M A c R s :=
 codeAny_loop' hq I (fun n s h => turn n s _ h (fun m s' hm hI => .inl ⟨rfl, m, hm, hI⟩) (fun _ _ h => h) (fun _ _ hq h => .inr ⟨hq, h⟩)) n h
inductive LoopI (c : Cfg) (A : Around) (X N Y : List Addr) (env : Env) (Γ : Gam) (xs : List Str) (St : List Addr -> Nat -> Heap -> Prop) (AI : Nat -> Heap -> Prop) (s : Shared) (L n : Nat) : Shared -> Prop
 | mk (i : Nat) (h' : Heap) (tk : Nat) (hn : n + i = L) (q : HX c Y s.heap h') (ai : AI i h') (G : Good c A X env Γ h') (st : St X i h') (T : TG env N xs h') : LoopI c A X N Y env Γ xs St AI s L n { s with heap := h', toks := tk }
theorem loop_ok {c : Cfg} {l : Nat} {A : Around} {X N Z fp : List Addr} {env : Env} {Γ : Gam} {s : Shared} {pair : Bool} {I : Addr} {ds : List PyData} {St : List Addr -> Nat -> Heap -> Prop} {tg : Expr} {xs xs1 : List Str} {ifs : List Expr} {body : Sem Unit} {p : Pos} {c0 : Code}
  {Γd : PyData -> Gam} {AI : Nat -> Heap -> Prop} {bs : PyData -> Bool} {X' : List Addr}
  (hq : c0.quiet = true) (hun : A.under c0 = A) (hden : c.M.den c0 = (turnT p (.ref I) tg ifs env body c0).onRaise (fun x => do noteFrame x env; theTreesLotGoes x))
  (L : Lev l A) (IT : ItS c pair I fp ds St) (hB : ∀ d ∈ ds, Bind2 pair tg d xs1 (Γd d)) (hsub : ∀ x ∈ xs1, x ∈ xs) (htg : TgI pair tg)
  (hfp : ∀ a ∈ fp, a ∈ X /\ c.base.get? a = none /\ a ∉ c.fr) (hfr : ∀ a ∈ c.fr, a ∈ X /\ a ∉ fp) (hlf : env.locals ∉ fp) (hcf : ∀ x a, env.cells.lookup x = some a -> a ∉ fp)
  (hN : ∀ a ∈ N, (a ∈ X /\ c.base.get? a = none) /\ a ∉ fp) (hZ : ∀ a ∈ Z, a ∈ X /\ a ∉ fp) (ho : offN xs1 Γ)
  (hAI : ∀ i h h' Y, AI i h -> HX c Y h h' -> (∀ y ∈ Y, y ∈ fp \/ y ∈ N) -> AI i h')
  (ht : ∀ d ∈ ds, EvTs c l X env (Γd d ++ Γ) ifs (bs d))
  (hb : ∀ i d s, ds[i]? = some d -> bs d = true -> Good c A X env (Γd d ++ Γ) s.heap -> AI i s.heap -> TG env N xs s.heap -> wpAny c.M A body (fun _ s' => BackC c A X Z N env Γ xs (AI (i + 1)) s s') NoE s)
  (hsk : ∀ i d h, ds[i]? = some d -> bs d = false -> AI i h -> AI (i + 1) h)
  (hX' : ∀ a ∈ X', a ∈ X /\ a ∉ fp) (hF' : ∀ a ∈ c.fr, a ∈ X')
  (G : Good c A X env Γ s.heap) (st : St X 0 s.heap) (ai : AI 0 s.heap) (T : TG env N xs s.heap) :
  codeAny c.M A c0 (fun r s' => r = .ok .next /\ BackC c A X' (fp ++ (N ++ Z)) N env Γ xs (AI ds.length) s s') s := by
 have m1 : ∀ y ∈ fp, y ∈ fp ++ (N ++ Z) := fun y h => lL _ h
 have m2 : ∀ y ∈ N, y ∈ fp ++ (N ++ Z) := fun y h => lR _ (lL _ h)
 have m3 : ∀ y ∈ Z, y ∈ fp ++ (N ++ Z) := fun y h => lR _ (lR _ h)
 refine loopG hq (fun n s' => LoopI c A X N (fp ++ (N ++ Z)) env Γ xs St AI s ds.length n s') (fun n s' Q hI hn hd' _ => ?_) ds.length ⟨0, s.heap, s.toks, rfl, .refl _, ai, G, st, T⟩
 obtain ⟨i, h, tk, hni, q0, ai, G, st, T⟩ := hI
 rw [hun, hden]
 refine wpAny_noted (noE_any ?_)
 unfold turnT
 refine wB (wpAny_standAt (wB ?_))
 cases hd : ds[i]? with
 | none =>
  have hi : i = ds.length := by
   have := List.getElem?_eq_none_iff.mp hd
   omega
  subst hi
  refine wK (IT.done A _ X G.bas.handled st hfp) (fun r s1 hr => ?_)
  obtain ⟨h', tk', q⟩ := hr
  refine wP (hd' _ _ ⟨rfl, h', tk', q0.trans (q.mono m1), hAI _ _ _ _ ai q fun y hy => .inl hy, ?_, T.hx q hlf fun t ht z => (hN t ht).2 z⟩)
  exact G.mut q (fun y hy => (hfp y hy).1) hlf (fun x a e z => hcf x a e z) (fun a ha => (hX' a ha).1) (fun a ha z => ((hX' a ha).2 z).elim) hF'
 | some d =>
  have hi : i < ds.length := by
   cases Nat.lt_or_ge i ds.length with
   | inl h => exact h
   | inr h => rw [List.getElem?_eq_none h] at hd; cases hd
  have hdm : d ∈ ds := lG hd
  refine wK (IT.item A _ X i d tg G.bas.handled htg st hfp (fun a ha => (hfr a ha).1) hd) (fun r s1 hr => ?_)
  obtain ⟨v, rfl, hr⟩ := hr
  dsimp only
  refine wB (wK hr (fun _ s2 hr => ?_))
  obtain ⟨h2, tk2, q2, st2, iv⟩ := hr
  have G2 : Good c A X env Γ h2 := G.mut q2 (fun y hy => (hfp y hy).1) hlf (fun x a e z => hcf x a e z) (fun a ha => ha) (fun a ha z => IT.alive _ _ _ st2 a z) G.bas.frs
  have T2 := T.hx q2 hlf fun t ht z => (hN t ht).2 z
  have ai2 := hAI _ _ _ _ ai q2 fun y hy => .inl hy
  refine wB (assign_ok (hB d hdm) G2 iv (fun a ha => (hN a ha).1) (T2.sub hsub) ho fun h3 tk3 q3 k3 _ G3 => ?_)
  have st3 := IT.keep _ _ _ _ _ st2 q3 hfr fun y hy => ⟨(hN y hy).1.1, (hN y hy).2⟩
  have ai3 := hAI _ _ _ _ ai2 q3 fun y hy => .inr hy
  refine wB (wK (ht d hdm A _ L G3) (fun ok s4 hr => ?_))
  obtain ⟨rfl, p4⟩ := hr
  obtain ⟨h4, tk4, q4⟩ := p4
  have G4 := G3.hx0 q4
  have st4 := IT.keep _ _ _ _ _ st3 q4 hfr fun y hy => nomatch hy
  have ai4 := hAI _ _ _ _ ai3 q4 fun y hy => nomatch hy
  have q04 : HX c (fp ++ (N ++ Z)) s.heap h4 := ((q0.trans (q2.mono m1)).trans (q3.mono m2)).trans (q4.mono fun _ z => nomatch z)
  have T4 : TG env N xs h4 := (T2.mono k3).hx q4 (fun z => nomatch z) fun t ht z => nomatch z
  cases hbs : bs d with
  | false =>
   simp only [Bool.false_eq_true, if_false]
   exact wP (hn (n - 1) _ (by omega) ⟨i + 1, h4, tk4, by omega, q04, hsk i d h4 hd hbs ai4, G4.sub fun p hp => lR _ hp, st4, T4⟩)
  | true =>
   simp only [if_true]
   refine wB (wK (hb i d _ hd hbs G4 ai4 T4) (fun _ s5 hr => ?_))
   obtain ⟨h5, tk5, q5, ai5, G5, T5⟩ := hr
   exact wP (hn (n - 1) _ (by omega) ⟨i + 1, h5, tk5, by omega, q04.trans (q5.mono m3), ai5, G5, IT.keep _ _ _ _ _ st4 q5 hfr hZ, T5⟩)
end
section
theorem Good.grow {c : Cfg} {A : Around} {X X' : List Addr} {env : Env} {Γ : Gam} {h h' : Heap} (G : Good c A X env Γ h) (q : HX c [] h h') (hs : ∀ a ∈ X', a ∈ X \/ h.get? a = none) (hX : ∀ a ∈ X, a ∈ X') (hA : ∀ a ∈ X', ∃ o, h'.get? a = some o) : Good c A X' env Γ h' where
 bas := ⟨G.bas.handled, let ⟨o, b, f⟩ := G.bas.below; ⟨o, q.below f b, f⟩, hA, fun a ha => hX a (G.bas.frs a ha)⟩
 kind := G.kind
 globals := G.globals
 builtins := G.builtins
 cells := G.cells
 inj := G.inj
 cal := fun x a e => let ⟨v, i⟩ := G.cal x a e; ⟨v, q.cell (fun z => nomatch z) i⟩
 vars := fun p hp => let ⟨v, H, r⟩ := G.vars p hp; ⟨v, H.hx0 q, (r.wide hs).hx0 q fun a ha => hX a (G.bas.frs a ha)⟩
section
variable {c : Cfg} {A : Around} {s : Shared}
theorem compStart_gen {R : Result -> Shared -> Prop} {e : Expr} {depth : Nat} {it acc : Value} {env : Env} {tg iter : Expr} {ifs : List Expr} (hf : (Code.compStart e depth it acc env).isFrame = false) (hg : (clausesOf e)[depth]? = some ⟨tg, iter, ifs, 0⟩)
  (h0 : codeAny c.M A (.compLoop e depth it acc env) R s)
  (h : wpAny c.M A (pyIter it) (fun it' s' => codeAny c.M A (.compLoop e depth it' acc env) R s') NoE s) (hq : ∀ it', (Code.compLoop e depth it' acc env).quiet = true) (hu : A.under (.compStart e depth it acc env) = A) : codeAny c.M A (.compStart e depth it acc env) R s := by
 refine codeAny_of_tree ?_
 have hd : c.M.den (.compStart e depth it acc env) = (compStart e depth it acc env).onRaise (fun x => do noteFrame x env; standAt theWindowsPlace) := by
  show (if (Code.compStart e depth it acc env).isFrame then _ else _) = _
  rw [hf]; rfl
 rw [hd, hu]
 refine wpAny_notedAt (noE_any ?_)
 unfold compStart
 rw [hg]
 show wpAny _ _ (ask >>= _) _ _ s
 refine wB (wpAny_askSetting (wpAny_ite ?_))
 split
 ·first
   | exact wB (wP (wP (And.intro (hq _) h0)))
   | exact wP (And.intro (hq _) h0)
 ·first
   | exact wB (wpAny_rule (wB (wpAny_standAt (wB (wM h (fun it' s' h' => wP (And.intro (hq _) h')) fun _ _ x => x)))))
   | (refine wB (wpAny_rule ?_); show wpAny _ _ (standAt iter.pos >>= _) _ _ s; exact wB (wpAny_standAt (wB (wM h (fun it' s' h' => wP (And.intro (hq _) h')) fun _ _ x => x))))
structure Plc (c : Cfg) (X XL N : List Addr) (D : Addr) (cenv : Env) : Prop where
 sub : ∀ a ∈ X, a ∈ XL
 acc : D ∈ XL /\ D ∉ c.fr /\ c.base.get? D = none /\ D ∉ N
 own : ∀ a ∈ N, a ∈ XL /\ c.base.get? a = none /\ a ∉ c.fr
 loc : cenv.locals ∈ N
 cel : ∀ x a, cenv.cells.lookup x = some a -> a ≠ D
theorem comp_core {use : Option (Value -> Sem Unit)} {Q : Value -> Shared -> Prop} {l : Nat} {X : List Addr} {env : Env} {Γ Γc : Gam} {e : Expr} {scope : Scope} {pos : Pos} {newAcc : Sem Value} {tg iter : Expr} {ifs : List Expr} {rest : List Comprehension} {pair : Bool} {ds : List PyData} {xs xs1 : List Str} {Γd : PyData -> Gam} {bs : PyData -> Bool}
  {body : Value -> Env -> Sem Unit} {acc0 : Obj} {AI : Addr -> List Addr -> Nat -> Heap -> Prop}
  (hcl : clausesOf e = ⟨tg, iter, ifs, 0⟩ :: rest) (hfold : ∀ x, foldedSetIterable iter env x = pure x)
  (hnew : ∀ A s E (Q : Value -> Shared -> Prop), Q (.ref s.heap.objs.size) { s with heap := s.heap.push acc0 } -> wpAny c.M A newAcc Q E s) (hfree : acc0.isFreed = false)
  (hden : ∀ D it cenv, c.M.den (.compLoop e 0 it (.ref D) cenv) = (turnT iter.pos it tg ifs cenv (body (.ref D) cenv) (.compLoop e 0 it (.ref D) cenv)).onRaise (fun x => do noteFrame x cenv; theTreesLotGoes x))
  (hfr : ∀ it acc cenv, (Code.compStart e 0 it acc cenv).isFrame = false) (hqu : ∀ it acc cenv, (Code.compLoop e 0 it acc cenv).quiet = true)
  (hu1 : ∀ (A : Around) it acc cenv, A.under (.compStart e 0 it acc cenv) = A) (hu2 : ∀ (A : Around) it acc cenv, A.under (.compLoop e 0 it acc cenv) = A)
  (hI : EvI c l X env Γ pair iter ds) (hB : ∀ d ∈ ds, Bind2 pair tg d xs1 (Γd d)) (hsub : ∀ x ∈ xs1, x ∈ xs) (htg : TgI pair tg)
  (hs : scOk env scope) (hc : Cap env scope Γ Γc) (hxs : ∀ x ∈ xs, scope.names.lookup x = some .local \/ scope.names.lookup x = some .cell) (ho : offN xs1 Γc)
  (ht : ∀ cs C XL, (∀ a ∈ X, a ∈ XL) -> ∀ d ∈ ds, EvTs c l XL (cenvOf scope cs C env) (Γd d ++ Γc) ifs (bs d))
  (hAI0 : ∀ D XL h, h.get? D = some acc0 -> AI D XL 0 h)
  (hAI : ∀ D XL i h h' Y, AI D XL i h -> HX c Y h h' -> (∀ a ∈ c.fr, a ∈ XL /\ a ≠ D) -> (∀ y ∈ Y, y ∈ XL /\ y ≠ D) -> AI D XL i h')
  (hal : ∀ D XL i h, AI D XL i h -> ∃ o, h.get? D = some o)
  (hb : ∀ cs C XL N D, Plc c X XL N D (cenvOf scope cs C env) -> ∀ A s i d, Lev l A -> ds[i]? = some d -> bs d = true -> Good c A XL (cenvOf scope cs C env) (Γd d ++ Γc) s.heap -> AI D XL i s.heap -> TG (cenvOf scope cs C env) N xs s.heap ->
   wpAny c.M A (body (.ref D) (cenvOf scope cs C env)) (fun _ s' => BackC c A XL (D :: N) N (cenvOf scope cs C env) Γc xs (AI D XL (i + 1)) s s') NoE s)
  (hsk : ∀ D XL i d h, ds[i]? = some d -> bs d = false -> AI D XL i h -> AI D XL (i + 1) h)
  (L : Lev l A) (G : Good c A X env Γ s.heap)
  (hpost : ∀ s5 D XL C, Pst c s s5 -> (∀ a ∈ X, a ∈ XL) -> s.heap.get? D = none -> s.heap.get? C = none -> D ∈ XL -> C ∈ XL -> C ≠ D -> (∀ a ∈ c.fr, a ∈ XL /\ a ≠ D /\ a ≠ C) -> AI D XL ds.length s5.heap -> (∃ m, s5.heap.Ns C m) -> compPost c.M A NoE use Q (.ref D) C (.ok .next) s5) :
  wpAny c.M A (comprehension e scope env pos newAcc false (eval iter env) use) Q NoE s := by
 have hclos := closureFor_ok (scope := scope) (env := env) fun p hp hf => G.cells _ (hs.2.2 p hp hf)
 refine wpAny_comprehension_free hcl hfold hclos hs.1 (fun x hx hl => mem_lookup hs.2.1 (by rw [<- hl]; exact hx)) ?_
 refine wK (hI A s L G) (fun x s1 hx => wK hx (fun it s2 hx => ?_))
 obtain ⟨p2, I, fp, St, IT, st, hfp⟩ := hx
 obtain ⟨h2, tk2, q2⟩ := p2
 refine hnew _ _ _ _ ?_
 dsimp only
 have hDn2 : h2.get? h2.objs.size = none := fresh_ge (Nat.le_refl _)
 have hDn : s.heap.get? h2.objs.size = none := q2.none_of (fun z => nomatch z) hDn2
 have q3 : HX c [] s.heap (h2.push acc0) := q2.trans (.push _ _)
 have hD3 : (h2.push acc0).get? h2.objs.size = some acc0 := hP _ hfree
 have fpa : ∀ a ∈ fp, ∃ o, h2.get? a = some o := IT.alive _ _ _ st
 have G3 : Good c A (h2.objs.size :: (fp ++ X)) env Γ (h2.push acc0) := by
  refine G.grow q3 (fun a ha => ?_) (fun a ha => .tail _ (lR _ ha)) fun a ha => ?_
  ·rcases lC ha with rfl | ha
   ·exact .inr hDn
   ·rcases lA ha with ha | ha
    ·exact .inr (hfp a ha)
    ·exact .inl ha
  ·rcases lC ha with rfl | ha
   ·exact ⟨_, hD3⟩
   ·rcases lA ha with ha | ha
    ·obtain ⟨o, e⟩ := fpa a ha
     exact ⟨o, Heap.get?_push_of_some _ e⟩
    ·exact q3.alive (fun z => nomatch z) (G.bas.alloc a ha)
 refine comp_env (s := { s with heap := h2.push acc0, toks := tk2 }) G3 hs hc fun cs C N h4 CE hC => ?_
 dsimp only
 show codeAny c.M A (.compStart e 0 (.ref I) (.ref h2.objs.size) (cenvOf scope cs C env)) _ _
 have q34 : HX c [] (h2.push acc0) h4 := .keep0 CE.keep
 have q24 : HX c [] h2 h4 := (HX.push _ _).trans q34
 have q04 : HX c [] s.heap h4 := q3.trans q34
 have hNs : ∀ a ∈ N, s.heap.get? a = none := fun a ha => q3.none_of (fun z => nomatch z) (CE.new a ha)
 have hNf : ∀ a ∈ N, a ∉ fp := fun a ha hf => by
  obtain ⟨o, e⟩ := fpa a hf
  have := CE.new a ha
  rw [Heap.get?_push_of_some acc0 e] at this
  cases this
 have hND : ∀ a ∈ N, a ≠ h2.objs.size := fun a ha e => by
  have := CE.new a ha
  rw [e, hD3] at this
  cases this
 have hfpD : ∀ a ∈ fp, a ≠ h2.objs.size := fun a ha e => by
  obtain ⟨o, e'⟩ := fpa a ha
  rw [e, hDn2] at e'
  cases e'
 have alive_of : ∀ a, (∃ o, s.heap.get? a = some o) -> a ∉ fp /\ a ≠ h2.objs.size /\ a ∉ N := fun a ⟨o, e⟩ =>
  ⟨fun z => (by rw [hfp a z] at e; cases e), fun z => (by rw [z, hDn] at e; cases e), fun z => (by rw [hNs a z] at e; cases e)⟩
 have hfra : ∀ a ∈ c.fr, a ∉ fp /\ a ≠ h2.objs.size /\ a ∉ N := fun a ha => alive_of a (G.bas.alloc a (G.bas.frs a ha))
 have hbase : ∀ a, s.heap.get? a = none -> c.base.get? a = none := fun a ha => by
  cases e : c.base.get? a with
  | none => rfl
  | some o => rw [G.bas.inBase e] at ha; cases ha
 have hcel : ∀ x a, (cenvOf scope cs C env).cells.lookup x = some a -> a ∉ fp /\ a ≠ h2.objs.size := fun x a e => by
  rcases CE.cel x a e with q | q
  ·exact ⟨hNf a q, hND a q⟩
  ·obtain ⟨v, i⟩ := G.cal x a q
   obtain ⟨o, e, _⟩ := cell_alive i
   exact ⟨(alive_of a ⟨o, e⟩).1, (alive_of a ⟨o, e⟩).2.1⟩
 have hXL : ∀ a ∈ X, a ∈ N ++ (h2.objs.size :: (fp ++ X)) := fun a ha => lR _ (.tail _ (lR _ ha))
 have hDXL : h2.objs.size ∈ N ++ (h2.objs.size :: (fp ++ X)) := lR _ (.head _)
 have hfXL : ∀ a ∈ fp, a ∈ N ++ (h2.objs.size :: (fp ++ X)) := fun a ha => lR _ (.tail _ (lL _ ha))
 have hNXL : ∀ a ∈ N, a ∈ N ++ (h2.objs.size :: (fp ++ X)) := fun a ha => lL _ ha
 have hFXL : ∀ a ∈ c.fr, a ∈ N ++ (h2.objs.size :: (fp ++ X)) := fun a ha => hXL a (G.bas.frs a ha)
 have st4 : St (N ++ (h2.objs.size :: (fp ++ X))) 0 h4 := by
  refine IT.keep _ _ _ _ [] (IT.wide _ (N ++ (h2.objs.size :: (fp ++ X))) _ _ st fun a ha => ?_) q24 (fun a ha => ⟨hFXL a ha, (hfra a ha).1⟩) fun y hy => nomatch hy
  rcases lA ha with ha | ha
  ·exact .inr ((HX.push (c := c) h2 acc0).none_of (fun z => nomatch z) (CE.new a ha))
  ·rcases lC ha with rfl | ha
   ·exact .inr hDn2
   ·exact .inl ha
 have hD4 : h4.get? h2.objs.size = some acc0 := CE.keep _ _ hD3
 have hNb : ∀ a ∈ N, c.base.get? a = none := fun a ha => hbase a (hNs a ha)
 have T4 : TG (cenvOf scope cs C env) N xs h4 := ⟨CE.loc.2, fun x hx => CE.tgt x (hxs x hx)⟩
 have PL : Plc c X (N ++ (h2.objs.size :: (fp ++ X))) N h2.objs.size (cenvOf scope cs C env) := ⟨hXL, ⟨hDXL, fun z => (hfra _ z).2.1 rfl, hbase _ hDn, fun z => hND _ z rfl⟩, fun a ha => ⟨hNXL a ha, hNb a ha, fun z => (hfra a z).2.2 ha⟩, CE.loc.1, fun x a e => (hcel x a e).2⟩
 have key := fun (s' : Shared) (hs' : s'.heap = h4) => loop_ok (s := s') (Z := h2.objs.size :: N) (X' := N ++ (h2.objs.size :: X)) (AI := AI h2.objs.size (N ++ (h2.objs.size :: (fp ++ X)))) (I := I) (body := body (.ref h2.objs.size) (cenvOf scope cs C env)) (p := iter.pos)
  (hqu (.ref I) (.ref h2.objs.size) (cenvOf scope cs C env)) (hu2 A _ _ _) (hden _ _ _) L IT hB hsub htg (fun a ha => ⟨hfXL a ha, hbase a (hfp a ha), fun z => (hfra a z).1 ha⟩) (fun a ha => ⟨hFXL a ha, (hfra a ha).1⟩) (hNf _ CE.loc.1) (fun x a e => (hcel x a e).1)
  (fun a ha => ⟨⟨hNXL a ha, hNb a ha⟩, hNf a ha⟩) (fun a ha => (by
   rcases lC ha with rfl | ha
   ·exact ⟨hDXL, fun z => hfpD _ z rfl⟩
   ·exact ⟨hNXL a ha, hNf a ha⟩)) ho
  (fun i h h' Y ai q hy => hAI _ _ _ _ _ Y ai q (fun a ha => ⟨hFXL a ha, (hfra a ha).2.1⟩) fun y h => (hy y h).elim (fun z => ⟨hfXL y z, hfpD y z⟩) fun z => ⟨hNXL y z, hND y z⟩)
  (fun d hd => ht cs C _ hXL d hd)
  (fun i d s1 hd hbs G1 ai T1 => hb cs C _ N _ PL A s1 i d L hd hbs G1 ai T1)
  (fun i d h hd hbs ai => hsk _ _ i d h hd hbs ai)
  (fun a ha => (by
   rcases lA ha with z | z
   ·exact ⟨hNXL a z, hNf a z⟩
   ·rcases lC z with rfl | z
    ·exact ⟨hDXL, fun z => hfpD _ z rfl⟩
    ·exact ⟨hXL a z, (alive_of a (G.bas.alloc a z)).1⟩)) (fun a ha => lR _ (.tail _ (G.bas.frs a ha)))
  (hs' ▸ CE.good) (hs' ▸ st4) (hs' ▸ hAI0 _ _ _ hD4) (hs' ▸ T4)
 have key4 := key { s with heap := h4, toks := tk2 } rfl
 have hCN : C ∈ N := hC ▸ CE.loc.1
 have fin : codeAny c.M A (.compLoop e 0 (.ref I) (.ref h2.objs.size) (cenvOf scope cs C env)) (compPost c.M A NoE use Q (.ref h2.objs.size) C) { s with heap := h4, toks := tk2 } := by
  refine codeAny_mono key4 fun r s' hr => ?_
  obtain ⟨rfl, h5, tk5, q5, ai5, G5, T5⟩ := hr
  obtain ⟨m, hm⟩ := T5.1
  rw [hC] at hm
  have q05 : HX c [] s.heap h5 := q04.young q5 fun a ha => (by
   rcases lA ha with z | z
   ·exact hfp a z
   ·rcases lA z with z | z
    ·exact hNs a z
    ·rcases lC z with rfl | z
     ·exact hDn
     ·exact hNs a z)
  exact hpost _ _ _ C ⟨h5, tk5, q05⟩ hXL hDn (hNs C hCN) hDXL (hNXL C hCN) (hND C hCN) (fun a ha => ⟨hFXL a ha, (hfra a ha).2.1, fun z => (hfra a ha).2.2 (z ▸ hCN)⟩) ai5 ⟨m, hm⟩
 exact compStart_gen (hfr _ _ _) (by rw [hcl]; rfl) fin (wK (IT.self A _ _ _ st4) (fun it' s' hr => by
  obtain ⟨rfl, rfl⟩ := hr
  exact fin)) (fun _ => hqu _ _ _) (hu1 _ _ _ _)
theorem base_none {X : List Addr} {h : Heap} (B : Bas c A X h) {a : Addr} (ha : h.get? a = none) : c.base.get? a = none := by
 cases e : c.base.get? a with
 | none => rfl
 | some o => rw [B.inBase e] at ha; cases ha
inductive LstI (w : World) (X : List Addr) (h : Heap) (D : Addr) (es : List PyData) : Prop
 | mk (vs : List Value) (n : Nat) (e : h.get? D = some (lstO vs n)) (r : RdL w X h vs es)
inductive DicI (w : World) (X : List Addr) (h : Heap) (D : Addr) (kvs : List (PyData × PyData)) : Prop
 | mk (es : List DictEntry) (n : Nat) (e : h.get? D = some (dicO es n)) (k : KeysAre w es (kvs.map (·.1))) (nd : (kvs.map (·.1)).Nodup) (r : RdL w X h (es.map (·.val)) (kvs.map (·.2)))
noncomputable def Own1 (c : Cfg) (X : List Addr) (h : Heap) (D : Addr) : PyData -> Prop
 | .list es => LstI c.w X h D es
 | .dict kvs => DicI c.w X h D kvs
 | _ => False
theorem Own1.rd {X X' : List Addr} {h : Heap} {D : Addr} {d : PyData} (o : Own1 c X h D d) (hD : D ∉ X') (hs : ∀ a ∈ X', a ∈ X) : Rd c.w X' h (.ref D) d := by
 cases d with
 | list es => obtain ⟨vs, n, e, r⟩ := o; exact .list hD e (r.sub hs)
 | dict kvs => obtain ⟨es, n, e, k, nd, r⟩ := o; exact .dict hD e k nd (r.sub hs)
 | _ => exact o.elim
theorem Own1.map {X X' : List Addr} {h h' : Heap} {D D' : Addr} {d : PyData} (o : Own1 c X h D d) (f : ∀ o, h.get? D = some o -> h'.get? D' = some o) (g : ∀ vs ds, RdL c.w X h vs ds -> RdL c.w X' h' vs ds) : (∃ o, h.get? D = some o) /\ Own1 c X' h' D' d := by
 cases d with
 | list es => obtain ⟨vs, n, e, r⟩ := o; exact ⟨⟨_, e⟩, vs, n, f _ e, g _ _ r⟩
 | dict kvs => obtain ⟨es, n, e, k, nd, r⟩ := o; exact ⟨⟨_, e⟩, es, n, f _ e, k, nd, g _ _ r⟩
 | _ => exact o.elim
theorem Own1.alive {X : List Addr} {h : Heap} {D : Addr} {d : PyData} (o : Own1 c X h D d) : ∃ o, h.get? D = some o := (o.map (D' := D) (fun _ e => e) fun _ _ r => r).1
theorem Own1.keep {X Y : List Addr} {h h' : Heap} {D : Addr} {d : PyData} (o : Own1 c X h D d) (q : HX c Y h h') (hF : ∀ a ∈ c.fr, a ∈ X /\ a ≠ D) (hy : ∀ y ∈ Y, y ∈ X /\ y ≠ D) : Own1 c X h' D d :=
 (o.map (fun _ e => q.exact (fun z => (hy _ z).2 rfl) (fun z => (hF _ z).2 rfl) e) fun _ _ r => r.hx q (fun a ha => (hF a ha).1) fun y h => (hy y h).1).2
theorem Own1.wide {X X' : List Addr} {h : Heap} {D : Addr} {d : PyData} (o : Own1 c X h D d) (hs : ∀ a ∈ X', a ∈ X \/ h.get? a = none) : Own1 c X' h D d := (o.map (fun _ e => e) fun _ _ r => r.wide hs).2
noncomputable def compU (e : Expr) (env : Env) (use : Option (Value -> Sem Unit)) : Sem Value := match e with
 | .ListComp _ gens scope pos => comprehension e scope env (firstIterPos gens pos) (newList []) (firstAsync gens) (firstIter gens env) use
 | .DictComp _ _ gens scope pos => comprehension e scope env (firstIterPos gens pos) newDict (firstAsync gens) (firstIter gens env) use
 | _ => unsupported "compU"
noncomputable def IsC (e : Expr) : Prop := ∀ env, eval e env = compU e env none /\ ∀ u, evalThenUse e env u = (do let _ <- compU e env (some u))
noncomputable def EvC (c : Cfg) (l : Nat) (X : List Addr) (env : Env) (Γ : Gam) (e : Expr) (d : PyData) : Prop :=
 IsC e /\ ∀ A s use (Q : Value -> Shared -> Prop), Lev l A -> Good c A X env Γ s.heap ->
  (∀ s5 D XL C, Pst c s s5 -> (∀ a ∈ X, a ∈ XL) -> s.heap.get? D = none -> s.heap.get? C = none -> D ∈ XL -> C ∈ XL -> C ≠ D -> (∀ a ∈ c.fr, a ∈ XL /\ a ≠ D /\ a ≠ C) -> Own1 c XL s5.heap D d -> (∃ m, s5.heap.Ns C m) -> compPost c.M A NoE use Q (.ref D) C (.ok .next) s5) ->
  wpAny c.M A (compU e env use) Q NoE s
inductive FrP (c : Cfg) (X : List Addr) (d : PyData) (s : Shared) : Value -> Shared -> Prop
 | mk {s'} (p : Pst c s s') (D : Addr) (hn : s.heap.get? D = none) (o : Own1 c (D :: X) s'.heap D d) : FrP c X d s (.ref D) s'
noncomputable def EvF (c : Cfg) (l : Nat) (X : List Addr) (env : Env) (Γ : Gam) (e : Expr) (d : PyData) : Prop :=
 ∀ A s, Lev l A -> Good c A X env Γ s.heap -> wpAny c.M A (eval e env) (FrP c X d s) NoE s
theorem EvC.fresh {l : Nat} {X : List Addr} {env : Env} {Γ : Gam} {e : Expr} {d : PyData} (h : EvC c l X env Γ e d) : EvF c l X env Γ e d := fun A s L G => by
 rw [(h.1 env).1]
 refine h.2 A s none _ L G fun s5 D XL C p hX hD hC hDX hCX hCD hF ai ⟨m, hm⟩ => ⟨m, hm, fun h6 hs6 => ?_⟩
 have q6 : HX c [C] s5.heap h6 := .sameBut hs6 (base_none G.bas hC) fun z => (hF C z).2.2 rfl
 obtain ⟨h5, tk5, q5⟩ := p
 have q06 : HX c [] s.heap h6 := q5.young q6 fun a ha => (by rw [lS ha]; exact hC)
 refine ⟨⟨h6, tk5, q06⟩, D, hD, (ai.keep q6 (fun a ha => ⟨(hF a ha).1, (hF a ha).2.1⟩) fun y hy => ?_).wide fun a ha => .inl ((lC ha).elim (fun z => z ▸ hDX) (hX a))⟩
 rw [lS hy]
 exact ⟨hCX, hCD⟩
theorem EvF.ev {l : Nat} {X : List Addr} {env : Env} {Γ : Gam} {e : Expr} {d : PyData} (h : EvF c l X env Γ e d) : Ev c l X env Γ e d := fun A s L G =>
 wK (h A s L G) (fun v s' hr => by
  obtain ⟨p, D, hD, o⟩ := hr
  refine ⟨p, o.rd (fun z => ?_) fun a ha => .tail _ ha⟩
  obtain ⟨o', e⟩ := G.bas.alloc D z
  rw [hD] at e; cases e)
theorem EvC.ev {l : Nat} {X : List Addr} {env : Env} {Γ : Gam} {e : Expr} {d : PyData} (h : EvC c l X env Γ e d) : Ev c l X env Γ e d := h.fresh.ev
end
end
section
noncomputable def AIL (c : Cfg) (D : Addr) (XL : List Addr) (es : List PyData) (h : Heap) : Prop := LstI c.w XL h D es
theorem AIL.keep {c : Cfg} {D : Addr} {XL : List Addr} {es : List PyData} {h h' : Heap} {Y : List Addr} (a : AIL c D XL es h) (q : HX c Y h h') (hF : ∀ a ∈ c.fr, a ∈ XL /\ a ≠ D) (hy : ∀ y ∈ Y, y ∈ XL /\ y ≠ D) : AIL c D XL es h' := by
 obtain ⟨vs, n, e, r⟩ := a
 exact ⟨vs, n, q.exact (fun z => (hy _ z).2 rfl) (fun z => (hF _ z).2 rfl) e, r.hx q (fun a ha => (hF a ha).1) fun y h => (hy y h).1⟩
section
variable {c : Cfg} {A : Around} {s : Shared} {l : Nat} {X XL N : List Addr} {D : Addr} {env : Env} {Γ Γ' : Gam}
theorem Plc.after (P : Plc c X XL N D env) {h h' : Heap} (q : HX c [D] h h') (G : Good c A XL env Γ h) (ha : ∃ o, h'.get? D = some o) {xs : List Str} (T : TG env N xs h) : Good c A XL env Γ h' /\ TG env N xs h' := by
 refine ⟨G.mut q (fun y hy => by rw [lS hy]; exact P.acc.1) (fun z => P.acc.2.2.2 (lS z ▸ P.loc)) (fun x a e z => P.cel x a e (lS z)) (fun a ha => ha) (fun a _ hy => by rw [lS hy]; exact ha) G.bas.frs, ?_⟩
 exact T.hx q (fun z => P.acc.2.2.2 (lS z ▸ P.loc)) fun t ht z => P.acc.2.2.2 (lS z ▸ ht)
theorem emitL_ok {elt : Expr} {d : PyData} {es : List PyData} {xs : List Str} (P : Plc c X XL N D env) (h : Ev c l XL env Γ' elt d) (hs : ∀ p ∈ Γ, p ∈ Γ') (L : Lev l A) (G : Good c A XL env Γ' s.heap) (a : AIL c D XL es s.heap) (T : TG env N xs s.heap) (hz : es.length <= 10 ^ 6) :
  wpAny c.M A (emitL elt (.ref D) env) (fun _ s' => BackC c A XL [D] N env Γ xs (AIL c D XL (es ++ [d])) s s') NoE s := by
 refine wB (h.use L G fun v s1 p1 r1 G1 => ?_)
 obtain ⟨h1, tk1, q1⟩ := p1
 obtain ⟨vs, n, e, r⟩ := a.keep q1 (fun a ha => ⟨G.bas.frs a ha, fun z => P.acc.2.1 (z ▸ ha)⟩) fun y hy => nomatch hy
 have hl : vs.length <= 10 ^ 6 := by rw [r.length]; exact hz
 refine wB (append_at e (fun h' hs' e' => wP ?_) (by simp [sizeLine_eq]; omega))
 have q2 : HX c [D] h1 h' := .sameBut hs' P.acc.2.2.1 P.acc.2.1
 have q02 : HX c [D] s.heap h' := (q1.mono fun _ z => nomatch z).trans q2
 have T1 := T.hx q1 (fun z => nomatch z) fun _ _ z => nomatch z
 obtain ⟨G2, T2⟩ := P.after q2 G1 ⟨_, e'⟩ T1
 have hDX : ∀ y ∈ [D], y ∈ XL := fun y hy => lS hy ▸ P.acc.1
 refine ⟨h', _, q02, ⟨vs ++ [v], n + 1, ?_, (r.hx q2 G.bas.frs hDX).append (.cons (r1.hx q2 G.bas.frs hDX) .nil)⟩, G2.sub hs, T2⟩
 rw [e']
 simp [lstO]
theorem filter_take {α : Type} {p : α -> Bool} {l : List α} {i : Nat} {d : α} (h : l[i]? = some d) : (l.take (i + 1)).filter p = (l.take i).filter p ++ (if p d then [d] else []) := by
 rw [List.take_add_one, h, Option.toList_some, List.filter_append]
 congr 1
 by_cases q : p d = true
 ·simp [q]
 ·simp [Bool.eq_false_iff.mpr q]
theorem EvC.listComp {Γc : Gam} {elt tg iter : Expr} {ifs : List Expr} {scope : Scope} {pos : Pos} {pair : Bool} {ds : List PyData} {xs : List Str} {Γd : PyData -> Gam} (bs : PyData -> Bool) (f : PyData -> PyData)
  (hI : EvI c l X env Γ pair iter ds) (hB : ∀ d ∈ ds, Bind2 pair tg d xs (Γd d)) (hs : scOk env scope) (hc : Cap env scope Γ Γc) (hxs : ∀ x ∈ xs, scope.names.lookup x = some .local \/ scope.names.lookup x = some .cell) (ho : offN xs Γc)
  (ht : ∀ cs C XL, ∀ d ∈ ds, EvTs c l XL (cenvOf scope cs C env) (Γd d ++ Γc) ifs (bs d))
  (he : ∀ cs C XL, ∀ d ∈ ds, bs d = true -> Ev c l XL (cenvOf scope cs C env) (Γd d ++ Γc) elt (f d)) (hz : ds.length <= 10 ^ 6)
  (htg : TgI pair tg := by constructor) (hfold : ∀ x, foldedSetIterable iter env x = pure x := by intro _; rfl) :
  EvC c l X env Γ (.ListComp elt [⟨tg, iter, ifs, 0⟩] scope pos) (.list ((ds.filter bs).map f)) := ⟨fun _ => ⟨rfl, fun _ => rfl⟩, fun A s use Q L G kk => by
 have hlen : ∀ i, (((ds.take i).filter bs).map f).length <= 10 ^ 6 := fun i => by
  rw [List.length_map]
  exact Nat.le_trans (List.length_filter_le ..) (Nat.le_trans (by rw [List.length_take]; exact Nat.min_le_right ..) hz)
 refine comp_core (e := .ListComp elt [⟨tg, iter, ifs, 0⟩] scope pos) (use := use) (Q := Q) (l := l) (newAcc := newList []) (acc0 := lstO [] 0) (body := fun acc cenv => emitL elt acc cenv) (AI := fun D XL i h => AIL c D XL (((ds.take i).filter bs).map f) h) (xs := xs) (bs := bs) (rest := []) rfl hfold
  (fun A s E Q h => wpAny_newObj_type h) rfl (fun D it cenv => ?_) (fun _ _ _ => rfl) (fun _ _ _ => rfl) (fun _ _ _ _ => rfl) (fun _ _ _ _ => rfl) hI hB (fun x h => h) htg hs hc hxs ho (fun cs C XL _ d hd => ht cs C XL d hd)
  (fun D XL h e => ⟨[], 0, e, by simp; exact .nil⟩) (fun D XL i h h' Y a q hF hy => a.keep q hF hy) (fun D XL i h a => let ⟨_, _, e, _⟩ := a; ⟨_, e⟩)
  (fun cs C XL N D P A s i d L hd hbs G a T => wK (emitL_ok P (he cs C XL d (lG hd) hbs) (fun p hp => lR _ hp) L G a T (hlen i)) (fun _ s' hr => ?_))
  (fun D XL i d h hd hbs a => ?_) L G (fun s5 D XL C p hX hD hC hDX hCX hCD hF ai hm => kk s5 D XL C p hX hD hC hDX hCX hCD hF (by rw [List.take_length] at ai; exact ai) hm)
 ·show (compTurn _ 0 it (.ref D) cenv).onRaise _ = _
  rw [turn_list]
 ·refine hr.to (fun y hy => lS hy ▸ .head _) fun h a' => ?_
  rw [filter_take hd, if_pos hbs, List.map_append]
  exact a'
 ·rw [filter_take hd, hbs]
  simpa using a⟩
theorem innerL_ok {iter : Expr} {g0 : Comprehension} {tg : Expr} {ifs : List Expr} {pair : Bool} {ds es0 : List PyData} {xs ys : List Str} {Γd : PyData -> Gam} {bs : PyData -> Bool} {f : PyData -> PyData} {elt : Expr} {scope : Scope} {pos : Pos}
  (hI : EvI c l XL env Γ' pair iter ds) (hB : ∀ d ∈ ds, Bind2 pair tg d ys (Γd d)) (hsub : ∀ x ∈ ys, x ∈ xs) (ho : offN ys Γ') (htg : TgI pair tg) (hfold : ∀ x, foldedSetIterable iter env x = pure x)
  (ht : ∀ X', (∀ a ∈ XL, a ∈ X') -> ∀ d ∈ ds, EvTs c l X' env (Γd d ++ Γ') ifs (bs d)) (he : ∀ X', (∀ a ∈ XL, a ∈ X') -> ∀ d ∈ ds, bs d = true -> Ev c l X' env (Γd d ++ Γ') elt (f d))
  (P : Plc c X XL N D env) (hs : ∀ p ∈ Γ, p ∈ Γ') (L : Lev l A) (G : Good c A XL env Γ' s.heap) (a : AIL c D XL es0 s.heap) (T : TG env N xs s.heap) (hz : es0.length + ds.length <= 10 ^ 6) :
  wpAny c.M A (innerL (.ListComp elt [g0, ⟨tg, iter, ifs, 0⟩] scope pos) iter (.ref D) env) (fun _ s' => BackC c A XL (D :: N) N env Γ xs (AIL c D XL (es0 ++ (ds.filter bs).map f)) s s') NoE s := by
 unfold innerL
 refine wB (wK (hI A s L G) (fun x s1 hx => wB (wpAny_standAt (wB (wpAny_of_eq (hfold x) (wB (wpAny_holding (wK hx (fun it s2 hx => ?_)))))))))
 obtain ⟨p2, I, fp, St, IT, st, hfp⟩ := hx
 obtain ⟨h2, tk2, q2⟩ := p2
 have fpa : ∀ a ∈ fp, ∃ o, h2.get? a = some o := IT.alive _ _ _ st
 have alive_of : ∀ a, (∃ o, s.heap.get? a = some o) -> a ∉ fp := fun a ⟨o, e⟩ z => by rw [hfp a z] at e; cases e
 have hXLf : ∀ a ∈ XL, a ∉ fp := fun a ha => alive_of a (G.bas.alloc a ha)
 have hbase : ∀ a, s.heap.get? a = none -> c.base.get? a = none := fun a ha => by
  cases e : c.base.get? a with
  | none => rfl
  | some o => rw [G.bas.inBase e] at ha; cases ha
 have G2 : Good c A (fp ++ XL) env Γ' h2 := G.grow q2 (fun a ha => (lA ha).elim (fun z => .inr (hfp a z)) .inl) (fun a ha => lR _ ha) fun a ha => (lA ha).elim (fpa a) fun z => q2.alive (fun z => nomatch z) (G.bas.alloc a z)
 have hF : ∀ a ∈ c.fr, a ∈ XL := G.bas.frs
 have a2 : AIL c D (fp ++ XL) es0 h2 := by
  obtain ⟨vs', n', e', r'⟩ := a
  exact ⟨vs', n', q2.exact (fun z => nomatch z) P.acc.2.1 e', (r'.wide fun a ha => (lA ha).elim (fun z => .inr (hfp a z)) .inl).hx0 q2 fun a ha => lR _ (hF a ha)⟩
 have T2 := T.hx q2 (fun z => nomatch z) fun _ _ z => nomatch z
 have P2 : Plc c XL (fp ++ XL) N D env := ⟨fun a ha => lR _ ha, ⟨lR _ P.acc.1, P.acc.2⟩, fun a ha => ⟨lR _ (P.own a ha).1, (P.own a ha).2⟩, P.loc, P.cel⟩
 have hlen : ∀ i, (es0 ++ ((ds.take i).filter bs).map f).length <= 10 ^ 6 := fun i => by
  rw [List.length_append, List.length_map]
  have h1 := List.length_filter_le bs (ds.take i)
  have h2 : (ds.take i).length <= ds.length := by rw [List.length_take]; exact Nat.min_le_right ..
  omega
 have key : codeAny c.M A (.compLoop (.ListComp elt [g0, ⟨tg, iter, ifs, 0⟩] scope pos) 1 (.ref I) (.ref D) env) _ { s with heap := h2, toks := tk2 } :=
  loop_ok (s := { s with heap := h2, toks := tk2 }) (Z := [D]) (X' := XL) (N := N) (xs := xs) (AI := fun i h => AIL c D (fp ++ XL) (es0 ++ ((ds.take i).filter bs).map f) h) (I := I) (body := emitL elt (.ref D) env) (p := iter.pos) (bs := bs)
   rfl rfl (by show (compTurn _ 1 (.ref I) (.ref D) env).onRaise _ = _; rw [turn_list2]) L IT hB hsub htg (fun a ha => ⟨lL _ ha, hbase a (hfp a ha), fun z => hXLf a (hF a z) ha⟩) (fun a ha => ⟨lR _ (hF a ha), hXLf a (hF a ha)⟩)
   (hXLf _ (P.own _ P.loc).1) (fun x a e => alive_of a (let ⟨v, i⟩ := G.cal x a e; let ⟨o, e, _⟩ := cell_alive i; ⟨o, e⟩)) (fun a ha => ⟨⟨lR _ (P.own a ha).1, (P.own a ha).2.1⟩, hXLf a (P.own a ha).1⟩)
   (fun a ha => by rw [lS ha]; exact ⟨lR _ P.acc.1, hXLf _ P.acc.1⟩) ho
   (fun i h h' Y ai q hy => ai.keep q (fun a ha => ⟨lR _ (hF a ha), fun z => P.acc.2.1 (z ▸ ha)⟩) fun y h => (hy y h).elim (fun z => ⟨lL _ z, fun e => hXLf _ P.acc.1 (e ▸ z)⟩) fun z => ⟨lR _ (P.own y z).1, fun e => P.acc.2.2.2 (e ▸ z)⟩)
   (fun d hd => ht _ (fun a ha => lR _ ha) d hd)
   (fun i d s1 hd hbs G1 ai T1 => wK (emitL_ok P2 (he _ (fun a ha => lR _ ha) d (lG hd) hbs) (fun p hp => lR _ hp) L G1 ai T1 (hlen i)) (fun _ s' hr => hr.to (fun _ z => z) fun h a' => by
    rw [filter_take hd, if_pos hbs, List.map_append, <- List.append_assoc]
    exact a'))
   (fun i d h hd hbs ai => by rw [filter_take hd, hbs]; simpa using ai)
   (fun a ha => ⟨lR _ ha, hXLf a ha⟩) hF G2 st (by simpa using a2) T2
 have fin : wpAny c.M A (runOwn (.compStart (.ListComp elt [g0, ⟨tg, iter, ifs, 0⟩] scope pos) 1 (.ref I) (.ref D) env) env) (fun _ s' => BackC c A XL (D :: N) N env Γ xs (AIL c D XL (es0 ++ (ds.filter bs).map f)) s s') NoE { s with heap := h2, toks := tk2 } := by
  refine wpAny_runOwn ?_
  have step : codeAny c.M A (.compLoop (.ListComp elt [g0, ⟨tg, iter, ifs, 0⟩] scope pos) 1 (.ref I) (.ref D) env) (fun r s' => match r with | .ok _ => BackC c A XL (D :: N) N env Γ xs (AIL c D XL (es0 ++ (ds.filter bs).map f)) s s' | .error e => cameBackBy c.M A env NoE e s') { s with heap := h2, toks := tk2 } := by
   refine codeAny_mono key fun r s' hr => ?_
   obtain ⟨rfl, h5, tk5, q5, ai5, G5, T5⟩ := hr
   refine ⟨h5, tk5, ?_, ?_, G5.sub hs, T5⟩
   ·refine (q2.mono fun _ z => nomatch z).youngY q5 fun a ha => ?_
    rcases lA ha with z | z
    ·exact .inr (hfp a z)
    ·rcases lA z with z | z
     ·exact .inl (.tail _ z)
     ·exact .inl (lS z ▸ .head _)
   ·obtain ⟨vs, n, e, r⟩ := ai5
    rw [List.take_length] at r
    exact ⟨vs, n, e, r.sub fun a ha => lR _ ha⟩
  exact compStart_gen rfl rfl step (wK (IT.self A _ _ _ st) (fun it' s' hr => by obtain ⟨rfl, rfl⟩ := hr; exact step)) (fun _ => rfl) rfl
 exact wB (wK fin (fun _ _ h => wP h))
end
end
section
section
variable {c : Cfg} {A : Around} {s : Shared} {l : Nat} {X XL N : List Addr} {D : Addr} {env : Env} {Γ Γ' : Gam}
theorem flat_take {α β : Type} {F : α -> List β} {p : α -> Bool} {ds : List α} {i : Nat} {d : α} (h : ds[i]? = some d) : ((ds.take (i + 1)).filter p).flatMap F = ((ds.take i).filter p).flatMap F ++ (if p d then F d else []) := by
 rw [filter_take h, List.flatMap_append]
 congr 1
 cases p d <;> simp
theorem flat_le {α β : Type} {F : α -> List β} {p : α -> Bool} : ∀ {ds : List α} {i : Nat} {d : α}, ds[i]? = some d -> p d = true -> (((ds.take i).filter p).flatMap F).length + (F d).length <= ((ds.filter p).flatMap F).length := fun {ds i d} h hp => by
 have e : ds = ds.take (i + 1) ++ ds.drop (i + 1) := (List.take_append_drop ..).symm
 conv => rhs; rw [e, List.filter_append, List.flatMap_append, List.length_append, flat_take h, if_pos hp, List.length_append]
 omega
theorem EvC.listComp2 {Γc : Gam} {elt tg tg2 iter iter2 : Expr} {ifs ifs2 : List Expr} {scope : Scope} {pos : Pos} {pair pair2 : Bool} {ds : List PyData} {xs xs2 : List Str} {Γd : PyData -> Gam} {Γd2 : PyData -> PyData -> Gam} (bs : PyData -> Bool) (es : PyData -> List PyData) (bs2 : PyData -> PyData -> Bool) (f : PyData -> PyData -> PyData)
  (hI : EvI c l X env Γ pair iter ds) (hB : ∀ d ∈ ds, Bind2 pair tg d xs (Γd d)) (hs : scOk env scope) (hc : Cap env scope Γ Γc) (hxs : ∀ x ∈ xs ++ xs2, scope.names.lookup x = some .local \/ scope.names.lookup x = some .cell) (ho : offN xs Γc)
  (ht : ∀ cs C XL, ∀ d ∈ ds, EvTs c l XL (cenvOf scope cs C env) (Γd d ++ Γc) ifs (bs d))
  (hI2 : ∀ cs C XL, ∀ d ∈ ds, bs d = true -> EvI c l XL (cenvOf scope cs C env) (Γd d ++ Γc) pair2 iter2 (es d)) (hB2 : ∀ d ∈ ds, bs d = true -> ∀ e ∈ es d, Bind2 pair2 tg2 e xs2 (Γd2 d e)) (ho2 : ∀ d ∈ ds, offN xs2 (Γd d ++ Γc))
  (ht2 : ∀ cs C XL, ∀ d ∈ ds, bs d = true -> ∀ e ∈ es d, EvTs c l XL (cenvOf scope cs C env) (Γd2 d e ++ (Γd d ++ Γc)) ifs2 (bs2 d e))
  (he : ∀ cs C XL, ∀ d ∈ ds, bs d = true -> ∀ e ∈ es d, bs2 d e = true -> Ev c l XL (cenvOf scope cs C env) (Γd2 d e ++ (Γd d ++ Γc)) elt (f d e))
  (hz : ((ds.filter bs).flatMap es).length <= 10 ^ 6)
  (htg : TgI pair tg := by constructor) (htg2 : TgI pair2 tg2 := by constructor) (hfold : ∀ x, foldedSetIterable iter env x = pure x := by intro _; rfl) (hfold2 : ∀ cs C x, foldedSetIterable iter2 (cenvOf scope cs C env) x = pure x := by intro _ _ _; rfl) :
  EvC c l X env Γ (.ListComp elt [⟨tg, iter, ifs, 0⟩, ⟨tg2, iter2, ifs2, 0⟩] scope pos) (.list ((ds.filter bs).flatMap fun d => ((es d).filter (bs2 d)).map (f d))) := ⟨fun _ => ⟨rfl, fun _ => rfl⟩, fun A s use Q L G kk => by
 have hlen : ∀ (i : Nat) (d : PyData), ds[i]? = some d -> bs d = true -> (((ds.take i).filter bs).flatMap fun d => ((es d).filter (bs2 d)).map (f d)).length + (es d).length <= 10 ^ 6 := fun i d hd hbs => by
  refine Nat.le_trans ?_ hz
  refine Nat.le_trans (Nat.add_le_add_right ?_ _) (flat_le (F := es) (p := bs) hd hbs)
  generalize (ds.take i).filter bs = L
  induction L with
  | nil => simp
  | cons a r ih =>
   rw [List.flatMap_cons, List.flatMap_cons, List.length_append, List.length_append, List.length_map]
   have := List.length_filter_le (bs2 a) (es a)
   omega
 refine comp_core (e := .ListComp elt [⟨tg, iter, ifs, 0⟩, ⟨tg2, iter2, ifs2, 0⟩] scope pos) (use := use) (Q := Q) (l := l) (newAcc := newList []) (acc0 := lstO [] 0) (body := fun acc cenv => innerL (.ListComp elt [⟨tg, iter, ifs, 0⟩, ⟨tg2, iter2, ifs2, 0⟩] scope pos) iter2 acc cenv) (AI := fun D XL i h => AIL c D XL (((ds.take i).filter bs).flatMap fun d => ((es d).filter (bs2 d)).map (f d)) h) (xs := xs ++ xs2) (bs := bs) (rest := [⟨tg2, iter2, ifs2, 0⟩]) rfl hfold
  (fun A s E Q h => wpAny_newObj_type h) rfl (fun D it cenv => ?_) (fun _ _ _ => rfl) (fun _ _ _ => rfl) (fun _ _ _ _ => rfl) (fun _ _ _ _ => rfl) hI hB (fun x h => lL _ h) htg hs hc hxs ho (fun cs C XL _ d hd => ht cs C XL d hd)
  (fun D XL h e => ⟨[], 0, e, by simp; exact .nil⟩) (fun D XL i h h' Y a q hF hy => a.keep q hF hy) (fun D XL i h a => let ⟨_, _, e, _⟩ := a; ⟨_, e⟩)
  (fun cs C XL N D P A s i d L hd hbs G a T => wK (innerL_ok (hI2 cs C XL d (lG hd) hbs) (hB2 d (lG hd) hbs) (fun x h => lR _ h) (ho2 d (lG hd)) htg2 (hfold2 cs C) (fun X' _ e he' => ht2 cs C X' d (lG hd) hbs e he')
   (fun X' _ e he' hb => he cs C X' d (lG hd) hbs e he' hb) P (fun p hp => lR _ hp) L G a T (hlen i d hd hbs)) (fun _ s' hr => ?_))
  (fun D XL i d h hd hbs a => ?_) L G (fun s5 D XL C p hX hD hC hDX hCX hCD hF ai hm => kk s5 D XL C p hX hD hC hDX hCX hCD hF (by rw [List.take_length] at ai; exact ai) hm)
 ·show (compTurn _ 0 it (.ref D) cenv).onRaise _ = _
  rw [turn_list1]
 ·refine hr.to (fun _ z => z) fun h a' => ?_
  rw [flat_take hd, if_pos hbs]
  exact a'
 ·rw [flat_take hd, hbs]
  simpa using a⟩
structure DKey (w : World) (K : Type) [DecidableEq K] where
 knd : ∀ prog, PySem.KeyKind prog w K
 enc : K -> PyData
 inj : ∀ a b, enc a = enc b -> a = b
 to : ∀ prog (e : DictEntry) k, (knd prog).is k e.key = true -> e.hash = (knd prog).hash k -> KeyIs w e (enc k)
 of : ∀ prog (e : DictEntry) k, KeyIs w e (enc k) -> (knd prog).is k e.key = true /\ e.hash = (knd prog).hash k
 rd : ∀ prog k v, (knd prog).is k v = true -> ∀ X h, Rd w X h v (enc k)
 dr : ∀ prog k X h v, Rd w X h v (enc k) -> (knd prog).is k v = true
 flat : ∀ k, Mine.flat (enc k) = true
 nn : ∀ k, enc k ≠ .none
noncomputable def intD (w : World) : DKey w Int where
 knd := fun prog => PySem.intKind prog w
 enc := .int
 inj := fun a b h => by cases h; rfl
 to := fun prog e k h1 h2 => ⟨Value.isInt_shape h1, h2⟩
 of := fun prog e k h => by
  obtain ⟨⟨t, e1⟩, e2⟩ := h
  exact ⟨by rw [e1]; simp [PySem.intKind, Value.isInt], e2⟩
 rd := fun prog k v h X hp => by obtain ⟨t, rfl⟩ := Value.isInt_shape h; exact .int _ _
 dr := fun prog k X h v r => by cases r; simp [PySem.intKind, Value.isInt]
 flat := fun _ => rfl
 nn := fun _ h => nomatch h
variable {K : Type} [DecidableEq K]
theorem keys_to (dk : DKey c.w K) {es : List DictEntry} {kvs : List (K × Value)} (hk : ∀ e ∈ es, ∃ k, (dk.knd c.prog).is k e.key = true /\ e.hash = (dk.knd c.prog).hash k) (hp : PySem.Pairs (dk.knd c.prog) es kvs) : KeysAre c.w es ((kvs.map (·.1)).map dk.enc) /\ es.map (·.val) = kvs.map (·.2) := by
 induction hp with
 | nil => exact ⟨.nil, rfl⟩
 | @cons e kv es kvs h1 h2 r ih =>
  obtain ⟨a, b⟩ := ih fun e he => hk e (.tail _ he)
  obtain ⟨k, h3, h4⟩ := hk e (.head _)
  have : k = kv.1 := (dk.knd c.prog).inj _ _ _ h3 h1
  subst this
  exact ⟨.cons (dk.to _ _ _ h1 h4) a, by rw [List.map_cons, List.map_cons, h2, b]⟩
theorem nodup_inj {α β : Type} {f : α -> β} (hf : ∀ a b, f a = f b -> a = b) {l : List α} (h : l.Nodup) : (l.map f).Nodup := List.pairwise_map.mpr (h.imp fun n e => n (hf _ _ e))
theorem nodup_of_map {α β : Type} {f : α -> β} {l : List α} (h : (l.map f).Nodup) : l.Nodup := (List.pairwise_map.mp h).imp fun n e => n (congrArg f e)
theorem keys_of (dk : DKey c.w K) : ∀ {es : List DictEntry} {ks : List K}, KeysAre c.w es (ks.map dk.enc) -> (∀ e ∈ es, ∃ k, (dk.knd c.prog).is k e.key = true /\ e.hash = (dk.knd c.prog).hash k) /\ PySem.Pairs (dk.knd c.prog) es (ks.zip (es.map (·.val)))
 | [], [], _ => ⟨(fun _ h => nomatch h), .nil⟩
 | e :: es, k :: ks, h => by
  cases h with
  | cons h r =>
   obtain ⟨a, b⟩ := keys_of dk r
   have := dk.of c.prog _ _ h
   exact ⟨fun e' he => (lC he).elim (fun z => ⟨k, z ▸ this⟩) (a e'), .cons this.1 rfl b⟩
theorem dic_eq {o : Obj} {es : Array DictEntry} {n : Nat} (hx : o.cls = .type "dict" /\ o.dict = none /\ o.slots = #[]) (hd : o.data = .dict es n) : o = dicO es.toList n := by
 obtain ⟨oc, od, oda, os⟩ := o
 rw [show oc = _ from hx.1, show od = _ from hx.2.1, show os = _ from hx.2.2, show oda = _ from hd, dicO, Array.toArray_toList]
theorem dk_none (dk : DKey c.w K) {ks : List K} (h : ks.map dk.enc = [.none]) : False := by
 cases ks with
 | nil => cases h
 | cons k _ => exact dk.nn _ (List.cons.inj h).1
inductive DctI (c : Cfg) (dk : DKey c.w K) (X : List Addr) (h : Heap) (ks : List K) (ds : List PyData) : Value -> Prop
 | mk (a : Addr) (vs : List Value) (ha : a ∉ X) (hd : h.DictOf (dk.knd c.prog) a (ks.zip vs)) (r : RdL c.w X h vs ds) (e : vs.length = ks.length) : DctI c dk X h ks ds (.ref a)
theorem Own1.ofDict (dk : DKey c.w K) {h : Heap} {a : Addr} {kvs : List (K × Value)} {ds : List PyData} (hd : h.DictOf (dk.knd c.prog) a kvs) (r : RdL c.w X h (kvs.map (·.2)) ds) : Own1 c X h a (.dict (((kvs.map (·.1)).map dk.enc).zip ds)) := by
 obtain ⟨o, es, ep, e, hx, hdat, hk, hp, hn⟩ := hd
 obtain ⟨h1, h2⟩ := keys_to dk (c := c) (fun e he => hk e (by simpa using he)) hp
 have hlen : ((kvs.map (·.1)).map dk.enc).length = ds.length := by
  have := r.length
  simp at this ⊢
  exact this
 have hk1 : (((kvs.map (·.1)).map dk.enc).zip ds).map (·.1) = (kvs.map (·.1)).map dk.enc := List.map_fst_zip (Nat.le_of_eq hlen)
 have hk2 : (((kvs.map (·.1)).map dk.enc).zip ds).map (·.2) = ds := List.map_snd_zip (Nat.le_of_eq hlen.symm)
 have ho : o = dicO es.toList ep := dic_eq hx hdat
 refine ⟨_, _, (ho ▸ e), (by rw [hk1]; exact h1), ?_, (by rw [hk2, h2]; exact r)⟩
 rw [hk1]
 exact nodup_inj dk.inj hn
theorem Rd.toDict (dk : DKey c.w K) {h : Heap} {v : Value} {ks : List K} {ds : List PyData} (hl : ks.length = ds.length) (r : Rd c.w X h v (.dict ((ks.map dk.enc).zip ds))) : DctI c dk X h ks ds v := by
 have hl' : (ks.map dk.enc).length = ds.length := by rw [List.length_map]; exact hl
 have hk1 : ((ks.map dk.enc).zip ds).map (·.1) = ks.map dk.enc := List.map_fst_zip (Nat.le_of_eq hl')
 have hk2 : ((ks.map dk.enc).zip ds).map (·.2) = ds := List.map_snd_zip (Nat.le_of_eq hl'.symm)
 have hz := r.dict_inv fun x z => dk_none dk (hk1.symm.trans (congrArg (List.map (·.1)) z)); clear r
 obtain ⟨a, es, n, ha, e, k, nd, r⟩ := hz
 rw [hk1] at k nd
 rw [hk2] at r
 obtain ⟨h1, h2⟩ := keys_of dk k
 have hlen : (es.map (·.val)).length = ks.length := by rw [r.length, hl]
 refine ⟨a, es.map (·.val), ha, ⟨_, es.toArray, n, e, ⟨rfl, rfl, rfl⟩, rfl, fun e he => h1 e (by simpa using he), h2, ?_⟩, r, hlen⟩
 rw [List.map_fst_zip (Nat.le_of_eq hlen.symm)]
 exact nodup_of_map nd
end
end
section
section
variable {c : Cfg} {A : Around} {s : Shared} {l : Nat} {X XL N : List Addr} {D : Addr} {env : Env} {Γ Γ' : Gam} {K : Type} [DecidableEq K]
theorem HX.dictOf {knd : PySem.KeyKind c.prog c.w K} {Y : List Addr} {h h' : Heap} (q : HX c Y h h') {a : Addr} {kvs : List (K × Value)} (hy : a ∉ Y) (hf : a ∉ c.fr) (d : h.DictOf knd a kvs) : h'.DictOf knd a kvs := by
 obtain ⟨o, es, ep, e, r⟩ := d
 exact ⟨o, es, ep, q.exact hy hf e, r⟩
noncomputable def AID (c : Cfg) (dk : DKey c.w K) (D : Addr) (XL : List Addr) (ks : List K) (es : List PyData) (h : Heap) : Prop := ∃ vs, h.DictOf (dk.knd c.prog) D (ks.zip vs) /\ RdL c.w XL h vs es /\ ks.length = vs.length
theorem AID.keep {dk : DKey c.w K} {ks : List K} {es : List PyData} {h h' : Heap} {Y : List Addr} (a : AID c dk D XL ks es h) (q : HX c Y h h') (hF : ∀ a ∈ c.fr, a ∈ XL /\ a ≠ D) (hy : ∀ y ∈ Y, y ∈ XL /\ y ≠ D) : AID c dk D XL ks es h' := by
 obtain ⟨vs, d, r, e⟩ := a
 exact ⟨vs, q.dictOf (fun z => (hy _ z).2 rfl) (fun z => (hF _ z).2 rfl) d, r.hx q (fun a ha => (hF a ha).1) fun y h => (hy y h).1, e⟩
theorem stored_new {kvs : List (K × Value)} {k : K} {v : Value} (h : k ∉ kvs.map (·.1)) : stored kvs k v = kvs ++ [(k, v)] := by
 unfold stored
 rw [if_neg]
 intro z
 obtain ⟨p, hp, e⟩ := List.any_eq_true.mp z
 exact h (List.mem_map.mpr ⟨p, hp, of_decide_eq_true e⟩)
theorem emitD_ok {dk : DKey c.w K} {kx vx : Expr} {k : K} {d : PyData} {ks : List K} {es : List PyData} {xs : List Str} (P : Plc c X XL N D env) (h1 : Ev c l XL env Γ' kx (dk.enc k)) (h2 : Ev c l XL env Γ' vx d) (hs : ∀ p ∈ Γ, p ∈ Γ') (L : Lev l A) (G : Good c A XL env Γ' s.heap) (a : AID c dk D XL ks es s.heap)
  (T : TG env N xs s.heap) (hz : ks.length <= 10 ^ 6) (hk : k ∉ ks) :
  wpAny c.M A (emitD kx vx D env) (fun _ s' => BackC c A XL [D] N env Γ xs (AID c dk D XL (ks ++ [k]) (es ++ [d])) s s') NoE s := by
 refine wB (h1.use L G fun kv s1 p1 r1 G1 => wB (wpAny_holding (h2.use L G1 fun v s2 p2 r2 G2 => wB (wpAny_standAt (wpAny_holding ?_)))))
 obtain ⟨h2, tk2, q2⟩ := p1.trans p2
 obtain ⟨vs, dd, r, e⟩ := a.keep q2 (fun a ha => ⟨G.bas.frs a ha, fun z => P.acc.2.1 (z ▸ ha)⟩) fun y hy => nomatch hy
 have hfst : (ks.zip vs).map (·.1) = ks := List.map_fst_zip (Nat.le_of_eq e)
 refine wpAny_dictSet_pairs (dk.dr c.prog k _ _ _ r1) dd (fun h' d' hs' => ?_) (by rw [List.length_zip, <- e, sizeLine_eq]; omega)
 rw [stored_new (by rw [hfst]; exact hk)] at d'
 have q3 : HX c [D] h2 h' := .sameBut hs' P.acc.2.2.1 P.acc.2.1
 have q03 : HX c [D] s.heap h' := (q2.mono fun _ z => nomatch z).trans q3
 have hDX : ∀ y ∈ [D], y ∈ XL := fun y hy => lS hy ▸ P.acc.1
 obtain ⟨G3, T3⟩ := P.after q3 G2 (let ⟨o, _, _, e, _⟩ := d'; ⟨o, e⟩) (T.hx q2 (fun z => nomatch z) fun _ _ z => nomatch z)
 refine ⟨h', _, q03, ⟨vs ++ [v], ?_, (r.hx q3 G.bas.frs hDX).append (.cons (r2.hx q3 G.bas.frs hDX) .nil), by simp [e]⟩, G3.sub hs, T3⟩
 rw [List.zip_append e]
 exact d'
theorem EvC.dictComp (dk : DKey c.w K) {Γc : Gam} {kx vx tg iter : Expr} {ifs : List Expr} {scope : Scope} {pos : Pos} {pair : Bool} {ds : List PyData} {xs : List Str} {Γd : PyData -> Gam} (bs : PyData -> Bool) (kf : PyData -> K) (f : PyData -> PyData)
  (hI : EvI c l X env Γ pair iter ds) (hB : ∀ d ∈ ds, Bind2 pair tg d xs (Γd d)) (hs : scOk env scope) (hc : Cap env scope Γ Γc) (hxs : ∀ x ∈ xs, scope.names.lookup x = some .local \/ scope.names.lookup x = some .cell) (ho : offN xs Γc)
  (ht : ∀ cs C XL, ∀ d ∈ ds, EvTs c l XL (cenvOf scope cs C env) (Γd d ++ Γc) ifs (bs d))
  (hek : ∀ cs C XL, ∀ d ∈ ds, bs d = true -> Ev c l XL (cenvOf scope cs C env) (Γd d ++ Γc) kx (dk.enc (kf d)))
  (hev : ∀ cs C XL, ∀ d ∈ ds, bs d = true -> Ev c l XL (cenvOf scope cs C env) (Γd d ++ Γc) vx (f d)) (hz : ds.length <= 10 ^ 6) (hn : ((ds.filter bs).map kf).Nodup)
  (htg : TgI pair tg := by constructor) (hfold : ∀ x, foldedSetIterable iter env x = pure x := by intro _; rfl) :
  EvC c l X env Γ (.DictComp kx vx [⟨tg, iter, ifs, 0⟩] scope pos) (.dict ((ds.filter bs).map fun d => (dk.enc (kf d), f d))) := ⟨fun _ => ⟨rfl, fun _ => rfl⟩, fun A s use Q L G kk => by
 have hlen : ∀ i, (((ds.take i).filter bs).map kf).length <= 10 ^ 6 := fun i => by
  rw [List.length_map]
  exact Nat.le_trans (List.length_filter_le ..) (Nat.le_trans (by rw [List.length_take]; exact Nat.min_le_right ..) hz)
 have hnew : ∀ (i : Nat) (d : PyData), ds[i]? = some d -> bs d = true -> kf d ∉ ((ds.take i).filter bs).map kf := fun i d hd hbs => by
  have e : ds = ds.take (i + 1) ++ ds.drop (i + 1) := (List.take_append_drop ..).symm
  rw [e, List.filter_append, filter_take hd, if_pos hbs, List.map_append, List.map_append, List.nodup_append] at hn
  have := (List.nodup_append.mp hn.1).2.2
  intro z
  exact this _ z (kf d) (by simp) rfl
 refine comp_core (e := .DictComp kx vx [⟨tg, iter, ifs, 0⟩] scope pos) (use := use) (Q := Q) (l := l) (newAcc := newDict) (acc0 := dicO [] 0) (body := fun acc cenv => match acc with | .ref D => emitD kx vx D cenv | _ => pure ()) (AI := fun D XL i h => AID c dk D XL (((ds.take i).filter bs).map kf) (((ds.take i).filter bs).map f) h) (xs := xs) (bs := bs) (rest := []) rfl hfold
  (fun A s E Q h => wpAny_newObj_type h) rfl (fun D it cenv => ?_) (fun _ _ _ => rfl) (fun _ _ _ => rfl) (fun _ _ _ _ => rfl) (fun _ _ _ _ => rfl) hI hB (fun x h => h) htg hs hc hxs ho (fun cs C XL _ d hd => ht cs C XL d hd)
  (fun D XL h e => ⟨[], (show h.DictOf (dk.knd c.prog) D [] from ⟨_, _, _, e, ⟨rfl, rfl, rfl⟩, rfl, (fun _ he => by simp at he), PySem.Pairs.nil, List.nodup_nil⟩), (by simp; exact RdL.nil), (by simp)⟩) (fun D XL i h h' Y a q hF hy => a.keep q hF hy) (fun D XL i h a => let ⟨_, ⟨_, _, _, e, _⟩, _⟩ := a; ⟨_, e⟩)
  (fun cs C XL N D P A s i d L hd hbs G a T => wK (emitD_ok P (hek cs C XL d (lG hd) hbs) (hev cs C XL d (lG hd) hbs) (fun p hp => lR _ hp) L G a T (hlen i) (hnew i d hd hbs)) (fun _ s' hr => ?_))
  (fun D XL i d h hd hbs a => ?_) L G (fun s5 D XL C p hX hD hC hDX hCX hCD hF ai hm => kk s5 D XL C p hX hD hC hDX hCX hCD hF ?_ hm)
 ·show (compTurn _ 0 it (.ref D) cenv).onRaise _ = _
  rw [turn_dict]
 ·refine hr.to (fun y hy => lS hy ▸ .head _) fun h a' => ?_
  rw [filter_take hd, if_pos hbs, List.map_append, List.map_append]
  exact a'
 ·rw [filter_take hd, hbs]
  simpa using a
 ·obtain ⟨vs, d, r, e⟩ := ai
  rw [List.take_length] at r e d
  have := Own1.ofDict dk d (by rw [List.map_snd_zip (Nat.le_of_eq e.symm)]; exact r)
  rw [List.map_fst_zip (Nat.le_of_eq e), List.map_map] at this
  rw [show (ds.filter bs).map (fun d => (dk.enc (kf d), f d)) = (List.map (dk.enc ∘ kf) (ds.filter bs)).zip (List.map f (ds.filter bs)) from ?_]
  ·exact this
  ·generalize ds.filter bs = L
   induction L with
   | nil => rfl
   | cons a r ih => simp [ih]⟩
end
end
section
section
variable {c : Cfg}
inductive StT (c : Cfg) (I ax : Addr) (ds : List PyData) (X : List Addr) (i : Nat) (h : Heap) : Prop
 | mk (it : h.IsTupleIter I ax i) (off : ax ∉ X) (vs : List Value) (n : Nat) (e : h.get? ax = some (tupO vs n)) (r : RdL c.w X h vs ds)
theorem HX.tupIter {Y : List Addr} {h h' : Heap} (x : HX c Y h h') {I l : Addr} {i : Nat} (ha : I ∉ Y) (n : h.IsTupleIter I l i) : h'.IsTupleIter I l i := by
 obtain ⟨o, e, cl, d⟩ := n
 obtain ⟨o', e', cl', _, d'⟩ := x.get ha e
 exact ⟨o', e', cl'.trans cl, d'.trans d⟩
theorem tupAt {h : Heap} {a : Addr} {vs : List Value} {n : Nat} (e : h.get? a = some (tupO vs n)) : h.IsTuple a vs.toArray := ⟨_, e, rfl, _, rfl⟩
theorem its_tuple {pair : Bool} {I ax : Addr} {ds : List PyData} (hp : pair = false) : ItS c pair I [I] ds (StT c I ax ds) where
 alive := fun X i h st a ha => by
  obtain ⟨⟨o, e, _⟩, _⟩ := st
  rw [lS ha]
  exact ⟨o, e⟩
 keep := fun X i h h' Y st q hF hy => by
  obtain ⟨h1, h2, vs, n, h3, h4⟩ := st
  exact ⟨q.tupIter (fun z => (hy _ z).2 (.head _)) h1, h2, vs, n, q.exact (fun z => h2 (hy _ z).1) (fun z => h2 (hF _ z).1) h3, h4.hx q (fun a z => (hF a z).1) fun y z => (hy y z).1⟩
 wide := fun X X' i h st hy => by
  obtain ⟨h1, h2, vs, n, h3, h4⟩ := st
  exact ⟨h1, fun z => (hy _ z).elim h2 fun e => (by rw [e] at h3; cases h3), vs, n, h3, h4.wide hy⟩
 item := fun A s X i d tg hh ht st hf hF hd => by
  subst hp
  obtain ⟨h1, h2, vs, n, h3, h4⟩ := st
  obtain ⟨v, hv, r⟩ := h4.get _ hd
  obtain ⟨hI, hIb, hIf⟩ := hf I (.head _)
  refine wpAny_pyNext_tuple_item h1 (tupAt h3) (x := v) (by simpa using hv) fun h' hit' hs' => ⟨v, rfl, ?_⟩
  have q : HX c [I] s.heap h' := .sameBut hs' hIb hIf
  have hY : ∀ y ∈ [I], y ∈ X := fun y z => lS z ▸ hI
  have st' : StT c I ax ds X (i + 1) h' := ⟨hit', h2, vs, n, q.exact (fun z => h2 (hY _ z)) (fun z => h2 (hF _ z)) h3, h4.hx q hF hY⟩
  obtain ⟨x, p⟩ := tg_name ht
  exact go_name ⟨h', s.toks, q, st', r.hx q hF hY⟩
 done := fun A s X hh st hf => by
  obtain ⟨h1, h2, vs, n, h3, h4⟩ := st
  refine wpAny_pyNext_tuple_end hh h1 (tupAt h3) (by simp [h4.length]) fun h' he' => ⟨h', s.toks, ItS.off hf he'⟩
 self := fun A s X i st => wpAny_pyIter_tupleiter st.1 ⟨rfl, rfl⟩
theorem fresh_wide {X : List Addr} {h : Heap} {I : Addr} (hI : h.objs.size <= I) : ∀ a ∈ [I] ++ X, a ∈ X \/ h.get? a = none := fun a hm => by
 rcases lA hm with z | z
 ·rw [lS z]; exact .inr (fresh_ge hI)
 ·exact .inl z
theorem off_fresh {X : List Addr} {h : Heap} {I ax : Addr} {o : Obj} (hI : h.objs.size <= I) (ha : ax ∉ X) (e : h.get? ax = some o) : ax ∉ [I] ++ X := fun hm => by
 rcases lA hm with z | z
 ·rw [lS z, fresh_ge hI] at e; cases e
 ·exact ha z
variable {l : Nat} {X : List Addr} {env : Env} {Γ : Gam} {A : Around} {s : Shared}
theorem iter_tuple {v : Value} {ds : List PyData} (r : Rd c.w X s.heap v (.tuple ds)) (hF : ∀ a ∈ c.fr, a ∈ X) {Q : Value -> Shared -> Prop}
  (k : ∀ I St, ItS c false I [I] ds St -> St ([I] ++ X) 0 (s.heap.push { cls := .type "tuple_iterator", data := .fields #[v, .int 0 0] }) -> I = s.heap.objs.size -> Q (.ref I) { s with heap := s.heap.push { cls := .type "tuple_iterator", data := .fields #[v, .int 0 0] } }) : wpAny c.M A (pyIter v) Q NoE s := by
 have hz := r.tuple_inv; clear r; obtain ⟨ax, vs, n, ha, ea, q⟩ := hz
 refine wpAny_pyIter_tuple (tupAt ea) (k _ (StT c s.heap.objs.size ax ds) (its_tuple rfl) ⟨⟨_, hP _ rfl, rfl, rfl⟩, off_fresh (Nat.le_refl _) ha ea, vs, n, Heap.get?_push_of_some _ ea, ?_⟩ rfl)
 exact (q.wide (fresh_wide (Nat.le_refl _))).hx0 (c := c) (.push _ _) fun a z => lR _ (hF a z)
theorem EvI.ofTuple {e : Expr} {ds : List PyData} (h : Ev c l X env Γ e (.tuple ds)) : EvI c l X env Γ false e ds := fun A s L G =>
 h.use L G fun v s1 p1 r1 G1 => iter_tuple r1 G1.bas.frs fun I St it st hI => ⟨p1.trans .push', I, [I], St, it, st, fun a hm => by
  rw [lS hm, hI]
  exact p1.hx.none_of (fun z => nomatch z) (fresh_ge (Nat.le_refl _))⟩
variable {K : Type} [DecidableEq K]
inductive StK (c : Cfg) (dk : DKey c.w K) (I d : Addr) (ks : List K) (X : List Addr) (i : Nat) (h : Heap) : Prop
 | mk (vs : List Value) (ep : Nat) (it : h.IsKeyIter I d i (ks.zip vs).length ep) (off : d ∉ X) (at_ : h.DictAt (dk.knd c.prog) d (ks.zip vs) ep) (len : ks.length = vs.length)
theorem its_keys {dk : DKey c.w K} {I d : Addr} {ks : List K} : ItS c false I [I] (ks.map dk.enc) (StK c dk I d ks) where
 alive := fun X i h st a ha => by
  obtain ⟨vs, ep, ⟨o, e, _⟩, _⟩ := st
  rw [lS ha]
  exact ⟨o, e⟩
 keep := fun X i h h' Y st q hF hy => by
  obtain ⟨vs, ep, ⟨o, e, r⟩, h2, ⟨o2, es, e2, r2⟩, h4⟩ := st
  obtain ⟨o', e', cl', _, d'⟩ := q.get (fun z => (hy _ z).2 (.head _)) e
  exact ⟨vs, ep, ⟨o', e', cl'.trans r.1, d'.trans r.2⟩, h2, ⟨o2, es, q.exact (fun z => h2 (hy _ z).1) (fun z => h2 (hF _ z).1) e2, r2⟩, h4⟩
 wide := fun X X' i h st hy => by
  obtain ⟨vs, ep, h1, h2, h3, h4⟩ := st
  obtain ⟨o2, es, e2, r2⟩ := id h3
  exact ⟨vs, ep, h1, fun z => (hy _ z).elim h2 fun e => (by rw [e] at e2; cases e2), h3, h4⟩
 item := fun A s X i k tg hh ht st hf hF hd => by
  obtain ⟨vs, ep, h1, h2, h3, h4⟩ := st
  obtain ⟨k0, hk⟩ := map_get hd
  have hi : i < vs.length := by rw [<- h4]; exact (List.getElem?_eq_some_iff.mp hk).1
  have hz : (ks.zip vs)[i]? = some (k0, vs[i]) := List.getElem?_zip_eq_some.mpr ⟨hk, List.getElem?_eq_getElem hi⟩
  obtain ⟨hI, hIb, hIf⟩ := hf I (.head _)
  obtain ⟨x, p⟩ := tg_name ht
  refine wpAny_pyNext_dict_item h1 h3 hz fun key h' hkey hit' hs' => ⟨key, rfl, go_name ⟨h', s.toks, .sameBut hs' hIb hIf, ⟨vs, ep, hit', h2, h3.extBut hs'.extBut fun z => h2 (z ▸ hI), h4⟩, dk.rd c.prog k0 key hkey X h'⟩⟩
 done := fun A s X hh st hf => by
  obtain ⟨vs, ep, h1, h2, h3, h4⟩ := st
  refine wpAny_pyNext_dict_end hh h1 h3 (by simp [h4]) fun h' he' => ⟨h', s.toks, ItS.off hf he'⟩
 self := fun A s X i st => by
  obtain ⟨vs, ep, h1, _⟩ := st
  exact wpAny_pyIter_keyiter h1 ⟨rfl, rfl⟩
theorem iter_keys (dk : DKey c.w K) {v : Value} {ks : List K} {ds : List PyData} (hl : ks.length = ds.length) (r : Rd c.w X s.heap v (.dict ((ks.map dk.enc).zip ds))) (hsys : sysModules ∈ X) {Q : Value -> Shared -> Prop}
  (k : ∀ I St o, ItS c false I [I] (ks.map dk.enc) St -> St ([I] ++ X) 0 (s.heap.push o) -> I = s.heap.objs.size -> Q (.ref I) { s with heap := s.heap.push o }) : wpAny c.M A (pyIter v) Q NoE s := by
 obtain ⟨a, vs, ha, hd, q, e⟩ := r.toDict dk hl
 obtain ⟨ep, hd⟩ := hd.dictAt
 have hne : (a == sysModules) = false := by
  have : a ≠ sysModules := fun z => ha (z ▸ hsys)
  simpa using this
 obtain ⟨o2, es, e2, r2⟩ := id hd
 exact wpAny_pyIter_dict hne hd (k _ (StK c dk s.heap.objs.size a ks) _ its_keys ⟨vs, ep, ⟨_, hP _ rfl, rfl, rfl⟩, off_fresh (Nat.le_refl _) ha e2, hd.push _, e.symm⟩ rfl)
theorem EvI.ofKeys (dk : DKey c.w K) {e : Expr} {ks : List K} {ds : List PyData} (hsys : sysModules ∈ c.fr) (hl : ks.length = ds.length) (h : Ev c l X env Γ e (.dict ((ks.map dk.enc).zip ds))) : EvI c l X env Γ false e (ks.map dk.enc) := fun A s L G =>
 h.use L G fun v s1 p1 r1 G1 => iter_keys dk hl r1 (G1.bas.frs _ hsys) fun I St o it st hI => ⟨p1.trans .push', I, [I], St, it, st, fun a hm => by
  rw [lS hm, hI]
  exact p1.hx.none_of (fun z => nomatch z) (fresh_ge (Nat.le_refl _))⟩
noncomputable def enumD (ds : List PyData) : List PyData := ds.zipIdx.map fun p => .tuple [.int (p.2 : Nat), p.1]
theorem enumD_get {ds : List PyData} {i : Nat} {d : PyData} (h : (enumD ds)[i]? = some d) : MapI (fun x => .tuple [.int (i : Nat), x]) ds i d := by
 obtain ⟨p, e⟩ := map_get h
 rw [List.getElem?_zipIdx] at e
 obtain ⟨x, hx, rfl⟩ := Option.map_eq_some_iff.mp e
 rw [Nat.zero_add]
 exact ⟨x, hx⟩
theorem enumD_len {ds : List PyData} : (enumD ds).length = ds.length := by simp [enumD]
inductive StE (c : Cfg) (e it ax : Addr) (ds : List PyData) (X : List Addr) (i : Nat) (h : Heap) : Prop
 | mk (en : ∃ old, IsEnum h e it (i : Nat) old) (li : h.IsListIter it ax i) (off : ax ∉ X) (vs : List Value) (n : Nat) (e' : h.get? ax = some (lstO vs n)) (r : RdL c.w X h vs ds)
theorem lstAt {h : Heap} {a : Addr} {vs : List Value} {n : Nat} (e : h.get? a = some (lstO vs n)) : h.IsList a vs.toArray := ⟨_, e, rfl, _, rfl⟩
theorem its_enum {e it ax : Addr} {ds : List PyData} (hne : e ≠ it) : ItS c true e [e, it] (enumD ds) (StE c e it ax ds) where
 alive := fun X i h st a ha => by
  obtain ⟨⟨old, h0⟩, ⟨o, e, _⟩, _⟩ := st
  rcases lC ha with rfl | ha
  ·exact ⟨_, h0⟩
  ·rw [lS ha]
   exact ⟨o, e⟩
 keep := fun X i h h' Y st q hF hy => by
  obtain ⟨⟨old, h0⟩, h1, h2, vs, n, h3, h4⟩ := st
  exact ⟨⟨old, q.exact (fun z => (hy _ z).2 (.head _)) (fun z => (hF _ z).2 (.head _)) h0⟩, q.listIter (fun z => (hy _ z).2 (.tail _ (.head _))) h1, h2, vs, n, q.exact (fun z => h2 (hy _ z).1) (fun z => h2 (hF _ z).1) h3, h4.hx q (fun a z => (hF a z).1) fun y z => (hy y z).1⟩
 wide := fun X X' i h st hy => by
  obtain ⟨h0, h1, h2, vs, n, h3, h4⟩ := st
  exact ⟨h0, h1, fun z => (hy _ z).elim h2 fun e => (by rw [e] at h3; cases h3), vs, n, h3, h4.wide hy⟩
 item := fun A s X i d tg hh ht st hf hF hd => by
  obtain ⟨x, hx⟩ := enumD_get hd
  obtain ⟨⟨old, h0⟩, h1, h2, vs, n, h3, h4⟩ := st
  obtain ⟨v, hv, r⟩ := h4.get _ hx
  obtain ⟨es, k, p⟩ := tg_tuple ht
  refine wpAny_pyNext_enum_item h0 h1 (lstAt h3) (x := v) (by simpa using hv) hne fun h' a1 a2 a3 a4 a5 => ⟨_, rfl, wpAny_letOwnedTupleGo_enum a1 fun h'' b1 b2 => ?_⟩
  have q1 : HX c [e, it] s.heap h' := .of_keep (fun b o hb eb => a5 b o (fun z => hb (z ▸ .head _)) (fun z => hb (z ▸ .tail _ (.head _))) eb) (fun y hy => (hf y hy).2.1) fun y hy => (hf y hy).2.2
  have q2 : HX c [e] h' h'' := .sameBut b2 (hf e (.head _)).2.1 (hf e (.head _)).2.2
  have q : HX c [e, it] s.heap h'' := q1.trans (q2.mono fun y hy => lS hy ▸ .head _)
  have hY : ∀ y ∈ [e, it], y ∈ X := fun y hy => (hf y hy).1
  have hT : s.heap.objs.size ≠ e := Nat.ne_of_gt (Heap.lt_size h0)
  refine ⟨h'', _, q, ⟨⟨_, b1⟩, (show h''.IsListIter it ax (i + 1) from q2.listIter (fun z => hne (lS z).symm) a2), h2, vs, n, q.exact (fun z => h2 (hY _ z)) (fun z => h2 (hF _ z)) h3, h4.hx q hF hY⟩, ?_⟩
  exact ⟨s.heap.objs.size, [.int i s.toks, v], _, ⟨_, b2.extBut _ _ hT a3, rfl, _, rfl⟩, .cons (.int _ _) (.cons (r.hx q hF hY) .nil)⟩
 done := fun A s X hh st hf => by
  obtain ⟨⟨old, h0⟩, h1, h2, vs, n, h3, h4⟩ := st
  refine wpAny_pyNext_enum_end hh h0 h1 (lstAt h3) (by simp [h4.length, enumD_len]) fun h' he' => ⟨h', s.toks, ?_⟩
  exact .of_keep (fun b o hb e => he' b o (fun z => hb (z ▸ .tail _ (.head _))) e) (fun y hy => (hf y hy).2.1) fun y hy => (hf y hy).2.2
 self := fun A s X i st => by
  obtain ⟨⟨old, h0⟩, _⟩ := st
  exact wpAny_pyIter_enum h0 ⟨rfl, rfl⟩
theorem EvI.ofEnum {e : Expr} {f : Str} {np pos : Pos} {ds : List PyData} (hg : Glb c f (.type "enumerate")) (hf : env.kindOf f = some .globalImplicit) (h : Ev c l X env Γ e (.list ds))
  (hd : (f == ("__debug__" : Str)) = false := by decide) (he : autoParam (starEach [e] env = (false, eval e env) :: starEach [] env) aR) : EvI c l X env Γ true (.Call (.Name f np) [e] [] pos) (enumD ds) := fun A s L G => by
 refine wpAny_Call_ofName (wpAny_Name (hg A _ s env _ G.bas.stays G.globals G.builtins G.kind hf ?_) hd)
 have a := EvA.cons (pos := pos) h .nil he A s L G
 show wpAny c.M A (callWith pos (.type "enumerate") [] (backTo pos (starEach [e] env)) []) _ _ s
 rw [he] at a ⊢
 refine callWith_of (P := fun h => c.base.StaysIn h) rfl keep_type (evalArgs_plain (wK a (fun vs s1 q => ?_)))
 obtain ⟨p1, q⟩ := q
 have G1 := G.hx0 p1.hx
 refine ⟨G1.bas.stays, ?_⟩
 have hz := q.one_inv; clear q; obtain ⟨_, r⟩ := hz
 have hz := r.list_inv; clear r; obtain ⟨ax, vs, n, ha, ea, q⟩ := hz
 have hfp : ∀ a, a ∈ ([s1.heap.objs.size + 1, s1.heap.objs.size] : List Nat) -> s1.heap.objs.size <= a := fun a hm => by
  rcases lC hm with rfl | z
  ·exact Nat.le_succ _
  ·rw [lS z]; exact Nat.le_refl _
 refine call_enumerate_list (lstAt ea) fun h' b1 b2 b3 b4 => ?_
 have q1 : HX c [] s1.heap h' := .keep0 b4
 refine wpAny_pyIter_enum b1 ⟨p1.trans ⟨h', s1.toks, q1⟩, _, [s1.heap.objs.size + 1, s1.heap.objs.size], StE c _ _ ax ds, its_enum (Nat.succ_ne_self _), ⟨⟨_, b1⟩, b2, ?_, vs, n, b4 _ _ ea, ?_⟩, ?_⟩
 ·intro hm
  rcases lA hm with z | z
  ·rw [fresh_ge (hfp _ z)] at ea; cases ea
  ·exact ha z
 ·refine (q.wide fun a hm => ?_).hx0 q1 fun a z => lR _ (G1.bas.frs a z)
  rcases lA hm with z | z
  ·exact .inr (fresh_ge (hfp _ z))
  ·exact .inl z
 ·intro a hm
  exact p1.hx.none_of (fun z => nomatch z) (fresh_ge (hfp _ hm))
noncomputable def zipD (ds es : List PyData) : List PyData := (ds.zip es).map fun p => .tuple [p.1, p.2]
inductive StZ (c : Cfg) (z TI TO i1 i2 l1 l2 : Addr) (ds es : List PyData) (X : List Addr) (i : Nat) (h : Heap) : Prop
 | mk (a1 : IsZip h z TI TO .none) (a2 : IsPair h TI (.ref i1) (.ref i2)) (u w : Value) (a3 : IsPair h TO u w) (a4 : h.IsListIter i1 l1 i) (a5 : h.IsListIter i2 l2 i) (h1 : l1 ∉ X) (h2 : l2 ∉ X) (vs : List Value) (n : Nat) (h3 : h.get? l1 = some (lstO vs n)) (h4 : RdL c.w X h vs ds) (vs' : List Value) (n' : Nat) (h5 : h.get? l2 = some (lstO vs' n')) (h6 : RdL c.w X h vs' es)
theorem in5 {α : Type} {P : α -> Prop} {a b c d e : α} (h1 : P a) (h2 : P b) (h3 : P c) (h4 : P d) (h5 : P e) : ∀ x ∈ [a, b, c, d, e], P x := fun x hx => by
 rcases lC hx with rfl | hx
 ·exact h1
 rcases lC hx with rfl | hx
 ·exact h2
 rcases lC hx with rfl | hx
 ·exact h3
 rcases lC hx with rfl | hx
 ·exact h4
 ·rw [lS hx]; exact h5
theorem its_zip {z TI TO i1 i2 l1 l2 : Addr} {ds es : List PyData} (D : ZipApart z TI TO i1 i2 l1 l2) (hlen : ds.length = es.length) : ItS c true z [z, TI, TO, i1, i2] (zipD ds es) (StZ c z TI TO i1 i2 l1 l2 ds es) where
 alive := fun X i h st a ha => by
  obtain ⟨a1, a2, _, _, a3, ⟨o4, a4, _⟩, ⟨o5, a5, _⟩⟩ := st
  exact in5 (P := fun a => ∃ o, h.get? a = some o) ⟨_, a1⟩ ⟨_, a2⟩ ⟨_, a3⟩ ⟨_, a4⟩ ⟨_, a5⟩ a ha
 keep := fun X i h h' Y st q hF hy => by
  obtain ⟨a1, a2, u, v, a3, a4, a5, h1, h2, vs, n, h3, h4, vs', n', h3', h4'⟩ := st
  have ex : ∀ a o, a ∈ [z, TI, TO, i1, i2] -> h.get? a = some o -> h'.get? a = some o := fun a o ha e => q.exact (fun y => (hy _ y).2 ha) (fun y => (hF _ y).2 ha) e
  have ex2 : ∀ a o, a ∉ X -> h.get? a = some o -> h'.get? a = some o := fun a o ha e => q.exact (fun y => ha (hy _ y).1) (fun y => ha (hF _ y).1) e
  exact ⟨ex _ _ m0 a1, ex _ _ m1 a2, u, v, ex _ _ m2 a3, a4.at fun o e => ex _ o m3 e, a5.at fun o e => ex _ o m4 e, h1, h2, vs, n, ex2 _ _ h1 h3, h4.hx q (fun a z => (hF a z).1) fun y z => (hy y z).1, vs', n', ex2 _ _ h2 h3', h4'.hx q (fun a z => (hF a z).1) fun y z => (hy y z).1⟩
 wide := fun X X' i h st hy => by
  obtain ⟨a1, a2, _, _, a3, a4, a5, h1, h2, vs, n, h3, h4, vs', n', h3', h4'⟩ := st
  exact ⟨a1, a2, _, _, a3, a4, a5, fun z => (hy _ z).elim h1 fun e => (by rw [e] at h3; cases h3), fun z => (hy _ z).elim h2 fun e => (by rw [e] at h3'; cases h3'), vs, n, h3, h4.wide hy, vs', n', h3', h4'.wide hy⟩
 item := fun A s X i d tg hh ht st hf hF hd => by
  obtain ⟨p, hz⟩ := map_get hd
  obtain ⟨hx, hx'⟩ := List.getElem?_zip_eq_some.mp hz
  obtain ⟨a1, a2, u, w, a3, a4, a5, h1, h2, vs, n, h3, h4, vs', n', h3', h4'⟩ := st
  obtain ⟨v, hv, r⟩ := h4.get _ hx
  obtain ⟨v', hv', r'⟩ := h4'.get _ hx'
  obtain ⟨ts, k, p⟩ := tg_tuple ht
  refine wpAny_pyNext_zip_item D a1 a2 a3 a4 a5 (lstAt h3) (lstAt h3') (x := v) (y := v') (by simpa using hv) (by simpa using hv') fun h' b1 b2 b3 b4 b5 b6 b7 => ⟨_, rfl, wpAny_letOwnedTupleGo_zip b1 fun h'' c1 c2 => ?_⟩
  have hY : ∀ y ∈ [z, TI, TO, i1, i2], y ∈ X := fun y hy => (hf y hy).1
  have q1 : HX c [z, TI, TO, i1, i2] s.heap h' := .of_keep (fun b o hb eb => b7 b o (fun e => hb (e ▸ m0)) (fun e => hb (e ▸ m2)) (fun e => hb (e ▸ m3)) (fun e => hb (e ▸ m4)) eb) (fun y hy => (hf y hy).2.1) fun y hy => (hf y hy).2.2
  have q2 : HX c [z] h' h'' := .sameBut c2 (hf z (.head _)).2.1 (hf z (.head _)).2.2
  have q : HX c [z, TI, TO, i1, i2] s.heap h'' := q1.trans (q2.mono fun y hy => lS hy ▸ .head _)
  have hT : s.heap.objs.size ≠ z := Nat.ne_of_gt (Heap.lt_size a1)
  refine ⟨h'', _, q, ⟨c1, c2.extBut _ _ D.TIz (b7 _ _ D.TIz D.TITO D.TIi1 D.TIi2 a2), _, _, c2.extBut _ _ D.TOz b2, b3.extBut c2.extBut D.i1z, b4.extBut c2.extBut D.i2z, h1, h2, vs, n, q.exact (fun z => h1 (hY _ z)) (fun z => h1 (hF _ z)) h3, h4.hx q hF hY, vs', n', q.exact (fun z => h2 (hY _ z)) (fun z => h2 (hF _ z)) h3', h4'.hx q hF hY⟩, ?_⟩
  exact ⟨s.heap.objs.size, [v, v'], _, ⟨_, c2.extBut _ _ hT b5, rfl, _, rfl⟩, .cons (r.hx q hF hY) (.cons (r'.hx q hF hY) .nil)⟩
 done := fun A s X hh st hf => by
  obtain ⟨a1, a2, u, w, a3, a4, a5, h1, h2, vs, n, h3, h4, vs', n', h3', h4'⟩ := st
  have hl : (zipD ds es).length = ds.length := by simp [zipD, hlen]
  refine wpAny_pyNext_zip_end hh D a1 a2 a3 a4 a5 (lstAt h3) (lstAt h3') (.inl (by simp [h4.length, hl])) fun h' he' => ⟨h', s.toks, ?_⟩
  exact .of_keep (fun b o hb e => he' b o (fun e => hb (e ▸ m0)) (fun e => hb (e ▸ m2)) (fun e => hb (e ▸ m3)) (fun e => hb (e ▸ m4)) e) (fun y hy => (hf y hy).2.1) fun y hy => (hf y hy).2.2
 self := fun A s X i st => wpAny_pyIter_zip st.1 ⟨rfl, rfl⟩
theorem EvI.ofZip {e1 e2 : Expr} {f : Str} {np pos : Pos} {ds es : List PyData} (hg : Glb c f (.type "zip")) (hf : env.kindOf f = some .globalImplicit) (h1 : Ev c l X env Γ e1 (.list ds)) (h2 : Ev c l X env Γ e2 (.list es)) (hlen : ds.length = es.length)
  (hd : (f == ("__debug__" : Str)) = false := by decide) (he : autoParam (starEach [e1, e2] env = (false, eval e1 env) :: starEach [e2] env) aR) (he2 : autoParam (starEach [e2] env = (false, eval e2 env) :: starEach [] env) aR) : EvI c l X env Γ true (.Call (.Name f np) [e1, e2] [] pos) (zipD ds es) := fun A s L G => by
 refine wpAny_Call_ofName (wpAny_Name (hg A _ s env _ G.bas.stays G.globals G.builtins G.kind hf ?_) hd)
 have a := EvA.cons (pos := pos) h1 (.cons h2 .nil he2) he A s L G
 show wpAny c.M A (callWith pos (.type "zip") [] (backTo pos (starEach [e1, e2] env)) []) _ _ s
 rw [he, he2] at a ⊢
 refine callWith_of (P := fun h => c.base.StaysIn h) rfl keep_type (evalArgs_plain (wK a (fun vs s1 q => ?_)))
 obtain ⟨p1, q⟩ := q
 have G1 := G.hx0 p1.hx
 refine ⟨G1.bas.stays, ?_⟩
 have hz := q.two_inv; clear q; obtain ⟨_, _, r, r'⟩ := hz
 have hz := r.list_inv; clear r; obtain ⟨ax, vs, n, ha, ea, q⟩ := hz
 have hz := r'.list_inv; clear r'; obtain ⟨ax', vs', n', ha', ea', q'⟩ := hz
 have hfp : ∀ a, a ∈ ([s1.heap.objs.size + 4, s1.heap.objs.size + 2, s1.heap.objs.size + 3, s1.heap.objs.size, s1.heap.objs.size + 1] : List Nat) -> s1.heap.objs.size <= a := fun a hm => by
  simp at hm
  omega
 have lt : ∀ a o, s1.heap.get? a = some o -> a < s1.heap.objs.size := fun a o e => Heap.lt_size e
 have ne : ∀ k, ax ≠ (s1.heap.objs.size + k : Nat) := fun k => Nat.ne_of_lt (Nat.lt_of_lt_of_le (lt _ _ ea) (Nat.le_add_right ..))
 have ne' : ∀ k, ax' ≠ (s1.heap.objs.size + k : Nat) := fun k => Nat.ne_of_lt (Nat.lt_of_lt_of_le (lt _ _ ea') (Nat.le_add_right ..))
 have D : ZipApart (s1.heap.objs.size + 4 : Nat) (s1.heap.objs.size + 2 : Nat) (s1.heap.objs.size + 3 : Nat) (s1.heap.objs.size : Nat) (s1.heap.objs.size + 1 : Nat) ax ax' := by
  constructor <;> first | exact ne _ | exact ne' _ | exact ne 0 | exact ne' 0 | (show (_ : Nat) ≠ _; omega)
 refine call_zip_2 (lstAt ea) (lstAt ea') fun h' b1 b2 b3 b4 b5 b6 b7 => ?_
 have q1 : HX c [] s1.heap h' := .keep0 b7
 have wd : ∀ {a : Addr} {o : Obj} {vs : List Value} {ds : List PyData}, a ∉ X -> s1.heap.get? a = some o -> RdL c.w X s1.heap vs ds -> a ∉ ([s1.heap.objs.size + 4, s1.heap.objs.size + 2, s1.heap.objs.size + 3, s1.heap.objs.size, s1.heap.objs.size + 1] : List Nat) ++ X /\ RdL c.w (([s1.heap.objs.size + 4, s1.heap.objs.size + 2, s1.heap.objs.size + 3, s1.heap.objs.size, s1.heap.objs.size + 1] : List Nat) ++ X) h' vs ds := fun {a o vs ds} ha ea r => by
  refine ⟨fun hm => ?_, ?_⟩
  ·rcases lA hm with z | z
   ·rw [fresh_ge (hfp _ z)] at ea; cases ea
   ·exact ha z
  ·refine (r.wide fun a hm => ?_).hx0 q1 fun a z => lR _ (G1.bas.frs a z)
   rcases lA hm with z | z
   ·exact .inr (fresh_ge (hfp _ z))
   ·exact .inl z
 refine wpAny_pyIter_zip b1 ⟨p1.trans ⟨h', s1.toks, q1⟩, _, [s1.heap.objs.size + 4, s1.heap.objs.size + 2, s1.heap.objs.size + 3, s1.heap.objs.size, s1.heap.objs.size + 1], StZ c _ _ _ _ _ ax ax' ds es, its_zip D hlen, ⟨b1, b2, _, _, b3, b4, b5, (wd ha ea q).1, (wd ha' ea' q').1, vs, n, b7 _ _ ea, (wd ha ea q).2, vs', n', b7 _ _ ea', (wd ha' ea' q').2⟩, fun a hm => ?_⟩
 exact p1.hx.none_of (fun z => nomatch z) (fresh_ge (hfp _ hm))
end
end
section
structure Res (c : Cfg) where
 fp : List Addr
 P : List Addr -> Heap -> Prop
 alive : ∀ X h, P X h -> ∀ a ∈ fp, ∃ o, h.get? a = some o
 keep : ∀ X h h' Y, P X h -> HX c Y h h' -> (∀ a ∈ c.fr, a ∈ X /\ a ∉ fp) -> (∀ y ∈ Y, y ∈ X /\ y ∉ fp) -> P X h'
 wide : ∀ X X' h, P X h -> (∀ a ∈ X', a ∈ X \/ h.get? a = none) -> P X' h
structure Act where
 c : Cfg
 l : Nat
 env : Env
 N : List Addr
 xs : List Str
 X0 : List Addr
 post : PyData -> List (Res c) -> Prop
noncomputable def resO (c : Cfg) (D : Addr) (d : PyData) : Res c where
 fp := [D]
 P := fun X h => Own1 c X h D d
 alive := fun X h o a ha => lS ha ▸ o.alive
 keep := fun X h h' Y o q hF hy => o.keep q (fun a ha => ⟨(hF a ha).1, fun e => (hF a ha).2 (e ▸ .head _)⟩) fun y h => ⟨(hy y h).1, fun e => (hy y h).2 (e ▸ .head _)⟩
 wide := fun X X' h o hy => o.wide hy
noncomputable def resI {c : Cfg} {pair : Bool} {I : Addr} {fp : List Addr} {ds : List PyData} {St : List Addr -> Nat -> Heap -> Prop} (IT : ItS c pair I fp ds St) (i : Nat) : Res c where
 fp := fp
 P := fun X h => St X i h
 alive := fun X h st => IT.alive X i h st
 keep := fun X h h' Y st q hF hy => IT.keep X i h h' Y st q hF hy
 wide := fun X X' h st hy => IT.wide X X' i h st hy
noncomputable abbrev Ros := List (Str × Addr)
noncomputable abbrev Del (K : Act) := List (Res K.c)
inductive Same (s0 : Shared) : Shared -> Prop
 | mk (h : Heap) (tk : Nat) : Same s0 { s0 with heap := h, toks := tk }
theorem Same.to {s0 s : Shared} {h : Heap} {tk : Nat} (x : Same s0 s) : Same s0 { s with heap := h, toks := tk } := by
 obtain ⟨_, _⟩ := x
 exact ⟨_, _⟩
structure Sat (K : Act) (X : List Addr) (Γ : Gam) (R : Ros) (Δ : Del K) (A : Around) (s0 s : Shared) : Prop where
 same : Same s0 s
 hx : HX K.c [] s0.heap s.heap
 sub : ∀ a ∈ K.X0, a ∈ X
 own : ∀ a ∈ K.N, a ∈ X /\ s0.heap.get? a = none
 env : K.env.locals ∈ K.N /\ ∀ x a, K.env.cells.lookup x = some a -> a ∈ K.N
 good : Good K.c A X K.env Γ s.heap
 tg : TG K.env K.N K.xs s.heap
 names : ∀ p ∈ R, Has K.env s.heap p.1 (.ref p.2)
 res : ∀ r ∈ Δ, r.P X s.heap
 fps : ∀ r ∈ Δ, ∀ a ∈ r.fp, a ∈ X /\ s0.heap.get? a = none /\ a ∉ K.N /\ a ∉ K.c.fr
 apart : Δ.Pairwise fun r r' => ∀ a ∈ r.fp, a ∉ r'.fp
 base : ∀ a, s0.heap.get? a = none -> K.c.base.get? a = none
 lev : Lev K.l A
section
variable {K : Act} {X : List Addr} {Γ Γ' : Gam} {R R' : Ros} {Δ Δ' : Del K} {A : Around} {s0 s s' : Shared}
namespace Sat
theorem weak (S : Sat K X Γ R Δ A s0 s) (hg : ∀ p ∈ Γ', p ∈ Γ) (hr : ∀ p ∈ R', p ∈ R) (hd : List.Sublist Δ' Δ) : Sat K X Γ' R' Δ' A s0 s :=
 { S with good := S.good.sub hg, names := fun p hp => S.names p (hr p hp), res := fun r h => S.res r (hd.subset h), fps := fun r h => S.fps r (hd.subset h), apart := S.apart.sublist hd }
theorem pst (S : Sat K X Γ R Δ A s0 s) (p : Pst K.c s s') : Sat K X Γ R Δ A s0 s' := by
 obtain ⟨h2, t2, q⟩ := p
 exact
 {same := S.same.to
  hx := S.hx.trans q
  sub := S.sub
  own := S.own
  env := S.env
  good := S.good.hx0 q
  tg := S.tg.hx q (fun z => nomatch z) fun _ _ z => nomatch z
  names := fun p hp => (S.names p hp).hx0 q
  res := fun r hr => r.keep _ _ _ [] (S.res r hr) q (fun a ha => ⟨S.good.bas.frs a ha, fun z => (S.fps r hr a z).2.2.2 ha⟩) fun y hy => nomatch hy
  fps := S.fps
  apart := S.apart
  base := S.base
  lev := S.lev }
theorem store (S : Sat K X Γ R Δ A s0 s) {x : Str} {t : Addr} {h' : Heap} {tk : Nat} (ht : t ∈ K.N) (q : HX K.c [t] s.heap h') (kp : Kp K.env s.heap h') (kh : ∀ y u, y ≠ x -> Has K.env s.heap y u -> Has K.env h' y u) (G' : Good K.c A X K.env Γ' h') (hR : ∀ p ∈ R, p.1 ≠ x) : Sat K X Γ' R Δ A s0 { s with heap := h', toks := tk } := by
 exact
 {same := S.same.to
  hx := S.hx.young q fun a ha => (by rw [lS ha]; exact (S.own t ht).2)
  sub := S.sub
  own := S.own
  env := S.env
  good := G'
  tg := S.tg.mono kp
  names := fun p hp => kh p.1 _ (hR p hp) (S.names p hp)
  res := fun r hr => r.keep _ _ _ [t] (S.res r hr) q (fun a ha => ⟨S.good.bas.frs a ha, fun z => (S.fps r hr a z).2.2.2 ha⟩) fun y hy => (by rw [lS hy]; exact ⟨(S.own t ht).1, fun z => (S.fps r hr t z).2.2.1 ht⟩)
  fps := S.fps
  apart := S.apart
  base := S.base
  lev := S.lev }
theorem grow (S : Sat K X Γ R Δ A s0 s) {X' : List Addr} (hs : ∀ a ∈ X', a ∈ X \/ s.heap.get? a = none) (hX : ∀ a ∈ X, a ∈ X') {h' : Heap} {tk : Nat} (q : HX K.c [] s.heap h') (hA : ∀ a ∈ X', ∃ o, h'.get? a = some o) : Sat K X' Γ R Δ A s0 { s with heap := h', toks := tk } := by
 exact
 {same := S.same.to
  hx := S.hx.trans q
  sub := fun a ha => hX a (S.sub a ha)
  own := fun a ha => ⟨hX a (S.own a ha).1, (S.own a ha).2⟩
  env := S.env
  good := S.good.grow q hs hX hA
  tg := S.tg.hx q (fun z => nomatch z) fun _ _ z => nomatch z
  names := fun p hp => (S.names p hp).hx0 q
  res := fun r hr => r.keep _ _ _ [] (r.wide _ _ _ (S.res r hr) hs) q (fun a ha => ⟨hX a (S.good.bas.frs a ha), fun z => (S.fps r hr a z).2.2.2 ha⟩) fun y hy => nomatch hy
  fps := fun r hr a ha => ⟨hX a (S.fps r hr a ha).1, (S.fps r hr a ha).2⟩
  apart := S.apart
  base := S.base
  lev := S.lev }
theorem shrink (S : Sat K X Γ R Δ A s0 s) {X' : List Addr} (hX : ∀ a ∈ X', a ∈ X) (h0 : ∀ a ∈ K.X0, a ∈ X') (hN : ∀ a ∈ K.N, a ∈ X') (hF : ∀ a ∈ K.c.fr, a ∈ X') (hr : ∀ r ∈ Δ, ∀ a ∈ r.fp, a ∈ X') : Sat K X' Γ R Δ A s0 s :=
 { S with
  sub := h0
  own := fun a ha => ⟨hN a ha, (S.own a ha).2⟩
  good := { S.good with
   bas := { S.good.bas with alloc := fun a ha => S.good.bas.alloc a (hX a ha), frs := hF }
   vars := fun p hp => let ⟨v, H, r⟩ := S.good.vars p hp; ⟨v, H, r.sub hX⟩ }
  res := fun r h => r.wide _ _ _ (S.res r h) fun a ha => .inl (hX a ha)
  fps := fun r h a ha => ⟨hr r h a ha, (S.fps r h a ha).2⟩ }
theorem add (S : Sat K X Γ R Δ A s0 s) (r : Res K.c) (h1 : r.P X s.heap) (h2 : ∀ a ∈ r.fp, a ∈ X /\ s0.heap.get? a = none /\ a ∉ K.N /\ a ∉ K.c.fr) (h3 : ∀ r' ∈ Δ, ∀ a ∈ r.fp, a ∉ r'.fp) : Sat K X Γ R (r :: Δ) A s0 s :=
 { S with
  res := fun r' hr => (lC hr).elim (fun e => e ▸ h1) (S.res r')
  fps := fun r' hr => (lC hr).elim (fun e => e ▸ h2) (S.fps r')
  apart := .cons h3 S.apart }
theorem change {r r' : Res K.c} (S : Sat K X Γ R (r :: Δ) A s0 s) {h' : Heap} {tk : Nat} (he : r'.fp = r.fp) (q : HX K.c r.fp s.heap h') (h1 : r'.P X h') : Sat K X Γ R (r' :: Δ) A s0 { s with heap := h', toks := tk } := by
 have hf := S.fps r (.head _)
 have hloc : K.env.locals ∉ r.fp := fun z => (hf _ z).2.2.1 S.env.1
 have hcel : ∀ x a, K.env.cells.lookup x = some a -> a ∉ r.fp := fun x a e z => (hf _ z).2.2.1 (S.env.2 x a e)
 exact
 {same := S.same.to
  hx := S.hx.young q fun a ha => (hf a ha).2.1
  sub := S.sub
  own := S.own
  env := S.env
  good := S.good.mut q (fun y hy => (hf y hy).1) hloc hcel (fun a ha => ha) (fun a ha hr => r'.alive _ _ h1 a (he ▸ hr)) S.good.bas.frs
  tg := S.tg.hx q hloc fun t ht z => (hf t z).2.2.1 ht
  names := fun p hp => (by
   cases S.names p hp with
   | loc k n e => exact .loc k (q.ns hloc n) e
   | cell k l i => exact .cell k l (q.cell (hcel _ _ l) i)
   | free k l i d => exact .free k l (q.cell (hcel _ _ l) i) d)
  res := fun r2 hr => (lC hr).elim (fun e => e ▸ h1) fun hr => r2.keep _ _ _ _ (S.res r2 (.tail _ hr)) q (fun a ha => ⟨S.good.bas.frs a ha, fun z => (S.fps r2 (.tail _ hr) a z).2.2.2 ha⟩) fun y hy => ⟨(hf y hy).1, (List.pairwise_cons.mp S.apart).1 r2 hr y hy⟩
  fps := fun r2 hr => (lC hr).elim (fun e => e ▸ (fun a ha => hf a (he ▸ ha))) fun hr => S.fps r2 (.tail _ hr)
  apart := .cons (fun r2 hr a ha => (List.pairwise_cons.mp S.apart).1 r2 hr a (he ▸ ha)) (List.pairwise_cons.mp S.apart).2
  base := S.base
  lev := S.lev }
end Sat
end
end
section
theorem sub_nil {Γ : Gam} : ∀ p ∈ ([] : Gam), p ∈ Γ := fun _ h => nomatch h
theorem sub_cons {Γ Γ' : Gam} {a : Str × PyData} (h : a ∈ Γ) (t : ∀ p ∈ Γ', p ∈ Γ) : ∀ p ∈ a :: Γ', p ∈ Γ := fun _ hp => (lC hp).elim (fun e => e ▸ h) (t _)
inductive Out (K : Act) where
 | next (Γ : Gam) (R : Ros) (Δ : Del K)
 | brk (Γ : Gam) (R : Ros) (Δ : Del K)
 | cont (Γ : Gam) (R : Ros) (Δ : Del K)
 | ret (d : PyData)
inductive SatO (K : Act) (A : Around) (s0 : Shared) (O : Gam -> Ros -> Del K -> Prop) (s' : Shared) : Prop
 | mk (X : List Addr) (Γ : Gam) (R : Ros) (Δ : Del K) (h : O Γ R Δ) (S : Sat K X Γ R Δ A s0 s') : SatO K A s0 O s'
noncomputable def Post (K : Act) (A : Around) (s0 : Shared) (O : Out K -> Prop) : Flow -> Shared -> Prop
 | .next, s' => SatO K A s0 (fun Γ R Δ => O (.next Γ R Δ)) s'
 | .brk, s' => SatO K A s0 (fun Γ R Δ => O (.brk Γ R Δ)) s'
 | .cont, s' => SatO K A s0 (fun Γ R Δ => O (.cont Γ R Δ)) s'
 | .ret v, s' => ∃ d, O (.ret d) /\ (∃ X Δ, Sat K X [] [] Δ A s0 s' /\ K.post d Δ) /\ Rd K.c.w K.X0 s'.heap v d
noncomputable abbrev Err := Value -> Shared -> Prop
noncomputable def Ex (K : Act) (A : Around) (s0 : Shared) (E : Err) (Γ : Gam) (R : Ros) (Δ : Del K) (ss : List Stmt) (O : Out K -> Prop) : Prop :=
 ∀ s X, Sat K X Γ R Δ A s0 s -> wpAny K.c.M A (execs ss K.env) (Post K A s0 O) E s
noncomputable def EvS (K : Act) (A : Around) (s0 : Shared) (E : Err) (Γ : Gam) (R : Ros) (Δ : Del K) (e : Expr) (d : PyData) : Prop :=
 ∀ s X, Sat K X Γ R Δ A s0 s -> wpAny K.c.M A (eval e K.env) (fun v s' => Sat K X Γ R Δ A s0 s' /\ Rd K.c.w X s'.heap v d) E s
noncomputable def EtS (K : Act) (A : Around) (s0 : Shared) (E : Err) (Γ : Gam) (R : Ros) (Δ : Del K) (e : Expr) (b : Bool) : Prop :=
 ∀ s X, Sat K X Γ R Δ A s0 s -> wpAny K.c.M A (isTrue e K.env (eval e K.env)) (fun r s' => r = b /\ Sat K X Γ R Δ A s0 s') E s
section
variable {K : Act} {A : Around} {s0 : Shared} {E : Err} {X : List Addr} {Γ Γ' : Gam} {R R' : Ros} {Δ Δ' : Del K} {ss : List Stmt} {O O' : Out K -> Prop} {s : Shared}
theorem EvS.of {e : Expr} {d : PyData} (h : ∀ X, Ev K.c K.l X K.env Γ e d) : EvS K A s0 E Γ R Δ e d := fun s X S =>
 (h X).use S.lev S.good fun v s' p r _ => ⟨S.pst p, r⟩
theorem EtS.of {e : Expr} {b : Bool} (h : ∀ X, Et K.c K.l X K.env Γ e b) : EtS K A s0 E Γ R Δ e b := fun s X S =>
 noE_any (wK (h X A s S.lev S.good) (fun r s' q => ⟨q.1, S.pst q.2⟩))
theorem EvS.go {e : Expr} {d : PyData} (h : EvS K A s0 E Γ R Δ e d) (S : Sat K X Γ R Δ A s0 s) {Q : Value -> Shared -> Prop} (k : ∀ v s', Sat K X Γ R Δ A s0 s' -> Rd K.c.w X s'.heap v d -> Q v s') : wpAny K.c.M A (eval e K.env) Q E s := wK (h s X S) (fun v s' q => k v s' q.1 q.2)
theorem EtS.go {e : Expr} {b : Bool} (h : EtS K A s0 E Γ R Δ e b) (S : Sat K X Γ R Δ A s0 s) {Q : Bool -> Shared -> Prop} (k : ∀ s', Sat K X Γ R Δ A s0 s' -> Q b s') : wpAny K.c.M A (isTrue e K.env (eval e K.env)) Q E s := wK (h s X S) (fun r s' q => q.1 ▸ k s' q.2)
theorem P2.at {t : Value -> Value -> Sem Value} {d1 d2 d : PyData} {v1 v2 : Value} (h : P2 K.c t d1 d2 d) (S : Sat K X Γ R Δ A s0 s) (r1 : Rd K.c.w X s.heap v1 d1) (r2 : Rd K.c.w X s.heap v2 d2) {Q : Value -> Shared -> Prop} (k : ∀ v s', Sat K X Γ R Δ A s0 s' -> Rd K.c.w X s'.heap v d -> Q v s') : wpAny K.c.M A (t v1 v2) Q E s :=
 wM (h K.l A X s v1 v2 S.lev S.good.bas r1 r2) (fun v s' q => k v s' (S.pst q.1) q.2) fun _ _ f => f.elim
theorem without {X : List Addr} {D : Addr} : ∀ a ∈ X.filter (· ≠ D), a ∈ X := fun a ha => (List.mem_filter.mp ha).1
theorem not_without {X : List Addr} {D : Addr} : D ∉ X.filter (· ≠ D) := fun z => by simpa using (List.mem_filter.mp z).2
theorem in_without {X : List Addr} {D a : Addr} (h : a ∈ X) (hn : a ≠ D) : a ∈ X.filter (· ≠ D) := List.mem_filter.mpr ⟨h, by simpa using hn⟩
theorem Sat.freeze {x : Str} {D : Addr} {d : PyData} (S : Sat K X Γ ((x, D) :: R) (resO K.c D d :: Δ) A s0 s) (h0 : s0.heap.get? D = none -> D ∉ K.X0) : Sat K (X.filter (· ≠ D)) ((x, d) :: Γ) R Δ A s0 s := by
 have fq := S.fps _ (.head _) D (.head _)
 have S1 : Sat K X Γ R Δ A s0 s := S.weak (fun _ h => h) (fun _ h => .tail _ h) (List.sublist_cons_self ..)
 have S2 : Sat K (X.filter (· ≠ D)) Γ R Δ A s0 s := S1.shrink without (fun a ha => in_without (S.sub a ha) fun e => h0 fq.2.1 (e ▸ ha)) (fun a ha => in_without (S.own a ha).1 fun e => fq.2.2.1 (e ▸ ha)) (fun a ha => in_without (S.good.bas.frs a ha) fun e => fq.2.2.2 (e ▸ ha))
  fun r hr a ha => in_without (S1.fps r hr a ha).1 fun e => (List.pairwise_cons.mp S.apart).1 r hr D (.head _) (e ▸ ha)
 exact { S2 with good := { S2.good with vars := fun p hp => (lC hp).elim (fun e => ⟨.ref D, by rw [e]; exact S.names _ (.head _), by rw [e]; exact (S.res _ (.head _)).rd not_without without⟩) (S2.good.vars p) } }
theorem Sat.x0 (S : Sat K X Γ R Δ A s0 s) (hx : ∀ a ∈ K.X0, ∃ o, s0.heap.get? a = some o) {D : Addr} : s0.heap.get? D = none -> D ∉ K.X0 := fun e z => by
 obtain ⟨o, e'⟩ := hx D z
 rw [e] at e'; cases e'
noncomputable abbrev X0ok (K : Act) (s0 : Shared) : Prop := ∀ a ∈ K.X0, ∃ o, s0.heap.get? a = some o
theorem Ex.freeze {x : Str} {D : Addr} {d : PyData} (hx : X0ok K s0) (h : Ex K A s0 E ((x, d) :: Γ) R Δ ss O) : Ex K A s0 E Γ ((x, D) :: R) (resO K.c D d :: Δ) ss O := fun s X S => h s _ (S.freeze (S.x0 hx))
theorem Ex.weak (hg : ∀ p ∈ Γ', p ∈ Γ) (hr : ∀ p ∈ R', p ∈ R) (hd : List.Sublist Δ' Δ) (h : Ex K A s0 E Γ' R' Δ' ss O) : Ex K A s0 E Γ R Δ ss O := fun s X S => h s X (S.weak hg hr hd)
theorem Ex.nil (h : O (.next Γ R Δ)) : Ex K A s0 E Γ R Δ [] O := fun s X S => wpAny_execs_nil ⟨X, Γ, R, Δ, h, S⟩
noncomputable def Ex1 (K : Act) (A : Around) (s0 : Shared) (E : Err) (Γ : Gam) (R : Ros) (Δ : Del K) (st : Stmt) (O : Out K -> Prop) : Prop :=
 ∀ s X, Sat K X Γ R Δ A s0 s -> wpAny K.c.M A (exec st K.env) (Post K A s0 O) E s
theorem Ex.cons {st : Stmt} (O1 : Out K -> Prop) (h : Ex1 K A s0 E Γ R Δ st O1) (hn : ∀ Γ R Δ, O1 (.next Γ R Δ) -> Ex K A s0 E Γ R Δ ss O) (hb : ∀ Γ R Δ, O1 (.brk Γ R Δ) -> O (.brk Γ R Δ)) (hc : ∀ Γ R Δ, O1 (.cont Γ R Δ) -> O (.cont Γ R Δ)) (hr : ∀ d, O1 (.ret d) -> O (.ret d)) : Ex K A s0 E Γ R Δ (st :: ss) O := fun s X S =>
 wpAny_execs_cons (wK (h s X S) (fun f s' hp => by
  cases f with
  | next => obtain ⟨X, Γ, R, Δ, o, S'⟩ := hp; exact hn _ _ _ o s' X S'
  | brk => obtain ⟨X, Γ, R, Δ, o, S'⟩ := hp; exact ⟨X, Γ, R, Δ, hb _ _ _ o, S'⟩
  | cont => obtain ⟨X, Γ, R, Δ, o, S'⟩ := hp; exact ⟨X, Γ, R, Δ, hc _ _ _ o, S'⟩
  | ret v => obtain ⟨d, o, S'⟩ := hp; exact ⟨d, hr _ o, S'⟩))
theorem Post.mono {O' : Out K -> Prop} (h : ∀ o, O' o -> O o) {f : Flow} {s' : Shared} (hp : Post K A s0 O' f s') : Post K A s0 O f s' := by
 cases f with
 | next => obtain ⟨X, Γ, R, Δ, o, S'⟩ := hp; exact ⟨X, Γ, R, Δ, h _ o, S'⟩
 | brk => obtain ⟨X, Γ, R, Δ, o, S'⟩ := hp; exact ⟨X, Γ, R, Δ, h _ o, S'⟩
 | cont => obtain ⟨X, Γ, R, Δ, o, S'⟩ := hp; exact ⟨X, Γ, R, Δ, h _ o, S'⟩
 | ret v => obtain ⟨d, o, S'⟩ := hp; exact ⟨d, h _ o, S'⟩
noncomputable abbrev nextO (Γ : Gam) (R : Ros) (Δ : Del K) : Out K -> Prop := fun o => o = .next Γ R Δ
theorem Ex.weaken {ss : List Stmt} (h : Ex K A s0 E Γ R Δ ss O') (ho : ∀ o, O' o -> O o) : Ex K A s0 E Γ R Δ ss O := fun s X S =>
 wK (h s X S) (fun _ _ hp => hp.mono ho)
theorem Ex.seq {st : Stmt} {Γ1 : Gam} {R1 : Ros} {Δ1 : Del K} (h : Ex1 K A s0 E Γ R Δ st (nextO Γ1 R1 Δ1)) (hn : Ex K A s0 E Γ1 R1 Δ1 ss O) : Ex K A s0 E Γ R Δ (st :: ss) O :=
 .cons _ h (fun _ _ _ e => by cases e; exact hn) (fun _ _ _ e => nomatch e) (fun _ _ _ e => nomatch e) fun _ e => nomatch e
theorem Sat.assign {x : Str} {d : PyData} {v : Value} {Q : Unit -> Shared -> Prop} (S : Sat K X Γ R Δ A s0 s) (hx : x ∈ K.xs) (hR : ∀ p ∈ R, p.1 ≠ x) (r : Rd K.c.w X s.heap v d)
  (k : ∀ s', Sat K X ((x, d) :: Γ.filter fun p => p.1 != x) R Δ A s0 s' -> Q () s') : wpAny K.c.M A (storeName K.env x v) Q E s := by
 obtain ⟨t, ht, T⟩ := S.tg.2 x hx
 exact store_ok S.good T (S.own t ht).1 (S.base t (S.own t ht).2) r fun h' tk q _ _ kp kh G' => k _ (S.store ht q kp kh G' hR)
theorem Ex1.assign {x : Str} {px pos : Pos} {e : Expr} {d : PyData} (h : EvS K A s0 E Γ R Δ e d) (hx : x ∈ K.xs) (hR : ∀ p ∈ R, p.1 ≠ x) (hs : autoParam (swapsWith e (some (.Name x px)) pos.line K.env = pure false) aR) :
  Ex1 K A s0 E Γ R Δ (.Assign [.Name x px] e pos) (nextO ((x, d) :: Γ.filter fun p => p.1 != x) R Δ) := fun s X S =>
 wpAny_Assign_Name (h.go S fun v s' S1 r => S1.assign hx hR r fun s' S' => ⟨X, _, _, _, rfl, S'⟩) hs
noncomputable abbrev PostOk (K : Act) (d : PyData) (Δ : Del K) : Prop := ∃ Δ', List.Sublist Δ' Δ /\ K.post d Δ'
theorem Ex1.ret {pos : Pos} {e : Expr} {d : PyData} (h : EvS K A s0 E Γ R Δ e d) (hp : PostOk K d Δ := by exact ⟨[], List.nil_sublist _, trivial⟩) : Ex1 K A s0 E Γ R Δ (.Return (some e) pos) (fun o => o = .ret d) := fun s X S =>
 wpAny_Return_some (wK (h s X S) (fun v s' q => let ⟨Δ', h1, h2⟩ := hp; ⟨d, rfl, ⟨X, Δ', q.1.weak (fun _ z => nomatch z) (fun _ z => nomatch z) h1, h2⟩, q.2.sub q.1.sub⟩))
theorem Ex.ret {pos : Pos} {e : Expr} {d : PyData} (h : EvS K A s0 E Γ R Δ e d) (ho : O (.ret d)) (hp : PostOk K d Δ := by exact ⟨[], List.nil_sublist _, trivial⟩) : Ex K A s0 E Γ R Δ (.Return (some e) pos :: ss) O :=
 .cons _ (.ret h hp) (fun _ _ _ e => nomatch e) (fun _ _ _ e => nomatch e) (fun _ _ _ e => nomatch e) fun d' e => by cases e; exact ho
theorem Ex1.ite {test : Expr} {body orelse : List Stmt} {pos : Pos} {b : Bool} (ht : EtS K A s0 E Γ R Δ test b) (h1 : b = true -> Ex K A s0 E Γ R Δ body O) (h2 : b = false -> Ex K A s0 E Γ R Δ orelse O) : Ex1 K A s0 E Γ R Δ (.If test body orelse pos) O := fun s X S =>
 wpAny_If (ht.go S fun s' S' => by
  cases b with
  | true => exact h1 rfl s' X S'
  | false => exact h2 rfl s' X S')
theorem Ex.brk {pos : Pos} (h : O (.brk Γ R Δ)) : Ex K A s0 E Γ R Δ (.Break pos :: ss) O := fun s X S => wpAny_execs_cons (fun _ _ _ => ⟨X, Γ, R, Δ, h, S⟩)
theorem Ex.cont {pos : Pos} (h : O (.cont Γ R Δ)) : Ex K A s0 E Γ R Δ (.Continue pos :: ss) O := fun s X S => wpAny_execs_cons (fun _ _ _ => ⟨X, Γ, R, Δ, h, S⟩)
end
section
variable {K : Act} {r : Res K.c} {Inv : Gam -> Ros -> Del K -> Prop} {InvN : Nat -> Gam -> Ros -> Del K -> Prop} {O : Out K -> Prop} {n : Nat} {o : Out K}
noncomputable def TurnF.out (r : Res K.c) (Inv : Gam -> Ros -> Del K -> Prop) (O : Out K -> Prop) : Out K -> Prop
 | .next Γ R Δ => ∃ Δ', Δ = r :: Δ' /\ Inv Γ R Δ'
 | .cont Γ R Δ => ∃ Δ', Δ = r :: Δ' /\ Inv Γ R Δ'
 | .brk Γ R Δ => ∃ Δ', Δ = r :: Δ' /\ O (.next Γ R Δ')
 | .ret d => O (.ret d)
theorem turnF (h : (∃ Γ' R' Δ', (o = .next Γ' R' (r :: Δ') \/ o = .cont Γ' R' (r :: Δ')) /\ Inv Γ' R' Δ') \/ (∃ Γ' R' Δ', o = .brk Γ' R' (r :: Δ') /\ O (.next Γ' R' Δ')) \/ ∃ d, o = .ret d /\ O (.ret d)) : TurnF.out r Inv O o := by
 rcases h with ⟨_, _, Δ', rfl | rfl, h⟩ | ⟨_, _, Δ', rfl, h⟩ | ⟨_, rfl, h⟩
 ·exact ⟨Δ', rfl, h⟩
 ·exact ⟨Δ', rfl, h⟩
 ·exact ⟨Δ', rfl, h⟩
 ·exact h
noncomputable def TurnW.out (Inv : Nat -> Gam -> Ros -> Del K -> Prop) (O : Out K -> Prop) (n : Nat) : Out K -> Prop
 | .next Γ R Δ => ∃ m, m < n /\ Inv m Γ R Δ
 | .cont Γ R Δ => ∃ m, m < n /\ Inv m Γ R Δ
 | .brk Γ R Δ => O (.next Γ R Δ)
 | .ret d => O (.ret d)
theorem turnW (h : (∃ m Γ' R' Δ', m < n /\ (o = .next Γ' R' Δ' \/ o = .cont Γ' R' Δ') /\ InvN m Γ' R' Δ') \/ (∃ Γ' R' Δ', o = .brk Γ' R' Δ' /\ O (.next Γ' R' Δ')) \/ ∃ d, o = .ret d /\ O (.ret d)) : TurnW.out InvN O n o := by
 rcases h with ⟨m, _, _, _, hm, rfl | rfl, h⟩ | ⟨_, _, _, rfl, h⟩ | ⟨_, rfl, h⟩
 ·exact ⟨m, hm, h⟩
 ·exact ⟨m, hm, h⟩
 ·exact h
 ·exact h
end
end
section
section
variable {K : Act} {A : Around} {s0 : Shared} {E : Err} {X : List Addr} {Γ Γ' : Gam} {R R' : Ros} {Δ Δ' : Del K} {ss : List Stmt} {O O' : Out K -> Prop} {s : Shared}
theorem Sat.off (S : Sat K X Γ R Δ A s0 s) {D : Addr} (h : s.heap.get? D = none) : D ∉ X /\ s0.heap.get? D = none /\ D ∉ K.N /\ D ∉ K.c.fr /\ ∀ r ∈ Δ, D ∉ r.fp := by
 have hX : D ∉ X := fun z => by
  obtain ⟨o, e⟩ := S.good.bas.alloc D z
  rw [h] at e; cases e
 exact ⟨hX, S.hx.none_of (fun z => nomatch z) h, fun z => hX (S.own D z).1, fun z => hX (S.good.bas.frs D z), fun r hr z => hX (S.fps r hr D z).1⟩
theorem Sat.take (S : Sat K X Γ R Δ A s0 s) {s' : Shared} (p : Pst K.c s s') {D : Addr} {d : PyData} (hD : s.heap.get? D = none) (o : Own1 K.c (D :: X) s'.heap D d) : Sat K (D :: X) Γ R (resO K.c D d :: Δ) A s0 s' := by
 have fq := S.off hD
 obtain ⟨h', tk, q⟩ := p
 have S' : Sat K (D :: X) Γ R Δ A s0 { s with heap := h', toks := tk } := S.grow (fun a ha => (lC ha).elim (fun e => .inr (e ▸ hD)) .inl) (fun a ha => .tail _ ha) q fun a ha => (lC ha).elim (fun e => e ▸ o.alive) fun z => q.alive (fun z => nomatch z) (S.good.bas.alloc a z)
 exact S'.add (resO K.c D d) o (fun a ha => by rw [lS ha]; exact ⟨.head _, fq.2.1, fq.2.2.1, fq.2.2.2.1⟩) fun r hr a ha => by rw [lS ha]; exact fq.2.2.2.2 r hr
theorem Sat.assignR {x : Str} {D : Addr} {Q : Unit -> Shared -> Prop} (S : Sat K X Γ R Δ A s0 s) (hx : x ∈ K.xs)
  (k : ∀ h' tk t, t ∈ K.N -> HX K.c [t] s.heap h' -> Sat K X (Γ.filter fun p => p.1 != x) ((x, D) :: R.filter fun p => p.1 != x) Δ A s0 { s with heap := h', toks := tk } -> Q () { s with heap := h', toks := tk }) : wpAny K.c.M A (storeName K.env x (.ref D)) Q E s := by
 obtain ⟨t, ht, T⟩ := S.tg.2 x hx
 refine store_raw S.good T (S.own t ht).1 (S.base t (S.own t ht).2) fun h' tk q _ _ kp kh H G' => k h' tk t ht q ?_
 have S1 : Sat K X Γ (R.filter fun p => p.1 != x) Δ A s0 s := S.weak (fun _ h => h) (fun p hp => (List.mem_filter.mp hp).1) (List.Sublist.refl _)
 have S2 := S1.store (tk := tk) ht q kp kh G' fun p hp => by simpa using (List.mem_filter.mp hp).2
 exact { S2 with names := fun p hp => (lC hp).elim (fun e => e ▸ H) (S2.names p) }
theorem Ex.assignF {x : Str} {px pos : Pos} {e : Expr} {d : PyData} (h : ∀ X, EvF K.c K.l X K.env Γ e d) (hx : x ∈ K.xs)
  (k : ∀ D, Ex K A s0 E (Γ.filter fun p => p.1 != x) ((x, D) :: R.filter fun p => p.1 != x) (resO K.c D d :: Δ) ss O) (hs : autoParam (swapsWith e (some (.Name x px)) pos.line K.env = pure false) aR) :
  Ex K A s0 E Γ R Δ (.Assign [.Name x px] e pos :: ss) O := fun s X S =>
 wpAny_execs_cons (wpAny_Assign_Name (noE_any (wK (h X A s S.lev S.good) (fun v s' q => by
  obtain ⟨p, D, hD, o⟩ := q
  exact (S.take p hD o).assignR hx fun h' tk t _ _ S' => k D _ _ S'))) hs)
theorem Sat.gone (S : Sat K X Γ R Δ A s0 s) {Y : List Addr} {h' : Heap} {tk : Nat} (hY : ∀ y ∈ Y, y ∈ X /\ s0.heap.get? y = none /\ y ∉ K.X0 /\ y ∉ K.N /\ y ∉ K.c.fr /\ ∀ r ∈ Δ, y ∉ r.fp) (q : HX K.c Y s.heap h') : Sat K (X.filter (· ∉ Y)) Γ R Δ A s0 { s with heap := h', toks := tk } := by
 have hloc : K.env.locals ∉ Y := fun z => (hY _ z).2.2.2.1 S.env.1
 have hcel : ∀ x a, K.env.cells.lookup x = some a -> a ∉ Y := fun x a e z => (hY _ z).2.2.2.1 (S.env.2 x a e)
 have wo : ∀ a ∈ X.filter (· ∉ Y), a ∈ X := fun a ha => (List.mem_filter.mp ha).1
 have nw : ∀ a ∈ X.filter (· ∉ Y), a ∉ Y := fun a ha => by simpa using (List.mem_filter.mp ha).2
 have iw : ∀ a, a ∈ X -> a ∉ Y -> a ∈ X.filter (· ∉ Y) := fun a ha hn => List.mem_filter.mpr ⟨ha, by simpa using hn⟩
 have hF : ∀ a ∈ K.c.fr, a ∈ X.filter (· ∉ Y) := fun a ha => iw a (S.good.bas.frs a ha) fun e => (hY a e).2.2.2.2.1 ha
 exact
 {same := S.same.to
  hx := S.hx.young q fun a ha => (hY a ha).2.1
  sub := fun a ha => iw a (S.sub a ha) fun e => (hY a e).2.2.1 ha
  own := fun a ha => ⟨iw a (S.own a ha).1 fun e => (hY a e).2.2.2.1 ha, (S.own a ha).2⟩
  env := S.env
  good := S.good.mut q (fun y hy => (hY y hy).1) hloc hcel wo (fun a ha hc => absurd hc (nw a ha)) hF
  tg := S.tg.hx q hloc fun t ht z => (hY t z).2.2.2.1 ht
  names := fun p hp => (by
   cases S.names p hp with
   | loc k n e => exact .loc k (q.ns hloc n) e
   | cell k l i => exact .cell k l (q.cell (hcel _ _ l) i)
   | free k l i d => exact .free k l (q.cell (hcel _ _ l) i) d)
  res := fun r h => r.wide _ _ _ (r.keep _ _ _ Y (S.res r h) q (fun a ha => ⟨S.good.bas.frs a ha, fun z => (S.fps r h a z).2.2.2 ha⟩) fun y hy => ⟨(hY y hy).1, (hY y hy).2.2.2.2.2 r h⟩) fun a ha => .inl (wo a ha)
  fps := fun r h a ha => ⟨iw a (S.fps r h a ha).1 fun e => (hY a e).2.2.2.2.2 r h ha, (S.fps r h a ha).2⟩
  apart := S.apart
  base := S.base
  lev := S.lev }
theorem Sat.drop {r : Res K.c} (S : Sat K X Γ R (r :: Δ) A s0 s) (hx0 : X0ok K s0) {h' : Heap} {tk : Nat} (q : HX K.c r.fp s.heap h') : Sat K (X.filter (· ∉ r.fp)) Γ R Δ A s0 { s with heap := h', toks := tk } := by
 have S1 : Sat K X Γ R Δ A s0 s := S.weak (fun _ h => h) (fun _ h => h) (List.sublist_cons_self ..)
 exact S1.gone (fun y hy => by
  have fq := S.fps r (.head _) y hy
  exact ⟨fq.1, fq.2.1, S.x0 hx0 fq.2.1, fq.2.2.1, fq.2.2.2, fun r' hr => (List.pairwise_cons.mp S.apart).1 r' hr y hy⟩) q
theorem Ex.assignC {x : Str} {px pos : Pos} {e : Expr} {d : PyData} (h : ∀ X, EvC K.c K.l X K.env Γ e d) (hx : x ∈ K.xs) (hx0 : X0ok K s0)
  (k : ∀ D, Ex K A s0 E (Γ.filter fun p => p.1 != x) ((x, D) :: R.filter fun p => p.1 != x) (resO K.c D d :: Δ) ss O) (hs : autoParam (swapsWith e (some (.Name x px)) pos.line K.env = pure true) aR) :
  Ex K A s0 E Γ R Δ (.Assign [.Name x px] e pos :: ss) O := fun s X S => by
 refine wpAny_execs_cons ?_
 rw [exec_Assign_Name_used _ _ _ _ hs]
 refine wB (wpAny_standAt (wB ?_))
 rw [((h X).1 _).2]
 refine wB (noE_any (wK ((h X).2 A s (some (assign (.Name x px) K.env)) (fun _ s' => wpAny K.c.M A (execs ss K.env) (Post K A s0 O) E s') S.lev S.good fun s5 D XL C p hX hD hC hDX hCX hCD hF o hm => ?_) (fun _ _ q => wP (wP q))))
 ·obtain ⟨m, hm⟩ := hm
  have fq := S.off hD
  have gq := S.off hC
  obtain ⟨h5, tk5, q5⟩ := p
  have S5 : Sat K (C :: D :: X) Γ R Δ A s0 { s with heap := h5, toks := tk5 } := by
   refine S.grow (fun a ha => ?_) (fun a ha => .tail _ (.tail _ ha)) q5 fun a ha => ?_
   ·rcases lC ha with rfl | ha
    ·exact .inr hC
    ·exact (lC ha).elim (fun e => .inr (e ▸ hD)) .inl
   ·rcases lC ha with rfl | ha
    ·obtain ⟨o, e, _⟩ := ns_alive hm; exact ⟨o, e⟩
    ·exact (lC ha).elim (fun e => e ▸ o.alive) fun z => q5.alive (fun z => nomatch z) (S.good.bas.alloc a z)
  have o' : Own1 K.c (C :: D :: X) h5 D d := o.wide fun a ha => by
   rcases lC ha with rfl | ha
   ·exact .inl hCX
   ·exact .inl ((lC ha).elim (fun e => e ▸ hDX) (hX a))
  have S6 := S5.add (resO K.c D d) o' (fun a ha => by rw [lS ha]; exact ⟨.tail _ (.head _), fq.2.1, fq.2.2.1, fq.2.2.2.1⟩) fun r hr a ha => by rw [lS ha]; exact fq.2.2.2.2 r hr
  refine wpAny_assign_Name (S6.assignR hx fun h6 tk6 t ht q6 S7 => ?_)
  have hCt : C ∉ [t] := fun z => gq.2.2.1 (lS z ▸ ht)
  refine ⟨m, q6.ns hCt hm, fun h7 hs7 => ?_⟩
  have q7 : HX K.c [C] h6 h7 := .sameBut hs7 (S.base C gq.2.1) gq.2.2.2.1
  exact k D _ _ (S7.gone (Y := [C]) (tk := tk6) (fun y hy => (by rw [lS hy]; exact ⟨.head _, gq.2.1, S.x0 hx0 gq.2.1, gq.2.2.1, gq.2.2.2.1, fun r hr => (lC hr).elim (fun e => by subst e; exact fun z => hCD (lS z)) (gq.2.2.2.2 r)⟩)) q7)
inductive ItsP (K : Act) (A : Around) (s0 : Shared) (Γ : Gam) (R : Ros) (Δ : Del K) (pair : Bool) (ds : List PyData) : Value -> Shared -> Prop
 | mk (I : Addr) (fp : List Addr) (St : List Addr -> Nat -> Heap -> Prop) (X' : List Addr) (s2 : Shared) (IT : ItS K.c pair I fp ds St) (S : Sat K X' Γ R (resI IT 0 :: Δ) A s0 s2) : ItsP K A s0 Γ R Δ pair ds (.ref I) s2
noncomputable def EvIS (K : Act) (A : Around) (s0 : Shared) (E : Err) (Γ : Gam) (R : Ros) (Δ : Del K) (pair : Bool) (e : Expr) (ds : List PyData) : Prop :=
 ∀ s X, Sat K X Γ R Δ A s0 s -> wpAny K.c.M A (eval e K.env) (fun x s1 => wpAny K.c.M A (pyIter x) (ItsP K A s0 Γ R Δ pair ds) E s1) E s
theorem EvIS.of {pair : Bool} {e : Expr} {ds : List PyData} (h : ∀ X, EvI K.c K.l X K.env Γ pair e ds) : EvIS K A s0 E Γ R Δ pair e ds := fun s X S =>
 noE_any (wK (h X A s S.lev S.good) (fun x s1 hx => noE_any (wK hx (fun it s2 hx => by
  obtain ⟨p, I, fp, St, IT, st, hfp⟩ := hx
  obtain ⟨h2, tk2, q2⟩ := p
  have fpa : ∀ a ∈ fp, ∃ o, h2.get? a = some o := IT.alive _ _ _ st
  have S2 : Sat K (fp ++ X) Γ R Δ A s0 { s with heap := h2, toks := tk2 } := S.grow (fun a ha => (lA ha).elim (fun z => .inr (hfp a z)) .inl) (fun a ha => lR _ ha) q2 fun a ha => (lA ha).elim (fpa a) fun z => q2.alive (fun z => nomatch z) (S.good.bas.alloc a z)
  refine ⟨I, fp, St, fp ++ X, _, IT, S2.add (resI IT 0) st (fun a ha => ?_) fun r hr a ha => (S.off (hfp a ha)).2.2.2.2 r hr⟩
  have fq := S.off (hfp a ha)
  exact ⟨lL _ ha, fq.2.1, fq.2.2.1, fq.2.2.2.1⟩))))
theorem Sat.bind {pair : Bool} {tg : Expr} {xs : List Str} {d : PyData} {Γd : Gam} {v : Value} (B : Bind2 pair tg d xs Γd) (S : Sat K X Γ R Δ A s0 s) (hv : ItV K.c pair X s.heap v d) (hsub : ∀ x ∈ xs, x ∈ K.xs) (ho : offN xs Γ) (hR : ∀ p ∈ R, p.1 ∉ xs) :
  wpAny K.c.M A (PySem.assign tg K.env v) (fun _ s' => Sat K X (Γd ++ Γ) R Δ A s0 s') E s :=
 noE_any (assign_ok B S.good hv (fun a ha => ⟨(S.own a ha).1, S.base a (S.own a ha).2⟩) (S.tg.sub hsub) ho fun h' tk q kp kh G' =>
  {same := S.same.to
   hx := S.hx.young q fun a ha => (S.own a ha).2
   sub := S.sub
   own := S.own
   env := S.env
   good := G'
   tg := S.tg.mono kp
   names := fun p hp => kh p.1 _ (hR p hp) (S.names p hp)
   res := fun r hr => r.keep _ _ _ K.N (S.res r hr) q (fun a ha => ⟨S.good.bas.frs a ha, fun z => (S.fps r hr a z).2.2.2 ha⟩) fun y hy => ⟨(S.own y hy).1, fun z => (S.fps r hr y z).2.2.1 hy⟩
   fps := S.fps
   apart := S.apart
   base := S.base
   lev := S.lev })
inductive ForI (K : Act) (A : Around) (s0 : Shared) (r : Nat -> Res K.c) (Inv : Nat -> Gam -> Ros -> Del K -> Prop) (L n : Nat) (s : Shared) : Prop
 | mk (i : Nat) (X : List Addr) (Γ : Gam) (R : Ros) (Δ : Del K) (hn : n + i = L) (inv : Inv i Γ R Δ) (S : Sat K X Γ R (r i :: Δ) A s0 s)
theorem Ex1.for {pair : Bool} {tg iter : Expr} {body : List Stmt} {pos : Pos} {ds : List PyData} {xs : List Str} {Γd : PyData -> Gam} (Inv : Nat -> Gam -> Ros -> Del K -> Prop) (O : Out K -> Prop)
  (hI : EvIS K A s0 E Γ R Δ pair iter ds) (hB : ∀ d ∈ ds, Bind2 pair tg d xs (Γd d)) (hsub : ∀ x ∈ xs, x ∈ K.xs)
  (h0 : Inv 0 Γ' R' Δ') (hg : ∀ p ∈ Γ', p ∈ Γ) (hr : ∀ p ∈ R', p ∈ R) (hd' : List.Sublist Δ' Δ) (hx0 : X0ok K s0)
  (hoff : ∀ i Γ R Δ, Inv i Γ R Δ -> offN xs Γ /\ ∀ p ∈ R, p.1 ∉ xs)
  (hb : ∀ i d Γ R Δ (r : Res K.c), ds[i]? = some d -> Inv i Γ R Δ -> Ex K A s0 E (Γd d ++ Γ) R (r :: Δ) body fun o => (∃ Γ' R' Δ', (o = .next Γ' R' (r :: Δ') \/ o = .cont Γ' R' (r :: Δ')) /\ Inv (i + 1) Γ' R' Δ') \/ (∃ Γ' R' Δ', o = .brk Γ' R' (r :: Δ') /\ O (.next Γ' R' Δ')) \/ ∃ d, o = .ret d /\ O (.ret d))
  (hend : ∀ Γ R Δ, Inv ds.length Γ R Δ -> O (.next Γ R Δ))
  (htg : TgI pair tg := by constructor) (hfold : ∀ x, foldedSetIterable iter K.env x = pure x := by intro _; rfl) (hE : PassesOwn K.c.M A K.env E := by exact fun _ _ f => f.elim) :
  Ex1 K A s0 E Γ R Δ (.For tg iter body [] pos) O := fun s X S => by
 refine wpAny_For (wK (hI s X S) (fun x s1 hx => wK hx (fun it s2 hx => ?_))) hfold
 obtain ⟨I, fp, St, X2, _, IT, S2⟩ := hx
 refine loopG rfl (fun n s' => ForI K A s0 (resI IT) Inv ds.length n s') (fun n s' Q hI' hn hd' hc => ?_) ds.length ⟨0, X2, Γ', R', Δ', rfl, h0, S2.weak hg hr (hd'.cons_cons _)⟩
 obtain ⟨i, X4, Γ4, R4, Δ4, hni, inv, S4⟩ := hI'
 show wpAny K.c.M A ((forTurn tg (.ref I) body [] K.env).onRaise (fun x => do noteFrame x K.env; theTreesLotGoes x)) _ _ s'
 refine wpAny_noted ?_
 simp only [forTurn]
 have hf4 := S4.fps _ (.head _)
 have hfp : ∀ a ∈ fp, a ∈ X4 /\ K.c.base.get? a = none /\ a ∉ K.c.fr := fun a ha => ⟨(hf4 a ha).1, S.base a (hf4 a ha).2.1, (hf4 a ha).2.2.2⟩
 have st4 : St X4 i s'.heap := S4.res _ (.head _)
 refine wB (wpAny_standAt (wB (wpAny_onRaise ?_)))
 cases hd : ds[i]? with
 | none =>
  have hi : i = ds.length := by
   have := List.getElem?_eq_none_iff.mp hd
   omega
  subst hi
  refine wM (IT.done A s' X4 S4.good.bas.handled st4 hfp) (fun r s1 hr => ?_) fun _ _ f => f.elim
  obtain ⟨h', tk', q⟩ := hr
  exact wP (hc _ _ rfl (codeAny_block (wpAny_execs_nil ⟨_, _, _, _, hend _ _ _ inv, S4.drop hx0 q⟩)))
 | some d =>
  have hi : i < ds.length := by
   cases Nat.lt_or_ge i ds.length with
   | inl h => exact h
   | inr h => rw [List.getElem?_eq_none h] at hd; cases hd
  have hdm : d ∈ ds := lG hd
  refine wM (IT.item A s' X4 i d tg S4.good.bas.handled htg st4 hfp S4.good.bas.frs hd) (fun r s1 hr => ?_) fun _ _ f => f.elim
  obtain ⟨v, rfl, hr⟩ := hr
  dsimp only
  refine wB (noE_any (wK hr (fun _ s2 hr => ?_)))
  obtain ⟨h2, tk2, q2, st2, iv⟩ := hr
  have S5 : Sat K X4 Γ4 R4 (resI IT (i + 1) :: Δ4) A s0 { s' with heap := h2, toks := tk2 } := S4.change (r := resI IT i) (r' := resI IT (i + 1)) rfl q2 st2
  obtain ⟨o1, o2⟩ := hoff _ _ _ _ inv
  have next : ∀ {X Γ R Δ s}, Inv (i + 1) Γ R Δ -> Sat K X Γ R (resI IT (i + 1) :: Δ) A s0 s -> Q (.again _) s := fun h S => hn (n - 1) _ (by omega) ⟨i + 1, _, _, _, _, by omega, h, S⟩
  refine wB (wK (S5.bind (hB d hdm) iv hsub o1 o2) (fun _ s3 S6 => ?_))
  refine wB (wK (wpAny_passesOwn hE (hb i d _ _ _ _ hd inv s3 X4 S6)) (fun f s4 hp => ?_))
  cases f with
  | next =>
   obtain ⟨X, Γ, R, Δ, o, S'⟩ := hp
   obtain ⟨Δ', rfl, inv'⟩ := turnF o
   exact wP (next inv' S')
  | cont =>
   obtain ⟨X, Γ, R, Δ, o, S'⟩ := hp
   obtain ⟨Δ', rfl, inv'⟩ := turnF o
   exact wP (next inv' S')
  | brk =>
   obtain ⟨X, Γ, R, Δ, o, S'⟩ := hp
   obtain ⟨Δ', rfl, o2⟩ := turnF o
   exact wP (hd' _ _ ⟨X, Γ, R, _, o2, S'.weak (fun _ h => h) (fun _ h => h) (List.sublist_cons_self ..)⟩)
  | ret v =>
   obtain ⟨d, o, S'⟩ := hp
   exact wP (hd' _ _ ⟨_, turnF o, S'⟩)
end
end
section
noncomputable def noDict : PyData -> Bool
 | .none | .bool _ | .int _ | .str _ => true
 | .list xs => noDictL xs
 | .tuple xs => noDictL xs
 | _ => false
where noDictL : List PyData -> Bool
 | [] => true
 | x :: xs => noDict x && noDictL xs
section
variable {w : World} {X : List Addr} {h : Heap} {D : Addr} {es : Array DictEntry} {n : Nat} {oc : Value} {od : Option Addr} {os : Array (Option Value)}
theorem Rd.offDict (e : h.get? D = some { cls := oc, dict := od, data := .dict es n, slots := os }) {v : Value} {d : PyData} (r : Rd w X h v d) : noDict d = true -> Rd w (D :: X) h v d :=
 Rd.rec (motive_1 := fun v d _ => noDict d = true -> Rd w (D :: X) h v d) (motive_2 := fun vs ds _ => noDict.noDictL ds = true -> RdL w (D :: X) h vs ds) (fun _ => .none) (fun b _ => .bool b) (fun i t _ => .int i t) (fun x t _ => .str x t)
  (fun ha e' _ q hn => .list (fun z => (lC z).elim (fun q => by rw [q, e] at e'; cases e') ha) e' (q hn)) (fun ha e' _ q hn => .tuple (fun z => (lC z).elim (fun q => by rw [q, e] at e'; cases e') ha) e' (q hn))
  (fun _ _ _ _ _ _ hn => by cases hn) (fun _ hn => by cases hn) (fun hn => by cases hn) (fun _ _ _ _ _ _ _ _ _ hn => by cases hn) (fun _ => .nil) (fun _ _ q1 q2 hn => .cons (q1 (Bool.and_eq_true_iff.mp hn).1) (q2 (Bool.and_eq_true_iff.mp hn).2)) r
end
noncomputable def isDict : PyData -> Bool
 | .dict _ => true
 | _ => false
noncomputable def offOwn (d r : PyData) : Prop := flat r = true \/ (isDict d = true /\ noDict r = true)
section
variable {K : Act} {A : Around} {s0 : Shared} {E : Err} {X : List Addr} {Γ Γ' : Gam} {R R' : Ros} {Δ Δ' : Del K} {ss : List Stmt} {O O' : Out K -> Prop} {s : Shared}
theorem Sat.perm (S : Sat K X Γ R Δ A s0 s) (h : List.Perm Δ Δ') : Sat K X Γ R Δ' A s0 s :=
 { S with
  res := fun r hr => S.res r (h.mem_iff.mpr hr)
  fps := fun r hr => S.fps r (h.mem_iff.mpr hr)
  apart := h.pairwise S.apart fun {a b} hab x hx hy => hab x hy hx }
theorem Ex.perm (h : List.Perm Δ Δ') (e : Ex K A s0 E Γ R Δ' ss O) : Ex K A s0 E Γ R Δ ss O := fun s X S => e s X (S.perm h)
theorem EvS.perm {e : Expr} {d : PyData} (h : List.Perm Δ Δ') (q : EvS K A s0 E Γ R Δ' e d) : EvS K A s0 E Γ R Δ e d := fun s X S =>
 wK (q s X (S.perm h)) (fun v s' r => ⟨r.1.perm h.symm, r.2⟩)
theorem Sat.look {x : Str} {D : Addr} {d : PyData} (S : Sat K X Γ R Δ A s0 s) (hx : (x, D) ∈ R) (hr : resO K.c D d ∈ Δ) : Good K.c A (X.filter (· ≠ D)) K.env ((x, d) :: Γ) s.heap := by
 have fq := S.fps _ hr D (.head _)
 have hF : ∀ a ∈ K.c.fr, a ∈ X.filter (· ≠ D) := fun a ha => in_without (S.good.bas.frs a ha) fun e => fq.2.2.2 (e ▸ ha)
 have G1 : Good K.c A (X.filter (· ≠ D)) K.env Γ s.heap := { S.good with
   bas := { S.good.bas with alloc := fun a ha => S.good.bas.alloc a (without a ha), frs := hF }
   vars := fun p hp => let ⟨v, H, r⟩ := S.good.vars p hp; ⟨v, H, r.sub without⟩ }
 exact G1.put (S.names _ hx) ((S.res _ hr).rd not_without without)
theorem EvS.view {x : Str} {D : Addr} {d r : PyData} {e : Expr} (hx : (x, D) ∈ R) (hr : resO K.c D d ∈ Δ) (ho : offOwn d r) (h : ∀ X, Ev K.c K.l X K.env ((x, d) :: Γ) e r) : EvS K A s0 E Γ R Δ e r := fun s X S =>
 (h _).use S.lev (S.look hx hr) fun v s' p q _ => by
  have S' := S.pst p
  refine ⟨S', ?_⟩
  rcases ho with ho | ⟨ho, hn⟩
  ·exact q.flat ho
  ·cases d with
   | dict kvs =>
    obtain ⟨es, n, e, _⟩ := S'.res _ hr
    refine (q.offDict e hn).sub fun a ha => ?_
    by_cases z : a = D
    ·exact z ▸ .head _
    ·exact .tail _ (in_without ha z)
   | _ => simp [isDict] at ho
theorem EtS.view {x : Str} {D : Addr} {d : PyData} {e : Expr} {b : Bool} (hx : (x, D) ∈ R) (hr : resO K.c D d ∈ Δ) (h : ∀ X, Et K.c K.l X K.env ((x, d) :: Γ) e b) : EtS K A s0 E Γ R Δ e b := fun s X S =>
 noE_any (wK (h _ A s S.lev (S.look hx hr)) (fun r s' q => ⟨q.1, S.pst q.2⟩))
end
section
variable {c : Cfg} {A : Around} {s : Shared} {l : Nat} {X : List Addr} {env : Env} {Γ : Gam} {E : Err}
theorem keep_meth {id : String} : ∀ h : Heap, True -> ∃ k, (k = Keeper.frame \/ k = Keeper.machine \/ k = Keeper.boundFrame) /\ Looks c.M h (keeperOf (.builtin id)) k := fun _ _ => ⟨.machine, .inr (.inl rfl), .of_pure rfl⟩
theorem mcall1 {o e : Expr} {name : Str} {apos pos : Pos} {T id : String} {Q : Value -> Shared -> Prop} (pa : PlainAttrs T) (slot : Slot T name id) (ty : typeOf (.builtin id) = pure (.type "method_descriptor"))
  (h : wpAny c.M A (eval o env) (fun ov s1 => s1.TypeIs ov T /\ (∀ a, ov = .ref a -> ∃ ob, s1.heap.get? a = some ob /\ ob.dict = none) /\ wpAny c.M A (eval e env) (fun v s2 => wpAny c.M A (call (.builtin id) [ov, v]) Q E s2) E s1) E s)
  (hbase : autoParam (attributeBase o name env (eval o env) = eval o env) aR) (hline : autoParam ((apos.endLine == pos.line) = true) aR) (hs : autoParam (starEach [e] env = [(false, eval e env)]) aR) :
  wpAny c.M A (eval (.Call (.Attribute o name apos) [e] [] pos) env) Q E s := by
 refine wpAny_Call_method1_late hbase hline (by rw [hs]; rfl) (wK h (fun ov s1 q => ⟨T, id, pa, slot, ty, q.1, q.2.1, ?_⟩))
 exact callWith_of (P := fun _ => True) rfl keep_meth (evalArgs_plain (Calls.spliced_cons (wK q.2.2 (fun v s2 r => Calls.spliced_nil ⟨trivial, r⟩))))
theorem mcall0 {o : Expr} {name : Str} {apos pos : Pos} {T id : String} {Q : Value -> Shared -> Prop} (pa : PlainAttrs T) (slot : Slot T name id) (ty : typeOf (.builtin id) = pure (.type "method_descriptor"))
  (h : wpAny c.M A (eval o env) (fun ov s1 => s1.TypeIs ov T /\ (∀ a, ov = .ref a -> ∃ ob, s1.heap.get? a = some ob /\ ob.dict = none) /\ wpAny c.M A (call (.builtin id) [ov]) Q E s1) E s)
  (hbase : autoParam (attributeBase o name env (eval o env) = eval o env) aR) (hline : autoParam ((apos.endLine == pos.line) = true) aR) :
  wpAny c.M A (eval (.Call (.Attribute o name apos) [] [] pos) env) Q E s := by
 refine wpAny_Call_method0_late hbase hline (wK h (fun ov s1 q => ⟨T, id, pa, slot, ty, q.1, q.2.1, ?_⟩))
 exact callWith_of (P := fun _ => True) rfl keep_meth (evalArgs_nil3 ⟨trivial, q.2.2⟩)
end
section
variable {K : Act} {A : Around} {s0 : Shared} {E : Err} {X : List Addr} {Γ Γ' : Gam} {R R' : Ros} {Δ Δ' : Del K} {ss : List Stmt} {O O' : Out K -> Prop} {s : Shared}
theorem Sat.changed {D : Addr} {d d' : PyData} (S : Sat K X Γ R (resO K.c D d :: Δ) A s0 s) {h' : Heap} {tk : Nat} (hs : Heap.SameBut D s.heap h') (o : Own1 K.c X h' D d') : Sat K X Γ R (resO K.c D d' :: Δ) A s0 { s with heap := h', toks := tk } := by
 have fq := S.fps _ (.head _) D (.head _)
 exact S.change (r := resO K.c D d) (r' := resO K.c D d') rfl (.sameBut hs (S.base D fq.2.1) fq.2.2.2) o
theorem evalR {x : Str} {D : Addr} {pos : Pos} {Q : Value -> Shared -> Prop} (S : Sat K X Γ R Δ A s0 s) (hx : (x, D) ∈ R) (h : Q (.ref D) s) (hd : (x == ("__debug__" : Str)) = false) : wpAny K.c.M A (eval (.Name x pos) K.env) Q E s :=
 wpAny_Name ((S.names _ hx).load S.good.kind h) hd
theorem Ex1.append {x : Str} {np apos cpos pos : Pos} {D : Addr} {ds : List PyData} {e : Expr} {d : PyData} (hx : (x, D) ∈ R) (h : EvS K A s0 E Γ R (resO K.c D (.list ds) :: Δ) e d) (hz : ds.length <= 10 ^ 6) (hd : (x == ("__debug__" : Str)) = false := by decide)
  (hline : autoParam ((apos.endLine == cpos.line) = true) aR) (hs : autoParam (starEach [e] K.env = [(false, eval e K.env)]) aR) (hi : autoParam (interactive K.env = false) aR) (hsw : autoParam (swapsWith (.Call (.Attribute (.Name x np) "append" apos) [e] [] cpos) none pos.line K.env = pure false) aR)
  (hbase : autoParam (attributeBase (.Name x np) "append" K.env (eval (.Name x np) K.env) = eval (.Name x np) K.env) aR) :
  Ex1 K A s0 E Γ R (resO K.c D (.list ds) :: Δ) (.Expr (.Call (.Attribute (.Name x np) "append" apos) [e] [] cpos) pos) (nextO Γ R (resO K.c D (.list (ds ++ [d])) :: Δ)) := fun s X S => by
 refine wpAny_Expr ?_ hi hsw
 have hl0 : LstI K.c.w X s.heap D ds := S.res _ (.head _)
 obtain ⟨vs0, n0, e0, r0⟩ := hl0
 refine mcall1 PySem.F.plainAttrs_list slot_list_append (by first | exact type_list_append | rfl) (evalR S hx ⟨⟨_, e0, rfl⟩, fun a ha => ⟨_, (by cases ha; exact e0), rfl⟩, wK (h s X S) (fun v s1 q => ?_)⟩ hd) hbase hline hs
 obtain ⟨S1, r1⟩ := q
 have hl1 : LstI K.c.w X s1.heap D ds := S1.res _ (.head _)
 obtain ⟨vs, n, e1, r⟩ := hl1
 have fq := S1.fps _ (.head _) D (.head _)
 refine append_at e1 (fun h' hs' e' => ?_) (by simp [r.length, sizeLine_eq]; omega)
 have q : HX K.c [D] s1.heap h' := .sameBut hs' (S1.base D fq.2.1) fq.2.2.2
 have hY : ∀ y ∈ [D], y ∈ X := fun y hy => lS hy ▸ fq.1
 exact ⟨X, _, _, _, rfl, S1.changed hs' ⟨vs ++ [v], n + 1, by rw [e']; simp [lstO], (r.hx q S1.good.bas.frs hY).append (.cons (r1.hx q S1.good.bas.frs hY) .nil)⟩⟩
theorem inplace_list {c : Cfg} {l b : Addr} {vs ws : List Value} {n n2 : Nat} {Q : Value -> Shared -> Prop} (hl : s.heap.get? l = some (lstO vs n)) (hb : s.heap.get? b = some (lstO ws n2)) (hz : vs.length + ws.length <= 10 ^ 6)
  (h : ∀ h' k, Heap.SameBut l s.heap h' -> h'.get? l = some (lstO (vs ++ ws) k) -> Q (.ref l) { s with heap := h' }) : wpAny c.M A (inplaceOp .Add (.ref l) (.ref b)) Q E s := by
 have ha : s.TypeIs (.ref l) "list" := ⟨_, hl, rfl⟩
 have hb' : s.TypeIs (.ref b) "list" := ⟨_, hb, rfl⟩
 unfold inplaceOp
 refine wpAny_holding ?_
 have hfi : fillsInplaceSlot (.type "list") "add" (Operator.Add == .Add) = pure false := by
  unfold fillsInplaceSlot
  show (typeLookup (.type "list") (dunderI "add") >>= fun fi => pure (fi.isSome && !isSeqSlot fi)) = pure false
  rw [PySem.F.slot_list_iadd.lookup]
  show (pure ((some (Value.builtin "list.__iadd__")).isSome && !isSeqSlot (some (.builtin "list.__iadd__"))) : Sem Bool) = pure false
  rw [show isSeqSlot (some (.builtin "list.__iadd__")) = true by decide +kernel]
  rfl
 have hsi : seqSlot? (.type "list") (dunderI "add") = pure (some (.builtin "list.__iadd__")) := PySem.seqSlot_of PySem.F.slot_list_iadd.lookup (by decide +kernel)
 refine wB (wpAny_typeOf ha (wB (wpAny_of_eq hfi ?_)))
 show wpAny _ A (if false = true then _ else _) Q E s
 rw [if_neg Bool.false_ne_true]
 refine wB (wpAny_binaryOp1_none (nm := "add") ha hb' noFill_list_add ?_)
 refine wB (wpAny_of_eq hsi ?_)
 refine wB (wpAny_rule ?_)
 refine call_meets PySem.F.slot_list_iadd ha PySem.F.entry_list_iadd (PySem.F.args_list_iadd_2 _ _) (AutoSeq1.list___iadd___list_list_0 l vs.toArray n b ws.toArray n2 ?_ (by simp [sizeLine_eq]; omega) (by simp [sizeLine_eq]; omega)) ⟨hl, hb, ?_⟩
 ·simp [Builtin.List.listTooLong, sizeLine_eq]; omega
 ·have u : IsL (s.heap.update l (Obj.mapSeq fun x => x ++ ws.toArray)) l _ _ := IsL.update (n := n) (items := vs.toArray) hl (fun x => x ++ ws.toArray)
  exact h _ _ (Heap.SameBut.update ..) (u.trans (by simp only [lstO, List.append_toArray]; rfl))
theorem Ex1.aug {x : Str} {px pos : Pos} {op : Operator} {e : Expr} {d1 d2 d : PyData} (hx : (x, d1) ∈ Γ) (h : ∀ X, Ev K.c K.l X K.env Γ e d2) (hp : P2 K.c (inplaceOp op) d1 d2 d) (hxs : x ∈ K.xs) (hR : ∀ p ∈ R, p.1 ≠ x) :
  Ex1 K A s0 E Γ R Δ (.AugAssign (.Name x px) op e pos) (nextO ((x, d) :: Γ.filter fun p => p.1 != x) R Δ) := fun s X S => by
 obtain ⟨v0, H, r0⟩ := S.good.vars _ hx
 refine wpAny_AugAssign_Name (H.load S.good.kind ((h X).use S.lev S.good fun v1 s1 p1 r1 G1 => noE_any (wK (hp K.l A X s1 v0 v1 S.lev G1.bas (r0.hx0 p1.hx S.good.bas.frs) r1) (fun v s2 q => ?_))))
 exact (S.pst (p1.trans q.1)).assign hxs hR q.2 fun s' S' => ⟨X, _, _, _, rfl, S'⟩
theorem Ex1.whileG {test : Expr} {body orelse : List Stmt} {pos : Pos} (Inv : Nat -> Gam -> Ros -> Del K -> Prop) (O : Out K -> Prop)
  (h : ∀ n Γ R Δ, Inv n Γ R Δ -> ∃ b, (∀ s X, Sat K X Γ R Δ A s0 s -> wpAny K.c.M A (isTrue test K.env (eval test K.env)) (fun r s' => r = b /\ ∃ X', Sat K X' Γ R Δ A s0 s') E s) /\ (b = true -> Ex K A s0 E Γ R Δ body fun o => (∃ m Γ' R' Δ', m < n /\ (o = .next Γ' R' Δ' \/ o = .cont Γ' R' Δ') /\ Inv m Γ' R' Δ') \/ (∃ Γ' R' Δ', o = .brk Γ' R' Δ' /\ O (.next Γ' R' Δ')) \/ ∃ d, o = .ret d /\ O (.ret d)) /\ (b = false -> Ex K A s0 E Γ R Δ orelse O))
  (n : Nat) (h0 : Inv n Γ R Δ) (hE : PassesOwn K.c.M A K.env E := by exact fun _ _ f => f.elim) : Ex1 K A s0 E Γ R Δ (.While test body orelse pos) O := fun s X S => by
 refine wpAny_While (codeAny_whileLoop (fun n s' => ∃ X Γ R Δ, Inv n Γ R Δ /\ Sat K X Γ R Δ A s0 s') (fun n s' hI => ?_) n ⟨X, Γ, R, Δ, h0, S⟩)
 obtain ⟨X, Γ, R, Δ, inv, S⟩ := hI
 obtain ⟨b, ht, h1, h2⟩ := h n Γ R Δ inv
 refine wpAny_passesOwn hE (wK (ht s' X S) (fun r s2 q => ?_))
 obtain ⟨rfl, X, S2⟩ := q
 cases r with
 | false =>
  simp only [Bool.false_eq_true, if_false]
  exact wpAny_passesOwn hE (h2 rfl s2 X S2)
 | true =>
  simp only [if_true]
  refine wpAny_passesOwn hE (wK (h1 rfl s2 X S2) (fun f s3 hp => ?_))
  cases f with
  | next =>
   obtain ⟨X, Γ, R, Δ, o, S'⟩ := hp
   obtain ⟨m, hm, inv'⟩ := turnW o
   exact ⟨m, hm, X, Γ, R, Δ, inv', S'⟩
  | cont =>
   obtain ⟨X, Γ, R, Δ, o, S'⟩ := hp
   obtain ⟨m, hm, inv'⟩ := turnW o
   exact ⟨m, hm, X, Γ, R, Δ, inv', S'⟩
  | brk =>
   obtain ⟨X, Γ, R, Δ, o, S'⟩ := hp
   exact ⟨X, Γ, R, Δ, turnW o, S'⟩
  | ret v =>
   obtain ⟨d, o, S'⟩ := hp
   exact ⟨_, turnW o, S'⟩
theorem Ex1.while {test : Expr} {body : List Stmt} {pos : Pos} (Inv : Nat -> Gam -> Ros -> Del K -> Prop) (O : Out K -> Prop)
  (h : ∀ n Γ R Δ, Inv n Γ R Δ -> ∃ b, EtS K A s0 E Γ R Δ test b /\ (b = true -> Ex K A s0 E Γ R Δ body fun o => (∃ m Γ' R' Δ', m < n /\ (o = .next Γ' R' Δ' \/ o = .cont Γ' R' Δ') /\ Inv m Γ' R' Δ') \/ (∃ Γ' R' Δ', o = .brk Γ' R' Δ' /\ O (.next Γ' R' Δ')) \/ ∃ d, o = .ret d /\ O (.ret d)) /\ (b = false -> O (.next Γ R Δ)))
  (n : Nat) (h0 : Inv n Γ R Δ) (hE : PassesOwn K.c.M A K.env E := by exact fun _ _ f => f.elim) : Ex1 K A s0 E Γ R Δ (.While test body [] pos) O := by
 refine Ex1.whileG Inv O (fun n Γ R Δ hi => ?_) n h0 hE
 obtain ⟨b, h1, h2, h3⟩ := h n Γ R Δ hi
 exact ⟨b, fun s X S => wK (h1 s X S) (fun _ _ q => ⟨q.1, X, q.2⟩), h2, fun e => .nil (h3 e)⟩
end
end
section
theorem bindL_none {ko : Str -> Option NameKind} {x : Str} : ∀ {binds : List (Str × Value)} {m : Str -> Option Value}, x ∉ binds.map (·.1) -> bindL ko binds m x = m x
 | [], _, _ => rfl
 | (n, v) :: r, m, h => by
  rw [List.map_cons, List.mem_cons, not_or] at h
  unfold bindL
  rw [bindL_none h.2]
  split
  ·exact if_neg h.1
  ·rfl
theorem bindL_get {ko : Str -> Option NameKind} {x : Str} {v : Value} (hx : ko x = some .local) : ∀ {binds : List (Str × Value)} {m : Str -> Option Value}, (binds.map (·.1)).Nodup -> (x, v) ∈ binds -> bindL ko binds m x = some v
 | (n, u) :: r, m, hn, hm => by
  rw [List.map_cons, List.nodup_cons] at hn
  unfold bindL
  rcases lC hm with e | hm
  ·cases e
   rw [bindL_none hn.1, if_pos hx, if_pos rfl]
  ·exact bindL_get hx hn.2 hm
theorem bindC_none {ko : Str -> Option NameKind} {x : Str} : ∀ {binds : List (Str × Value)} {m : Str -> Option Value}, x ∉ binds.map (·.1) -> bindC ko binds m x = m x
 | [], _, _ => rfl
 | (n, v) :: r, m, h => by
  rw [List.map_cons, List.mem_cons, not_or] at h
  unfold bindC
  rw [bindC_none h.2]
  split
  ·rfl
  ·exact if_neg h.1
theorem bindC_get {ko : Str -> Option NameKind} {x : Str} {v : Value} (hx : ko x ≠ some .local) : ∀ {binds : List (Str × Value)} {m : Str -> Option Value}, (binds.map (·.1)).Nodup -> (x, v) ∈ binds -> bindC ko binds m x = some v
 | (n, u) :: r, m, hn, hm => by
  rw [List.map_cons, List.nodup_cons] at hn
  unfold bindC
  rcases lC hm with e | hm
  ·cases e
   rw [bindC_none hn.1, if_neg hx, if_pos rfl]
  ·exact bindC_get hx hn.2 hm
structure FnAt (c : Cfg) (a : Addr) (fd : FuncData) (body : List Stmt) : Prop where
 at_ : ∃ o, c.base.get? a = some o /\ o.data = .func fd
 code : c.base.CodeRec fd.code fd.qualname
 lim : c.base.NoLimit
 body : fd.body = .stmts body
 clo : fd.closure = []
 glob : fd.globals = mainGlobals
 blt : fd.builtins = builtinsNs
noncomputable def fnXs (scope : Scope) : List Str := scope.names.filterMap fun p => if p.2 = .local \/ p.2 = .cell then some p.1 else none
noncomputable def fnOk (scope : Scope) (ps : List Str) : Bool :=
 decide (scope.names.map (·.1)).Nodup && scope.names.all (fun p => p.2 != .free) && ps.all (fun p => decide (p ∈ fnXs scope)) && decide ps.Nodup && scope.kind == .function && !scope.isCoroutine && !scope.isGenerator
inductive FnI (scope : Scope) (ps : List Str) : Prop
 | mk (h1 : (scope.names.map (·.1)).Nodup) (h2 : ∀ p ∈ scope.names, p.2 ≠ .free) (h3 : ∀ p ∈ ps, p ∈ fnXs scope) (h4 : ps.Nodup) (h5 : scope.kind = .function) (h6 : scope.isCoroutine = false) (h7 : scope.isGenerator = false)
theorem fnOk_inv {scope : Scope} {ps : List Str} (h : fnOk scope ps = true) : FnI scope ps := by
 unfold fnOk at h
 simp only [Bool.and_eq_true, decide_eq_true_eq, List.all_eq_true, bne_iff_ne, ne_eq, beq_iff_eq, Bool.not_eq_true'] at h
 obtain ⟨⟨⟨⟨⟨⟨h1, h2⟩, h3⟩, h4⟩, h5⟩, h6⟩, h7⟩ := h
 exact ⟨h1, h2, h3, h4, h5, h6, h7⟩
noncomputable def fnAct (c : Cfg) (l : Nat) (fd : FuncData) (L a : Addr) (X : List Addr) : Act where
 c := c.push L
 l := l + 1
 env := callEnvC fd L a
 N := L :: fd.scope.names.filterMap fun p => if p.2 = .cell then (callEnvC fd L a).cells.lookup p.1 else none
 xs := fnXs fd.scope
 X0 := X
 post := fun _ _ => True
theorem Lev.deeper {l : Nat} {A : Around} {env : Env} (L : Lev l A) (hl : l < 60) : Lev (l + 1) (A.deeper env) := by
 obtain ⟨h1, h2, h3⟩ := L
 refine ⟨?_, ?_, hl⟩
 ·show A.depth + 1 <= _; omega
 ·show A.units + 3 <= _; omega
theorem xs_mem {scope : Scope} {x : Str} (h : x ∈ fnXs scope) : (x, NameKind.local) ∈ scope.names \/ (x, NameKind.cell) ∈ scope.names := by
 obtain ⟨p, hp, e⟩ := List.mem_filterMap.mp h
 obtain ⟨n, k⟩ := p
 dsimp only at e
 split at e
 ·rename_i hk
  cases e
  rcases hk with rfl | rfl
  ·exact .inl hp
  ·exact .inr hp
 ·cases e
section
variable {c : Cfg} {A : Around} {s : Shared} {l : Nat} {X : List Addr}
theorem enter {a : Addr} {fd : FuncData} {body : List Stmt} {ps : List Str} {ds : List PyData} {vs : List Value} {s1 : Shared} (F : FnAt c a fd body) (hok : fnOk fd.scope ps = true) (hlen : ps.length = ds.length) (hl : l < 60) (LA : Lev l A) (B : Bas c A X s.heap) (r : RdL c.w X s.heap vs ds)
  (x : InCallC s (callEnvC fd s.heap.objs.size a).locals (bindL (callEnvC fd s.heap.objs.size a).kindOf (ps.zip vs) fun _ => none) (callEnvC fd s.heap.objs.size a).cells (bindC (callEnvC fd s.heap.objs.size a).kindOf (ps.zip vs) fun _ => none) s1) :
  Sat (fnAct c l fd s.heap.objs.size a X) ((fnAct c l fd s.heap.objs.size a X).N ++ X) (ps.zip ds) [] [] (A.deeper (callEnvC fd s.heap.objs.size a)) s s1 := by
 obtain ⟨h1, h2, h3, h4, h5, h6, h7⟩ := fnOk_inv hok
 have hvl : vs.length = ds.length := r.length
 have hLs : (callEnvC fd s.heap.objs.size a).locals = s.heap.objs.size := rfl
 have hfr : (callEnvC fd s.heap.objs.size a).frame = some s.heap.objs.size := rfl
 have hks : ∀ y, (callEnvC fd s.heap.objs.size a).kindOf y = fd.scope.names.lookup y := fun y => rfl
 obtain ⟨hh, tk, rfl⟩ := x.toInCall.same
 have q0 : HX c [] s.heap hh := .keep0 x.toInCall.keep
 have q : HX (c.push s.heap.objs.size) [] s.heap hh := .keep0 x.toInCall.keep
 have hN : ∀ b ∈ (s.heap.objs.size :: fd.scope.names.filterMap (fun p => if p.2 = .cell then (callEnvC fd s.heap.objs.size a).cells.lookup p.1 else none) : List Addr), s.heap.get? b = none := fun b hb => by
  rcases lC hb with rfl | hb
  ·exact fresh_ge (Nat.le_refl _)
  ·obtain ⟨p, hp, e⟩ := List.mem_filterMap.mp hb
   split at e
   ·exact fresh_ge (Nat.le_of_lt (x.above p.1 b (PySem.mem_of_lookup e)))
   ·cases e
 have hbase : ∀ b, s.heap.get? b = none -> c.base.get? b = none := fun b e => by
  cases e' : c.base.get? b with
  | none => rfl
  | some o => rw [B.inBase e'] at e; cases e
 have hcl : ∀ y, (y, NameKind.cell) ∈ fd.scope.names -> ∃ b, (callEnvC fd s.heap.objs.size a).cells.lookup y = some b := fun y hy => by
  obtain ⟨b, e, _⟩ := cells_on (h := s.heap.push { cls := .type "frame", data := .dict #[] }) (acc := []) h1 hy
  rw [Heap.size_push] at e
  exact ⟨b, e⟩
 have hmem : ∀ y b, (callEnvC fd s.heap.objs.size a).cells.lookup y = some b -> (y, b) ∈ (callEnvC fd s.heap.objs.size a).cells := fun y b e => PySem.mem_of_lookup e
 have alive : ∀ b ∈ (s.heap.objs.size :: fd.scope.names.filterMap (fun p => if p.2 = .cell then (callEnvC fd s.heap.objs.size a).cells.lookup p.1 else none) : List Addr), ∃ o, hh.get? b = some o := fun b hb => by
  rcases lC hb with rfl | hb
  ·obtain ⟨o, e, _⟩ := ns_alive x.toInCall.ns
   exact ⟨o, e⟩
  ·obtain ⟨p, hp, e⟩ := List.mem_filterMap.mp hb
   split at e
   ·obtain ⟨o, e, _⟩ := cell_alive (x.cell _ _ e)
    exact ⟨o, e⟩
   ·cases e
 have hin : ∀ y b, (callEnvC fd s.heap.objs.size a).cells.lookup y = some b -> b ∈ (s.heap.objs.size :: fd.scope.names.filterMap (fun p => if p.2 = .cell then (callEnvC fd s.heap.objs.size a).cells.lookup p.1 else none) : List Addr) := fun y b e => by
  by_cases hm : (y, NameKind.cell) ∈ fd.scope.names
  ·exact .tail _ (List.mem_filterMap.mpr ⟨(y, .cell), hm, by simpa using e⟩)
  ·have e' : (cellsFrom (s.heap.objs.size + 1) fd.scope.names []).lookup y = some b := e
   rw [cells_off hm] at e'
   cases e'
 exact
 {same := ⟨hh, tk⟩
  hx := q
  sub := fun b hb => lR _ hb
  own := fun b hb => ⟨lL _ hb, hN b hb⟩
  env := ⟨.head _, hin⟩
  good := {
   bas := {
    handled := B.handled
    below := by
     obtain ⟨outer, b, f⟩ := B.below
     refine ⟨_, ⟨Around.frames_deeper b.stack, q0.st b.stays, ?_⟩, fun env he L hL => ?_⟩
     ·exact .cons (by show fd.scope.kind ≠ .module; rw [h5]; decide) hfr x.toInCall.ns (hbase _ (fresh_ge (Nat.le_refl _))) (q0.frames f b.frames)
     ·rcases lC he with rfl | he
      ·rw [hfr] at hL; cases hL; exact .head _
      ·exact .tail _ (f env he L hL)
    alloc := fun b hb => (lA hb).elim (alive b) fun z => q0.alive (fun z => nomatch z) (B.alloc b z)
    frs := fun b hb => (lC hb).elim (fun e => e ▸ .head _) fun z => lR _ (B.frs b z) }
   kind := h5
   globals := F.glob
   builtins := F.blt
   cells := fun y hy => by
    rcases hy with hy | hy
    ·exact hcl y (mem_of_lookup ((hks y).symm.trans hy))
    ·exact absurd rfl (h2 _ (mem_of_lookup ((hks y).symm.trans hy)))
   inj := fun y z b e1 e2 => name_of_addr x.apart (hmem _ _ e1) (hmem _ _ e2)
   cal := fun y b e => ⟨_, x.cell _ _ e⟩
   vars := fun p hp => by
    obtain ⟨y, d⟩ := p
    obtain ⟨i, hi⟩ := List.getElem?_of_mem hp
    obtain ⟨e1, e2⟩ := List.getElem?_zip_eq_some.mp hi
    obtain ⟨v, hv, rv⟩ := r.get i e2
    have hm : (y, v) ∈ ps.zip vs := lG (List.getElem?_zip_eq_some.mpr ⟨e1, hv⟩)
    have hnd : ((ps.zip vs).map (·.1)).Nodup := by rw [List.map_fst_zip (by omega)]; exact h4
    refine ⟨v, ?_, (rv.wide fun b hb => (lA hb).elim (fun z => .inr (hN b z)) .inl).hx0 q fun b hb => (lC hb).elim (fun e => e ▸ .head _) fun z => lR _ (B.frs b z)⟩
    rcases xs_mem (h3 y (lG e1)) with hk | hk
    ·have hk' := (hks y).trans (mem_lookup h1 hk)
     exact .loc hk' x.toInCall.ns (bindL_get hk' hnd hm)
    ·have hk' := (hks y).trans (mem_lookup h1 hk)
     obtain ⟨b, e⟩ := hcl y hk
     have := x.cell _ _ e
     rw [bindC_get (by rw [hk']; decide) hnd hm] at this
     exact .cell hk' e this }
  tg := ⟨⟨_, x.toInCall.ns⟩, fun y hy => by
   rcases xs_mem hy with hk | hk
   ·exact ⟨_, .head _, .loc ((hks y).trans (mem_lookup h1 hk)) rfl x.toInCall.ns⟩
   ·obtain ⟨b, e⟩ := hcl y hk
    exact ⟨b, hin y b e, .cell ((hks y).trans (mem_lookup h1 hk)) e (x.cell _ _ e)⟩⟩
  names := fun p hp => nomatch hp
  res := fun r hr => nomatch hr
  fps := fun r hr => nomatch hr
  apart := .nil
  base := hbase
  lev := LA.deeper hl }
theorem fn_ok {a : Addr} {fd : FuncData} {body : List Stmt} {ps : List Str} {ds : List PyData} {d : PyData} (F : FnAt c a fd body) (hok : fnOk fd.scope ps = true) (hlen : ps.length = ds.length) (hl : l < 60) (hbind : ∀ vs : List Value, vs.length = ps.length -> bindArgs fd ⟨vs, []⟩ = pure (ps.zip vs))
  (h : ∀ (A : Around) (s0 : Shared) (L : Addr) (X : List Addr), X0ok (fnAct c l fd L a X) s0 -> (∃ outer, A.frames = some ((fnAct c l fd L a X).env :: outer)) -> Ex (fnAct c l fd L a X) A s0 NoE (ps.zip ds) [] [] body fun o => o = .ret d \/ (d = .none /\ ∃ Γ R Δ, o = .next Γ R Δ)) : CallOk c l (.ref a) ds d := fun A X s vs LA B r => by
 obtain ⟨o, ho, hd⟩ := F.at_
 have hvl : vs.length = ps.length := by rw [r.length, hlen]
 have hok' := hok
 obtain ⟨h1, h2, h3, h4, h5, h6, h7⟩ := fnOk_inv hok
 have st := B.stays
 refine wpAny_call (codeAny_call_cells (binds := ps.zip vs) (by have := LA.depth; show A.depth < 1000; omega) (st a o ho) hd (F.lim.keeps st) (F.code.keeps st) F.body (hbind vs hvl) F.clo (fun y hy => ?_) (fun s1 x => ?_) h6 h7 h5)
 ·have hy' : y.1 ∈ ps := by
   have := lM (f := (·.1)) hy
   rw [List.map_fst_zip (by omega)] at this
   exact this
  rcases xs_mem (h3 _ hy') with hk | hk
  ·exact .inl (mem_lookup h1 hk)
  ·obtain ⟨b, e, _⟩ := cells_on (h := s.heap.push { cls := .type "frame", data := .dict #[] }) (acc := []) h1 hk
   rw [Heap.size_push] at e
   exact .inr ⟨mem_lookup h1 hk, by rw [e]; rfl⟩
 ·have S := enter F hok' hlen hl LA B r x
  refine wM (h _ s s.heap.objs.size X B.alloc (let ⟨o, b, _⟩ := B.below; ⟨o, Around.frames_deeper b.stack⟩) s1 _ S) (fun f s' hp => ?_) fun _ _ f => f.elim
  have hLn : s.heap.get? s.heap.objs.size = none := fresh_ge (Nat.le_refl _)
  cases f with
  | next =>
   obtain ⟨X', Γ, R, Δ, o, S'⟩ := hp
   rcases o with o | ⟨rfl, _⟩
   ·cases o
   ·obtain ⟨h', tk⟩ := S'.same
    exact ⟨⟨h', tk, S'.hx.pop hLn⟩, .none⟩
  | brk => obtain ⟨X', Γ, R, Δ, o, S'⟩ := hp; rcases o with o | ⟨_, Γ, R, Δ, o⟩ <;> cases o
  | cont => obtain ⟨X', Γ, R, Δ, o, S'⟩ := hp; rcases o with o | ⟨_, Γ, R, Δ, o⟩ <;> cases o
  | ret v =>
   obtain ⟨d', o, ⟨X', Δ', S', _⟩, rv⟩ := hp
   rcases o with o | ⟨_, Γ, R, Δ, o⟩
   ·cases o
    obtain ⟨h', tk⟩ := S'.same
    exact ⟨⟨h', tk, S'.hx.pop hLn⟩, rv⟩
   ·cases o
end
end
section
noncomputable def pickG {α : Type} (l : List α) (lo hi st : Option Int) : List α :=
 (sliceRange (sliceBounds lo hi st l.length).1 (sliceBounds lo hi st l.length).2.1 (sliceBounds lo hi st l.length).2.2).filterMap (l[·]?)
section
variable {c : Cfg} {A : Around} {s : Shared} {l : Nat} {X : List Addr} {env : Env} {Γ : Gam} {E : Err}
theorem RdL.places {h : Heap} {vs : List Value} {ds : List PyData} (r : RdL c.w X h vs ds) : ∀ is : List Nat, RdL c.w X h (is.filterMap (vs[·]?)) (is.filterMap (ds[·]?))
 | [] => .nil
 | i :: is => by
  rw [List.filterMap_cons, List.filterMap_cons]
  cases hd : ds[i]? with
  | none =>
   have : vs[i]? = none := by rw [List.getElem?_eq_none_iff] at hd ⊢; rw [r.length]; exact hd
   rw [this]
   exact r.places is
  | some d =>
   obtain ⟨v, hv, rv⟩ := r.get i hd
   rw [hv]
   exact .cons rv (r.places is)
inductive EvP (c : Cfg) (l : Nat) (X : List Addr) (env : Env) (Γ : Gam) : Option Expr -> Option Int -> Prop
 | none : EvP c l X env Γ none none
 | some {e : Expr} {i : Int} (h : Ev c l X env Γ e (.int i)) : EvP c l X env Γ (some e) (some i)
theorem EvP.use {x : Option Expr} {o : Option Int} (h : EvP c l X env Γ x o) (L : Lev l A) (G : Good c A X env Γ s.heap) {Q : Value -> Shared -> Prop} (k : ∀ v s', Pst c s s' -> IsPart v o -> Good c A X env Γ s'.heap -> Q v s') : wpAny c.M A (evalPart x env) Q E s := by
 cases h with
 | none => exact wP (k _ _ .refl .none G)
 | some h => exact h.use L G fun v s' p r G' => k v s' p (by have hz := r.int_inv; clear r; obtain ⟨t⟩ := hz; exact .int _ _) G'
theorem ssNo {lower upper step : Option Expr} {p : Pos} : ∃ ops : Value -> Value -> List Value, ∀ o i, subscripted (.Slice lower upper step p) false o i = operate (ops o i) (getItem o i) := by
 cases step with
 | none => exact ⟨fun o i => [i, o], fun _ _ => rfl⟩
 | some _ => exact ⟨fun o i => [o, i], fun _ _ => rfl⟩
theorem Ev.slice {value : Expr} {lower upper step : Option Expr} {p pos : Pos} {ds : List PyData} {lo hi st : Option Int} (h1 : Ev c l X env Γ value (.list ds)) (hl : EvP c l X env Γ lower lo) (hu : EvP c l X env Γ upper hi) (hs : EvP c l X env Γ step st) (h0 : st ≠ some 0) (hz : ds.length <= 10 ^ 6)
  (ht : ∀ o r, letTemporaryGo value o r = pure () := by intro _ _; with_unfolding_all rfl) :
  Ev c l X env Γ (.Subscript value (.Slice lower upper step p) pos) (.list (pickG ds lo hi st)) := fun A s L G => by
 refine Subscript_ (h1.use L G fun v1 s1 p1 r1 G1 => wpAny_Slice (hl.use L G1 fun vl s2 p2 i2 G2 => hu.use L G2 fun vu s3 p3 i3 G3 => hs.use L G3 fun vk s4 p4 i4 G4 => ?_))
 have r4 := r1.hx0 ((p2.trans p3).trans p4).hx G.bas.frs
 have hz := r4.list_inv; clear r4; obtain ⟨ax, vs, n, ha, ea, q⟩ := hz
 obtain ⟨ops, hss⟩ := ssNo (lower := lower) (upper := upper) (step := step) (p := p)
 have hL : s4.heap.IsList ax vs.toArray := ⟨_, ea, rfl, _, rfl⟩
 refine subscriptTail_ops (Heap.IsList.typeIs (s := { s4 with heap := s4.heap.push { cls := .type "slice", data := .fields #[vl, vu, vk] } }) (hL.push _)) list_getitem_lookup
  (wpAny_getItem_list_slice (hL.push _) (Heap.IsSliceOf.new ..) i2 i3 i4 h0 ?_ (by simp [q.length, sizeLine_eq]; omega)) (hss _ _) (ht _)
 have e : slicePick vs.toArray lo hi st = ((sliceRange (sliceBounds lo hi st ds.length).1 (sliceBounds lo hi st ds.length).2.1 (sliceBounds lo hi st ds.length).2.2).filterMap (vs[·]?)).toArray := by
  simp [slicePick, q.length]
 have q1 : HX c [] s4.heap (s4.heap.push { cls := .type "slice", data := .fields #[vl, vu, vk] }) := .push _ _
 refine ⟨(((p1.trans p2).trans p3).trans p4).trans ⟨_, s4.toks, q1.trans (.push _ _)⟩, ?_⟩
 rw [e]
 exact Rd.newList (c := c) (s := { s4 with heap := s4.heap.push { cls := .type "slice", data := .fields #[vl, vu, vk] } }) G.bas.frs (fun a h => q1.alive (fun z => nomatch z) (G4.bas.alloc a h)) ((q.places _).hx0 q1 G.bas.frs)
theorem CallOk.lenL {ds : List PyData} (hz : ds.length <= 2 ^ 40) : CallOk c l (.builtin "len") [.list ds] (.int ds.length) := fun A X s vs L B r => by
 have hz := r.one_inv; clear r; obtain ⟨_, r⟩ := hz
 have hz := r.list_inv; clear r; obtain ⟨_, _, _, ha, e, q⟩ := hz
 refine call_len_list ⟨_, e, rfl, _, rfl⟩ (by simp [q.length]; omega) ?_
 refine ⟨.tk, ?_⟩
 simp only [List.size_toArray, q.length]
 exact .int _ _
theorem CallOk.int {i : Int} : CallOk c l (.type "int") [.int i] (.int i) := fun A X s vs L B r => by
 have hz := r.one_inv; clear r; obtain ⟨_, r⟩ := hz
 have hz := r.int_inv; clear r; obtain ⟨t⟩ := hz
 exact call_int_int ⟨.refl, .int _ _⟩
theorem RdL.ints {h : Heap} {ns : List Int} : ∀ {vs : List Value}, RdL c.w X h vs (ns.map .int) -> IntsAre vs ns := by
 induction ns with
 | nil => intro vs r; cases r.nil_inv; exact .nil
 | cons n ns ih =>
  intro vs r
  obtain ⟨v, us, a, q⟩ := r.cons_inv
  obtain ⟨t⟩ := a.int_inv
  exact .cons _ _ (ih q)
theorem CallOk.sum {ns : List Int} : CallOk c l (.builtin "sum") [.list (ns.map .int)] (.int ns.sum) := fun A X s vs L B r => by
 have hz := r.one_inv; clear r; obtain ⟨_, r⟩ := hz
 have hz := r.list_inv; clear r; obtain ⟨_, _, _, ha, e, q⟩ := hz
 have hi := q.ints
 obtain ⟨xs, hx⟩ := hi.allInts.items
 have hl' : s.heap.IsList _ (intItems xs) := hx ▸ (show s.heap.IsList _ _ from ⟨_, e, rfl, _, rfl⟩)
 refine sum_intListG B.handled hl' fun h' tk t' hk => ?_
 have e1 : ns = xs.toList.map (·.1) := by
  rw [<- nums_intItems, <- hx]
  exact hi.numsOf.symm
 have e2 : preSum (numAt xs) xs.size = ns.sum := by
  rw [preSum_eq, List.take_of_length_le (by simp), e1]
 rw [e2]
 exact ⟨⟨h', tk, .keep0 hk⟩, .int _ _⟩
theorem P2.addL {ds es : List PyData} (hz : ds.length + es.length <= 10 ^ 6) : P2 c (binaryOp .Add) (.list ds) (.list es) (.list (ds ++ es)) := fun l A X s v1 v2 L B r1 r2 => by
 have hz := r1.list_inv; clear r1; obtain ⟨a, vs, n, ha, ea, q⟩ := hz
 have hz := r2.list_inv; clear r2; obtain ⟨b, ws, m, hb, eb, p⟩ := hz
 refine PySem.P.add_list ea eb ?_ (by simp [q.length, p.length, sizeLine_eq]; omega)
 rw [List.append_toArray]
 exact ⟨.push', Rd.newList (c := c) B.frs B.alloc (q.append p)⟩
end
end
section
structure Wd (c : Cfg) (p : Program) (loose : List Str) (mg mb : Str -> Option Value) : Prop where
 sys : sysModules ∈ c.fr
 g : c.base.Ns mainGlobals mg
 b : c.base.Ns builtinsNs mb
 builtins : ∀ x : Str, x ≠ "__name__" -> mb x = bootBuiltins x
 free : ∀ x, x ∉ startupNames -> x ∉ loose -> x ∉ (recsOf p).map (·.name) -> x ∉ (litsOf p).map (·.1) -> x ∉ (clssOf p loose).map (·.name) -> mg x = none
 fn : ∀ d ∈ recsOf p, ∃ a pm code doc, mg d.name = some (.ref a) /\ FnAt c a (docDef d.name d.params d.body d.scope pm code doc) d.body
theorem Wd.push {c : Cfg} {p : Program} {loose : List Str} {mg mb : Str -> Option Value} (W : Wd c p loose mg mb) (L : Addr) : Wd (c.push L) p loose mg mb :=
 ⟨.tail _ W.sys, W.g, W.b, W.builtins, W.free, fun d hd => let ⟨a, pm, code, doc, h, F⟩ := W.fn d hd; ⟨a, pm, code, doc, h, ⟨F.at_, F.code, F.lim, F.body, F.clo, F.glob, F.blt⟩⟩⟩
theorem glb_g {c : Cfg} {x : Str} {v : Value} {mg : Str -> Option Value} (hg : c.base.Ns mainGlobals mg) (hv : mg x = some v) : Glb c x v := fun A E s env Q st e1 e2 hk hx h => by
 rw [loadName_read hk hx]
 exact Calls.loadGlobal_global (e1 ▸ hg.keeps st) hv h
theorem glb_b {c : Cfg} {x : Str} {v : Value} {mg mb : Str -> Option Value} (hg : c.base.Ns mainGlobals mg) (hmiss : mg x = none) (hb : c.base.Ns builtinsNs mb) (hv : mb x = some v) : Glb c x v := fun A E s env Q st e1 e2 hk hx h => by
 rw [loadName_read hk hx]
 exact Calls.loadGlobal_builtin (e1 ▸ hg.keeps st) hmiss (e2 ▸ hb.keeps st) hv h
theorem Wd.blt {c : Cfg} {p : Program} {loose : List Str} {mg mb : Str -> Option Value} (W : Wd c p loose mg mb) {x : Str} {v : Value} (hv : bootBuiltins x = some v)
  (hno : decide (x ∉ startupNames /\ x ∉ loose /\ x ∉ (recsOf p).map (·.name) /\ x ∉ (litsOf p).map (·.1) /\ x ∉ (clssOf p loose).map (·.name) /\ x ≠ "__name__") = true) : Glb c x v := by
 obtain ⟨h1, h2, h3, h4, h5, h6⟩ := of_decide_eq_true hno
 exact glb_b W.g (W.free x h1 h2 h3 h4 h5) W.b ((W.builtins x h6).trans hv)
noncomputable def Fn (c : Cfg) (l : Nat) (f : Str) (ds : List PyData) (d : PyData) : Prop := ∃ v, Glb c f v /\ Keep0 c v /\ CallOk c l v ds d
theorem Fn.of {c : Cfg} {l : Nat} {f : Str} {id : String} {ds : List PyData} {d : PyData} (g : Glb c f (.builtin id)) (h : CallOk c l (.builtin id) ds d) : Fn c l f ds d := ⟨_, g, keep_builtin, h⟩
theorem Fn.ofT {c : Cfg} {l : Nat} {f : Str} {id : String} {ds : List PyData} {d : PyData} (g : Glb c f (.type id)) (h : CallOk c l (.type id) ds d) : Fn c l f ds d := ⟨_, g, keep_type, h⟩
section
variable {c : Cfg} {l : Nat} {X : List Addr} {env : Env} {Γ : Gam}
theorem Ev.callF {f : Str} {np pos : Pos} {e : Expr} {es : List Expr} {ds : List PyData} {d : PyData} (h : Fn c l f ds d) (ha : EvA c l X env Γ pos (e :: es) ds) (hf : autoParam (env.kindOf f = some .globalImplicit) aR)
  (hd : (f == ("__debug__" : Str)) = false := by decide) (he : autoParam (starEach (e :: es) env = (false, eval e env) :: starEach es env) aR) (hp : autoParam ((backTo pos (starEach es env)).any (·.1) = false) aR) :
  Ev c l X env Γ (.Call (.Name f np) (e :: es) [] pos) d := by
 obtain ⟨v, g, k, h⟩ := h
 exact Ev.call g hf k ha h hd he hp
noncomputable abbrev fdOf (d : DefRec) (pm code doc : Value) : FuncData := docDef d.name d.params d.body d.scope pm code doc
theorem Wd.call {p : Program} {loose : List Str} {mg mb : Str -> Option Value} (W : Wd c p loose mg mb) (d : DefRec) (hd : d ∈ recsOf p) {ds : List PyData} {r : PyData} (ps : List Str) (hok : fnOk d.scope ps = true) (hlen : ps.length = ds.length) (hl : l < 60)
  (hbind : ∀ (pm code doc : Value) (vs : List Value), vs.length = ps.length -> bindArgs (fdOf d pm code doc) ⟨vs, []⟩ = pure (ps.zip vs))
  (h : ∀ (A : Around) (s0 : Shared) (a L : Addr) (X : List Addr) (pm code doc : Value), X0ok (fnAct c l (fdOf d pm code doc) L a X) s0 -> (∃ outer, A.frames = some ((fnAct c l (fdOf d pm code doc) L a X).env :: outer)) -> Ex (fnAct c l (fdOf d pm code doc) L a X) A s0 NoE (ps.zip ds) [] [] d.body fun o => o = .ret r \/ (r = .none /\ ∃ Γ R Δ, o = .next Γ R Δ)) : Fn c l d.name ds r := by
 obtain ⟨a, pm, code, doc, hm, F⟩ := W.fn d hd
 obtain ⟨o, ho, hdat⟩ := F.at_
 exact ⟨.ref a, glb_g W.g hm, keep_fn ho hdat, fn_ok F hok hlen hl (fun vs hv => hbind pm code doc vs hv) fun A s0 L X hX hA => h A s0 a L X pm code doc hX hA⟩
theorem bind1 {fd : FuncData} {p : Str} (h : ∀ a, bindArgs fd ⟨[a], []⟩ = pure [(p, a)]) (vs : List Value) (hv : vs.length = [p].length) : bindArgs fd ⟨vs, []⟩ = pure ([p].zip vs) := by
 obtain ⟨a, rfl⟩ := List.length_eq_one_iff.mp hv
 exact h a
theorem bind2 {fd : FuncData} {p q : Str} (h : ∀ a b, bindArgs fd ⟨[a, b], []⟩ = pure [(p, a), (q, b)]) (vs : List Value) (hv : vs.length = [p, q].length) : bindArgs fd ⟨vs, []⟩ = pure ([p, q].zip vs) := by
 obtain ⟨a, b, rfl⟩ := len_two hv
 exact h a b
theorem bind3 {fd : FuncData} {p q r : Str} (h : ∀ a b c, bindArgs fd ⟨[a, b, c], []⟩ = pure [(p, a), (q, b), (r, c)]) (vs : List Value) (hv : vs.length = [p, q, r].length) : bindArgs fd ⟨vs, []⟩ = pure ([p, q, r].zip vs) := by
 obtain ⟨a, t, rfl⟩ := List.exists_cons_of_length_eq_add_one hv
 obtain ⟨b, c, rfl⟩ := len_two (Nat.succ.inj hv)
 exact h a b c
end
end
section
open Classical in
noncomputable def liftF {α β : Type} (L : List α) (g : α -> PyData) (f : α -> β) (z : β) (d : PyData) : β := if h : ∃ a, a ∈ L /\ g a = d then f h.choose else z
theorem liftF_eq {α β : Type} {L : List α} {g : α -> PyData} {f : α -> β} {z : β} (hg : ∀ a ∈ L, ∀ b ∈ L, g a = g b -> f a = f b) {a : α} (ha : a ∈ L) : liftF L g f z (g a) = f a := by
 unfold liftF
 have h : ∃ b, b ∈ L /\ g b = g a := ⟨a, ha, rfl⟩
 rw [dif_pos h]
 exact hg _ h.choose_spec.1 _ ha h.choose_spec.2
theorem filt_map {α β : Type} {L : List α} {g : α -> PyData} {bs : α -> Bool} {f : α -> β} {BS : PyData -> Bool} {F : PyData -> β} (hb : ∀ a ∈ L, BS (g a) = bs a) (hf : ∀ a ∈ L, F (g a) = f a) : ((L.map g).filter BS).map F = (L.filter bs).map f := by
 induction L with
 | nil => rfl
 | cons a L ih =>
  have ih' := ih (fun x hx => hb x (.tail _ hx)) (fun x hx => hf x (.tail _ hx))
  rw [List.map_cons, List.filter_cons, List.filter_cons, hb a (.head _)]
  split
  ·rw [List.map_cons, List.map_cons, ih', hf a (.head _)]
  ·exact ih'
theorem filt_flat {α β : Type} {L : List α} {g : α -> PyData} {bs : α -> Bool} {f : α -> List β} {BS : PyData -> Bool} {F : PyData -> List β} (hb : ∀ a ∈ L, BS (g a) = bs a) (hf : ∀ a ∈ L, F (g a) = f a) : ((L.map g).filter BS).flatMap F = (L.filter bs).flatMap f := by
 induction L with
 | nil => rfl
 | cons a L ih =>
  have ih' := ih (fun x hx => hb x (.tail _ hx)) (fun x hx => hf x (.tail _ hx))
  rw [List.map_cons, List.filter_cons, List.filter_cons, hb a (.head _)]
  split
  ·rw [List.flatMap_cons, List.flatMap_cons, ih', hf a (.head _)]
  ·exact ih'
structure TB {α : Type} (pair : Bool) (tg : Expr) (xs : List Str) (g : α -> PyData) (Γd : α -> Gam) : Prop where
 bind : ∀ a, Bind2 pair tg (g a) xs (Γd a)
 inj : ∀ a b, g a = g b -> a = b
 ok : TgI pair tg
theorem TB.name {α : Type} {x : Str} {p : Pos} {g : α -> PyData} (hg : ∀ a b, g a = g b -> a = b) (hd : (x == ("__debug__" : Str)) = false := by decide +kernel) : TB false (.Name x p) [x] g (fun a => [(x, g a)]) := ⟨fun a => .name hd, hg, .name⟩
theorem TB.pair {α β : Type} {a b : Str} {pa pb p : Pos} {k : Nat} {g1 : α -> PyData} {g2 : β -> PyData} (h1 : ∀ a b, g1 a = g1 b -> a = b) (h2 : ∀ a b, g2 a = g2 b -> a = b) (hab : (b != a) = true := by decide +kernel) :
  TB true (.Tuple [.Name a pa, .Name b pb] k p) [a, b] (fun z : α × β => .tuple [g1 z.1, g2 z.2]) (fun z => [(b, g2 z.2), (a, g1 z.1)]) :=
 ⟨fun z => .pair hab, fun z w e => by
  have e' : g1 z.1 = g1 w.1 /\ g2 z.2 = g2 w.2 := by
   injection e with e
   injection e with e1 e
   injection e with e2 _
   exact ⟨e1, e2⟩
  exact Prod.ext (h1 _ _ e'.1) (h2 _ _ e'.2), .tuple⟩
theorem inj_int : ∀ a b : Int, PyData.int a = .int b -> a = b := fun a b h => by injection h
theorem inj_nat : ∀ a b : Nat, PyData.int (a : Nat) = .int (b : Nat) -> a = b := fun a b h => by
 injection h with h
 exact Int.ofNat.inj h
theorem inj_str : ∀ a b : Str, PyData.str a = .str b -> a = b := fun a b h => by injection h
theorem inj_map {α : Type} {g : α -> PyData} (h : ∀ a b, g a = g b -> a = b) (a b : List α) (e : a.map g = b.map g) : a = b := (List.map_inj_right h).mp e
theorem inj_list {α : Type} {g : α -> PyData} (h : ∀ a b, g a = g b -> a = b) : ∀ a b : List α, PyData.list (a.map g) = .list (b.map g) -> a = b := fun a b e => by
 injection e with e
 exact inj_map h a b e
section
variable {c : Cfg} {l : Nat} {X : List Addr} {env : Env} {Γ : Gam}
theorem EvC.comp {α : Type} {L : List α} {g : α -> PyData} {Γc : Gam} {elt tg iter : Expr} {ifs : List Expr} {scope : Scope} {pos : Pos} {pair : Bool} {xs : List Str} {Γd : α -> Gam} (bs : α -> Bool) (f : α -> PyData)
  (T : TB pair tg xs g Γd) (hI : EvI c l X env Γ pair iter (L.map g)) (hs : scOk env scope) (hc : Cap env scope Γ Γc) (hxs : ∀ x ∈ xs, scope.names.lookup x = some .local \/ scope.names.lookup x = some .cell) (ho : offN xs Γc)
  (ht : ∀ cs C XL, ∀ a ∈ L, EvTs c l XL (cenvOf scope cs C env) (Γd a ++ Γc) ifs (bs a))
  (he : ∀ cs C XL, ∀ a ∈ L, bs a = true -> Ev c l XL (cenvOf scope cs C env) (Γd a ++ Γc) elt (f a)) (hz : L.length <= 10 ^ 6) (hfold : ∀ x, foldedSetIterable iter env x = pure x := by intro _; rfl) :
  EvC c l X env Γ (.ListComp elt [⟨tg, iter, ifs, 0⟩] scope pos) (.list ((L.filter bs).map f)) := by
 have e1 : ∀ a ∈ L, liftF L g Γd [] (g a) = Γd a := fun a ha => liftF_eq (fun x _ y _ e => by rw [T.inj _ _ e]) ha
 have e2 : ∀ a ∈ L, liftF L g bs false (g a) = bs a := fun a ha => liftF_eq (fun x _ y _ e => by rw [T.inj _ _ e]) ha
 have e3 : ∀ a ∈ L, liftF L g f .none (g a) = f a := fun a ha => liftF_eq (fun x _ y _ e => by rw [T.inj _ _ e]) ha
 have := EvC.listComp (elt := elt) (ifs := ifs) (pos := pos) (liftF L g bs false) (liftF L g f .none) (Γd := liftF L g Γd []) hI (fun d hd => ?_) hs hc hxs ho (fun cs C XL d hd => ?_) (fun cs C XL d hd hb => ?_) (by simpa using hz) T.ok hfold
 ·rw [filt_map e2 e3] at this
  exact this
 all_goals
  obtain ⟨a, ha⟩ := mem_mapI hd
 ·rw [e1 a ha]; exact T.bind a
 ·rw [e1 a ha, e2 a ha]; exact ht cs C XL a ha
 ·rw [e1 a ha, e3 a ha]; exact he cs C XL a ha (e2 a ha ▸ hb)
theorem EvC.comp2 {α β : Type} {L : List α} {g : α -> PyData} {M : α -> List β} {k : β -> PyData} {Γc : Gam} {elt tg tg2 iter iter2 : Expr} {ifs ifs2 : List Expr} {scope : Scope} {pos : Pos} {pair pair2 : Bool} {xs xs2 : List Str} {Γd : α -> Gam} {Γd2 : β -> Gam} (bs : α -> Bool) (bs2 : α -> β -> Bool) (f : α -> β -> PyData)
  (T : TB pair tg xs g Γd) (T2 : TB pair2 tg2 xs2 k Γd2) (hI : EvI c l X env Γ pair iter (L.map g)) (hs : scOk env scope) (hc : Cap env scope Γ Γc) (hxs : ∀ x ∈ xs ++ xs2, scope.names.lookup x = some .local \/ scope.names.lookup x = some .cell) (ho : offN xs Γc)
  (ht : ∀ cs C XL, ∀ a ∈ L, EvTs c l XL (cenvOf scope cs C env) (Γd a ++ Γc) ifs (bs a))
  (hI2 : ∀ cs C XL, ∀ a ∈ L, bs a = true -> EvI c l XL (cenvOf scope cs C env) (Γd a ++ Γc) pair2 iter2 ((M a).map k)) (ho2 : ∀ a ∈ L, offN xs2 (Γd a ++ Γc))
  (ht2 : ∀ cs C XL, ∀ a ∈ L, bs a = true -> ∀ b ∈ M a, EvTs c l XL (cenvOf scope cs C env) (Γd2 b ++ (Γd a ++ Γc)) ifs2 (bs2 a b))
  (he : ∀ cs C XL, ∀ a ∈ L, bs a = true -> ∀ b ∈ M a, bs2 a b = true -> Ev c l XL (cenvOf scope cs C env) (Γd2 b ++ (Γd a ++ Γc)) elt (f a b))
  (hz : ((L.filter bs).flatMap M).length <= 10 ^ 6) (hfold : ∀ x, foldedSetIterable iter env x = pure x := by intro _; rfl) (hfold2 : ∀ cs C x, foldedSetIterable iter2 (cenvOf scope cs C env) x = pure x := by intro _ _ _; rfl) :
  EvC c l X env Γ (.ListComp elt [⟨tg, iter, ifs, 0⟩, ⟨tg2, iter2, ifs2, 0⟩] scope pos) (.list ((L.filter bs).flatMap fun a => ((M a).filter (bs2 a)).map (f a))) := by
 have e1 : ∀ a ∈ L, liftF L g Γd [] (g a) = Γd a := fun a ha => liftF_eq (fun x _ y _ e => by rw [T.inj _ _ e]) ha
 have e2 : ∀ a ∈ L, liftF L g bs false (g a) = bs a := fun a ha => liftF_eq (fun x _ y _ e => by rw [T.inj _ _ e]) ha
 have e4 : ∀ a ∈ L, liftF L g (fun a => (M a).map k) [] (g a) = (M a).map k := fun a ha => liftF_eq (fun x _ y _ e => by rw [T.inj _ _ e]) ha
 have e5 : ∀ a ∈ L, liftF L g (fun a => liftF (M a) k Γd2 []) (fun _ => []) (g a) = liftF (M a) k Γd2 [] := fun a ha => liftF_eq (f := fun a => liftF (M a) k Γd2 []) (fun x _ y _ e => by rw [T.inj _ _ e]) ha
 have e6 : ∀ a ∈ L, liftF L g (fun a => liftF (M a) k (bs2 a) false) (fun _ => false) (g a) = liftF (M a) k (bs2 a) false := fun a ha => liftF_eq (f := fun a => liftF (M a) k (bs2 a) false) (fun x _ y _ e => by rw [T.inj _ _ e]) ha
 have e7 : ∀ a ∈ L, liftF L g (fun a => liftF (M a) k (f a) .none) (fun _ => .none) (g a) = liftF (M a) k (f a) .none := fun a ha => liftF_eq (f := fun a => liftF (M a) k (f a) .none) (fun x _ y _ e => by rw [T.inj _ _ e]) ha
 have d5 : ∀ a, ∀ b ∈ M a, liftF (M a) k Γd2 [] (k b) = Γd2 b := fun a b hb => liftF_eq (fun x _ y _ e => by rw [T2.inj _ _ e]) hb
 have d6 : ∀ a, ∀ b ∈ M a, liftF (M a) k (bs2 a) false (k b) = bs2 a b := fun a b hb => liftF_eq (fun x _ y _ e => by rw [T2.inj _ _ e]) hb
 have d7 : ∀ a, ∀ b ∈ M a, liftF (M a) k (f a) .none (k b) = f a b := fun a b hb => liftF_eq (fun x _ y _ e => by rw [T2.inj _ _ e]) hb
 have hz' : (((L.map g).filter (liftF L g bs false)).flatMap (liftF L g (fun a => (M a).map k) [])).length <= 10 ^ 6 := by
  rw [filt_flat (f := fun a => (M a).map k) e2 e4]
  simpa [List.length_flatMap] using hz
 have := EvC.listComp2 (elt := elt) (ifs := ifs) (ifs2 := ifs2) (pos := pos) (liftF L g bs false) (liftF L g (fun a => (M a).map k) []) (liftF L g (fun a => liftF (M a) k (bs2 a) false) (fun _ => false)) (liftF L g (fun a => liftF (M a) k (f a) .none) (fun _ => .none))
  (Γd := liftF L g Γd []) (Γd2 := liftF L g (fun a => liftF (M a) k Γd2 []) (fun _ => [])) (xs2 := xs2) (pair2 := pair2) hI (fun d hd => ?_) hs hc hxs ho (fun cs C XL d hd => ?_) (fun cs C XL d hd hb => ?_) (fun d hd hb e he' => ?_) (fun d hd => ?_) (fun cs C XL d hd hb e he' => ?_) (fun cs C XL d hd hb e he' hb2 => ?_) hz' T.ok T2.ok hfold hfold2
 ·rw [filt_flat (f := fun a => ((M a).filter (bs2 a)).map (f a)) e2 (fun a ha => ?_)] at this
  ·exact this
  ·rw [e4 a ha, e6 a ha, e7 a ha]
   exact filt_map (d6 a) (d7 a)
 all_goals
  obtain ⟨a, ha⟩ := mem_mapI hd
 ·rw [e1 a ha]; exact T.bind a
 ·rw [e1 a ha, e2 a ha]; exact ht cs C XL a ha
 ·rw [e1 a ha, e4 a ha]; exact hI2 cs C XL a ha (e2 a ha ▸ hb)
 ·rw [e4 a ha] at he'
  obtain ⟨b, hbm⟩ := mem_mapI he'
  rw [e5 a ha, d5 a b hbm]; exact T2.bind b
 ·rw [e1 a ha]; exact ho2 a ha
 ·rw [e4 a ha] at he'
  obtain ⟨b, hbm⟩ := mem_mapI he'
  rw [e1 a ha, e5 a ha, d5 a b hbm, e6 a ha, d6 a b hbm]; exact ht2 cs C XL a ha (e2 a ha ▸ hb) b hbm
 ·rw [e4 a ha] at he'
  obtain ⟨b, hbm⟩ := mem_mapI he'
  rw [e6 a ha, d6 a b hbm] at hb2
  rw [e1 a ha, e5 a ha, d5 a b hbm, e7 a ha, d7 a b hbm]; exact he cs C XL a ha (e2 a ha ▸ hb) b hbm hb2
theorem EvC.compD {α K : Type} [DecidableEq K] (dk : DKey c.w K) (k0 : K) {L : List α} {g : α -> PyData} {Γc : Gam} {kx vx tg iter : Expr} {ifs : List Expr} {scope : Scope} {pos : Pos} {pair : Bool} {xs : List Str} {Γd : α -> Gam} (bs : α -> Bool) (kf : α -> K) (f : α -> PyData)
  (T : TB pair tg xs g Γd) (hI : EvI c l X env Γ pair iter (L.map g)) (hs : scOk env scope) (hc : Cap env scope Γ Γc) (hxs : ∀ x ∈ xs, scope.names.lookup x = some .local \/ scope.names.lookup x = some .cell) (ho : offN xs Γc)
  (ht : ∀ cs C XL, ∀ a ∈ L, EvTs c l XL (cenvOf scope cs C env) (Γd a ++ Γc) ifs (bs a))
  (hek : ∀ cs C XL, ∀ a ∈ L, bs a = true -> Ev c l XL (cenvOf scope cs C env) (Γd a ++ Γc) kx (dk.enc (kf a)))
  (hev : ∀ cs C XL, ∀ a ∈ L, bs a = true -> Ev c l XL (cenvOf scope cs C env) (Γd a ++ Γc) vx (f a)) (hz : L.length <= 10 ^ 6) (hn : ((L.filter bs).map kf).Nodup) (hfold : ∀ x, foldedSetIterable iter env x = pure x := by intro _; rfl) :
  EvC c l X env Γ (.DictComp kx vx [⟨tg, iter, ifs, 0⟩] scope pos) (.dict ((L.filter bs).map fun a => (dk.enc (kf a), f a))) := by
 have e1 : ∀ a ∈ L, liftF L g Γd [] (g a) = Γd a := fun a ha => liftF_eq (fun x _ y _ e => by rw [T.inj _ _ e]) ha
 have e2 : ∀ a ∈ L, liftF L g bs false (g a) = bs a := fun a ha => liftF_eq (fun x _ y _ e => by rw [T.inj _ _ e]) ha
 have e3 : ∀ a ∈ L, liftF L g f .none (g a) = f a := fun a ha => liftF_eq (fun x _ y _ e => by rw [T.inj _ _ e]) ha
 have e4 : ∀ a ∈ L, liftF L g kf k0 (g a) = kf a := fun a ha => liftF_eq (fun x _ y _ e => by rw [T.inj _ _ e]) ha
 have := EvC.dictComp dk (kx := kx) (vx := vx) (ifs := ifs) (pos := pos) (liftF L g bs false) (liftF L g kf k0) (liftF L g f .none) (Γd := liftF L g Γd []) hI (fun d hd => ?_) hs hc hxs ho (fun cs C XL d hd => ?_) (fun cs C XL d hd hb => ?_) (fun cs C XL d hd hb => ?_) (by simpa using hz)
  (by rw [filt_map e2 e4]; exact hn) T.ok hfold
 ·rw [filt_map (f := fun a => (dk.enc (kf a), f a)) e2 (fun a ha => by rw [e3 a ha, e4 a ha])] at this
  exact this
 all_goals
  obtain ⟨a, ha⟩ := mem_mapI hd
 ·rw [e1 a ha]; exact T.bind a
 ·rw [e1 a ha, e2 a ha]; exact ht cs C XL a ha
 ·rw [e1 a ha, e4 a ha]; exact hek cs C XL a ha (e2 a ha ▸ hb)
 ·rw [e1 a ha, e3 a ha]; exact hev cs C XL a ha (e2 a ha ▸ hb)
end
end
section
noncomputable def scB (env : Env) (scope : Scope) : Bool := scope.kind == .function && decide (scope.names.map (·.1)).Nodup && scope.names.all fun p => p.2 != .free || (env.kindOf p.1 == some .cell || env.kindOf p.1 == some .free)
theorem scOk.of {env : Env} {scope : Scope} (h : scB env scope = true) : scOk env scope := by
 unfold scB at h
 simp only [Bool.and_eq_true, Bool.or_eq_true, decide_eq_true_eq, List.all_eq_true, bne_iff_ne, ne_eq, beq_iff_eq] at h
 obtain ⟨⟨h1, h2⟩, h3⟩ := h
 refine ⟨h1, h2, fun p hp hf => ?_⟩
 rcases h3 p hp with q | q
 ·exact absurd hf q
 ·exact q
noncomputable def capB (env : Env) (scope : Scope) (x : Str) : Bool := scope.names.lookup x == some .free && !(x == ("__classdict__" : Str)) && (env.kindOf x == some .cell || env.kindOf x == some .free)
theorem Cap.nil {env : Env} {scope : Scope} {Γ : Gam} : Cap env scope Γ [] := fun p hp => nomatch hp
theorem Cap.cons {env : Env} {scope : Scope} {Γ Γc : Gam} {x : Str} {d : PyData} (hm : (x, d) ∈ Γ) (hc : Cap env scope Γ Γc) (h : autoParam (capB env scope x = true) aK) : Cap env scope Γ ((x, d) :: Γc) := fun p hp => by
 rcases lC hp with rfl | hp
 ·unfold capB at h
  simp only [Bool.and_eq_true, Bool.or_eq_true, beq_iff_eq, Bool.not_eq_true'] at h
  exact ⟨hm, h.1.1, h.1.2, h.2⟩
 ·exact hc p hp
noncomputable def tgB (scope : Scope) (xs : List Str) : Bool := xs.all fun x => scope.names.lookup x == some .local || scope.names.lookup x == some .cell
theorem tg_of {scope : Scope} {xs : List Str} (h : tgB scope xs = true) : ∀ x ∈ xs, scope.names.lookup x = some .local \/ scope.names.lookup x = some .cell := fun x hx => by
 have := List.all_eq_true.mp h x hx
 simpa using this
noncomputable def offB (xs : List Str) (ys : List Str) : Bool := ys.all fun y => !xs.contains y
theorem off_of {xs : List Str} {Γ : Gam} (h : offB xs (Γ.map (·.1)) = true) : offN xs Γ := fun p hp hx => by
 have := List.all_eq_true.mp h p.1 (lM (f := (·.1)) hp)
 simp at this
 exact this hx
section
variable {c : Cfg} {l : Nat} {X : List Addr} {env : Env} {Γ Γc : Gam}
theorem Ev.n {x : Str} {pos : Pos} {d : PyData} (hm : (x, d) ∈ Γ) (hd : autoParam ((x == ("__debug__" : Str)) = false) aK) : Ev c l X env Γ (.Name x pos) d := Ev.name hm hd
theorem Ev.as {e : Expr} {d d' : PyData} (h : Ev c l X env Γ e d) (e' : d = d') : Ev c l X env Γ e d' := e' ▸ h
theorem Et.as {e : Expr} {b b' : Bool} (h : Et c l X env Γ e b) (e' : b = b') : Et c l X env Γ e b' := e' ▸ h
theorem EvC.as {e : Expr} {d d' : PyData} (h : EvC c l X env Γ e d) (e' : d = d') : EvC c l X env Γ e d' := e' ▸ h
theorem EvI.as {pair : Bool} {e : Expr} {ds ds' : List PyData} (h : EvI c l X env Γ pair e ds) (e' : ds = ds') : EvI c l X env Γ pair e ds' := e' ▸ h
theorem filter_true {α : Type} (l : List α) : l.filter (fun _ => true) = l := List.filter_eq_self.mpr fun _ _ => rfl
theorem EvC.nm {α : Type} {L : List α} {g : α -> PyData} {x : Str} {p : Pos} {elt iter : Expr} {scope : Scope} {pos : Pos} (f : α -> PyData) (hg : ∀ a b, g a = g b -> a = b) (hI : EvI c l X env Γ false iter (L.map g)) (hc : Cap env scope Γ Γc)
  (he : ∀ cs C XL, ∀ a ∈ L, Ev c l XL (cenvOf scope cs C env) ((x, g a) :: Γc) elt (f a)) (hz : L.length <= 10 ^ 6) (hs : autoParam (scB env scope = true) aK) (ht : autoParam (tgB scope [x] = true) aK) (ho : autoParam (offB [x] (Γc.map (·.1)) = true) aK)
  (hd : autoParam ((x == ("__debug__" : Str)) = false) aK) (hfold : ∀ x, foldedSetIterable iter env x = pure x := by intro _; rfl) : EvC c l X env Γ (.ListComp elt [⟨.Name x p, iter, [], 0⟩] scope pos) (.list (L.map f)) :=
 (EvC.comp (fun _ => true) f (TB.name hg hd) hI (scOk.of hs) hc (tg_of ht) (off_of ho) (fun _ _ _ _ _ => .nil) (fun cs C XL a ha _ => he cs C XL a ha) hz hfold).as (by rw [filter_true])
theorem EvC.nmIf {α : Type} {L : List α} {g : α -> PyData} {x : Str} {p : Pos} {elt iter test : Expr} {scope : Scope} {pos : Pos} (bs : α -> Bool) (f : α -> PyData) (hg : ∀ a b, g a = g b -> a = b) (hI : EvI c l X env Γ false iter (L.map g)) (hc : Cap env scope Γ Γc)
  (hb : ∀ cs C XL, ∀ a ∈ L, Et c l XL (cenvOf scope cs C env) ((x, g a) :: Γc) test (bs a)) (he : ∀ cs C XL, ∀ a ∈ L, bs a = true -> Ev c l XL (cenvOf scope cs C env) ((x, g a) :: Γc) elt (f a)) (hz : L.length <= 10 ^ 6) (hs : autoParam (scB env scope = true) aK)
  (ht : autoParam (tgB scope [x] = true) aK) (ho : autoParam (offB [x] (Γc.map (·.1)) = true) aK) (hd : autoParam ((x == ("__debug__" : Str)) = false) aK) (hfold : ∀ x, foldedSetIterable iter env x = pure x := by intro _; rfl) : EvC c l X env Γ (.ListComp elt [⟨.Name x p, iter, [test], 0⟩] scope pos) (.list ((L.filter bs).map f)) :=
 EvC.comp bs f (TB.name hg hd) hI (scOk.of hs) hc (tg_of ht) (off_of ho) (fun cs C XL a ha => .one (hb cs C XL a ha)) (fun cs C XL a ha hb => he cs C XL a ha hb) hz hfold
theorem EvC.pr {α β : Type} {L : List (α × β)} {g1 : α -> PyData} {g2 : β -> PyData} {x y : Str} {p q r : Pos} {k : Nat} {elt iter : Expr} {scope : Scope} {pos : Pos} (f : α -> β -> PyData) (h1 : ∀ a b, g1 a = g1 b -> a = b) (h2 : ∀ a b, g2 a = g2 b -> a = b)
  (hI : EvI c l X env Γ true iter (L.map fun z => .tuple [g1 z.1, g2 z.2])) (hc : Cap env scope Γ Γc) (he : ∀ cs C XL a b, (a, b) ∈ L -> Ev c l XL (cenvOf scope cs C env) ((y, g2 b) :: (x, g1 a) :: Γc) elt (f a b)) (hz : L.length <= 10 ^ 6) (hs : autoParam (scB env scope = true) aK)
  (ht : autoParam (tgB scope [x, y] = true) aK) (ho : autoParam (offB [x, y] (Γc.map (·.1)) = true) aK) (hd : autoParam ((y != x) = true) aK) (hfold : ∀ x, foldedSetIterable iter env x = pure x := by intro _; rfl) :
  EvC c l X env Γ (.ListComp elt [⟨.Tuple [.Name x p, .Name y q] k r, iter, [], 0⟩] scope pos) (.list (L.map fun z => f z.1 z.2)) :=
 (EvC.comp (elt := elt) (fun _ => true) (fun z : α × β => f z.1 z.2) (TB.pair h1 h2 hd) hI (scOk.of hs) hc (tg_of ht) (off_of ho) (fun _ _ _ _ _ => .nil) (fun cs C XL a ha _ => he cs C XL a.1 a.2 ha) hz hfold).as (by rw [filter_true])
theorem EvC.prIf {α β : Type} {L : List (α × β)} {g1 : α -> PyData} {g2 : β -> PyData} {x y : Str} {p q r : Pos} {k : Nat} {elt iter test : Expr} {scope : Scope} {pos : Pos} (bs : α -> β -> Bool) (f : α -> β -> PyData) (h1 : ∀ a b, g1 a = g1 b -> a = b) (h2 : ∀ a b, g2 a = g2 b -> a = b)
  (hI : EvI c l X env Γ true iter (L.map fun z => .tuple [g1 z.1, g2 z.2])) (hc : Cap env scope Γ Γc) (hb : ∀ cs C XL a b, (a, b) ∈ L -> Et c l XL (cenvOf scope cs C env) ((y, g2 b) :: (x, g1 a) :: Γc) test (bs a b)) (he : ∀ cs C XL a b, (a, b) ∈ L -> bs a b = true -> Ev c l XL (cenvOf scope cs C env) ((y, g2 b) :: (x, g1 a) :: Γc) elt (f a b))
  (hz : L.length <= 10 ^ 6) (hs : autoParam (scB env scope = true) aK) (ht : autoParam (tgB scope [x, y] = true) aK) (ho : autoParam (offB [x, y] (Γc.map (·.1)) = true) aK) (hd : autoParam ((y != x) = true) aK) (hfold : ∀ x, foldedSetIterable iter env x = pure x := by intro _; rfl) :
  EvC c l X env Γ (.ListComp elt [⟨.Tuple [.Name x p, .Name y q] k r, iter, [test], 0⟩] scope pos) (.list ((L.filter fun z => bs z.1 z.2).map fun z => f z.1 z.2)) :=
 EvC.comp (elt := elt) (fun z : α × β => bs z.1 z.2) (fun z : α × β => f z.1 z.2) (TB.pair h1 h2 hd) hI (scOk.of hs) hc (tg_of ht) (off_of ho) (fun cs C XL a ha => .one (hb cs C XL a.1 a.2 ha)) (fun cs C XL a ha hb => he cs C XL a.1 a.2 ha hb) hz hfold
theorem EvC.nm2 {α β : Type} {L : List α} {g : α -> PyData} {M : α -> List β} {k : β -> PyData} {x y : Str} {p q : Pos} {elt iter iter2 : Expr} {scope : Scope} {pos : Pos} (f : α -> β -> PyData) (hg : ∀ a b, g a = g b -> a = b) (hk : ∀ a b, k a = k b -> a = b) (hI : EvI c l X env Γ false iter (L.map g)) (hc : Cap env scope Γ Γc)
  (hI2 : ∀ cs C XL, ∀ a ∈ L, EvI c l XL (cenvOf scope cs C env) ((x, g a) :: Γc) false iter2 ((M a).map k)) (he : ∀ cs C XL, ∀ a ∈ L, ∀ b ∈ M a, Ev c l XL (cenvOf scope cs C env) ((y, k b) :: (x, g a) :: Γc) elt (f a b)) (hz : (L.flatMap M).length <= 10 ^ 6)
  (hs : autoParam (scB env scope = true) aK) (ht : autoParam (tgB scope [x, y] = true) aK) (ho : autoParam (offB [x, y] (Γc.map (·.1)) = true) aK) (hxy : autoParam ((x != y) = true) aK) (hd : autoParam ((x == ("__debug__" : Str)) = false) aK) (hd2 : autoParam ((y == ("__debug__" : Str)) = false) aK)
  (hfold : ∀ x, foldedSetIterable iter env x = pure x := by intro _; rfl) (hfold2 : ∀ cs C x, foldedSetIterable iter2 (cenvOf scope cs C env) x = pure x := by intro _ _ _; rfl) :
  EvC c l X env Γ (.ListComp elt [⟨.Name x p, iter, [], 0⟩, ⟨.Name y q, iter2, [], 0⟩] scope pos) (.list (L.flatMap fun a => (M a).map (f a))) := by
 have o := off_of ho
 refine (EvC.comp2 (fun _ => true) (fun _ _ => true) f (TB.name hg hd) (TB.name hk hd2) hI (scOk.of hs) hc (tg_of (show tgB scope ([x] ++ [y]) = true from ht)) (fun r hr hx => o r hr (lS hx ▸ .head _)) (fun _ _ _ _ _ => .nil) (fun cs C XL a ha _ => hI2 cs C XL a ha) (fun a ha r hr hy => ?_) (fun _ _ _ _ _ _ _ _ => .nil)
  (fun cs C XL a ha _ b hb _ => he cs C XL a ha b hb) (by rw [filter_true]; exact hz) hfold hfold2).as (by simp only [filter_true])
 have hr' : r ∈ (x, g a) :: Γc := hr
 rcases lC hr' with rfl | hr'
 ·have : x ≠ y := by simpa using hxy
  exact this (lS hy)
 ·exact o r hr' (lS hy ▸ .tail _ (.head _))
theorem rng_eq {n : Nat} : rng 0 n = (List.range n).map fun (i : Nat) => PyData.int (i : Nat) := by
 unfold rng
 exact List.map_congr_left fun i _ => by rw [Int.zero_add]
theorem EvI.range {e : Expr} {f : Str} {np pos : Pos} {n : Nat} (hg : Glb c f (.type "range")) (h : Ev c l X env Γ e (.int (n : Nat))) (hn : n <= 10 ^ 9) (hf : autoParam (env.kindOf f = some .globalImplicit) aK)
  (hd : autoParam ((f == ("__debug__" : Str)) = false) aK) (he : autoParam (starEach [e] env = (false, eval e env) :: starEach [] env) aR) : EvI c l X env Γ false (.Call (.Name f np) [e] [] pos) ((List.range n).map fun (i : Nat) => .int (i : Nat)) := (EvI.ofRange hg hf h hn hd he).as rng_eq
theorem Ev.iteI {test body orelse : Expr} {pos : Pos} {b : Bool} {i j : Int} (ht : Et c l X env Γ test b) (h1 : Ev c l X env Γ body (.int i)) (h2 : Ev c l X env Γ orelse (.int j)) : Ev c l X env Γ (.IfExp test body orelse pos) (.int (if b then i else j)) :=
 .ifexp ht (fun e => by rw [e]; exact h1) fun e => by rw [e]; exact h2
theorem Ev.ite {test body orelse : Expr} {pos : Pos} {b : Bool} {d e : PyData} (ht : Et c l X env Γ test b) (h1 : b = true -> Ev c l X env Γ body d) (h2 : b = false -> Ev c l X env Γ orelse e) : Ev c l X env Γ (.IfExp test body orelse pos) (if b then d else e) :=
 .ifexp ht (fun q => by rw [q]; exact h1 q) fun q => by rw [q]; exact h2 q
noncomputable abbrev iL (ns : List Int) : PyData := .list (ns.map .int)
theorem canInts : ∀ ns : List Int, PyData.canLayAll0 (ns.map .int) = true
 | [] => rfl
 | n :: ns => by simp [PyData.canLayAll0, PyData.canLay0, canInts ns]
theorem any_eqv (i : Int) : ∀ ns : List Int, ((ns.map PyData.int).any fun y => PyData.eqv y (.int i)) = decide (i ∈ ns)
 | [] => by simp
 | n :: ns => by
  rw [List.map_cons, List.any_cons, any_eqv i ns]
  by_cases h : n = i
  ·subst h; simp [PyData.eqv]
  ·have : i ≠ n := fun e => h e.symm
   simp [PyData.eqv, h, this]
theorem P2.inI {i : Int} {ns : List Int} : P2 c (compareOp .In) (.int i) (iL ns) (.bool (decide (i ∈ ns))) := by
 rw [<- any_eqv]
 exact P2.inL rfl (canInts ns) (by simp [PyData.depth])
theorem P2.notInI {i : Int} {ns : List Int} : P2 c (compareOp .NotIn) (.int i) (iL ns) (.bool (!decide (i ∈ ns))) := by
 rw [<- any_eqv]
 exact P2.notInL rfl (canInts ns) (by simp [PyData.depth])
theorem P2.eqB {a b : Bool} : P2 c (compareOp .Eq) (.bool a) (.bool b) (.bool (a == b)) := P2.eq (d1 := .bool a) (d2 := .bool b) rfl rfl (by simp [PyData.depth])
theorem P2.neB {a b : Bool} : P2 c (compareOp .NotEq) (.bool a) (.bool b) (.bool (a != b)) := P2.ne (d1 := .bool a) (d2 := .bool b) rfl rfl (by simp [PyData.depth])
end
end
section
section
variable {c : Cfg} {l : Nat} {X : List Addr} {env : Env} {Γ Γc : Gam}
theorem EvF.list {pos : Pos} {es : List Expr} {ds : List PyData} (h : EvA c l X env Γ pos es ds) (hz : ds.length <= 1000 := by decide) : EvF c l X env Γ (.List es pos) (.list ds) := fun A s L G =>
 wpAny_List (wK (h A s L G) (fun vs s1 q => ⟨by rw [q.2.length, sizeLine_eq]; omega, q.1.trans .push', s1.heap.objs.size, q.1.hx.none_of (fun z => nomatch z) (fresh_ge (Nat.le_refl _)), vs, 0, hP _ rfl,
  (q.2.wide fun a ha => (lC ha).elim (fun e => .inr (e ▸ fresh_ge (Nat.le_refl _))) .inl).hx0 (c := c) (.push _ _) fun a ha => .tail _ (G.bas.frs a ha)⟩))
theorem EvF.nil {pos : Pos} : EvF c l X env Γ (.List [] pos) (.list []) := EvF.list .nil
end
section
variable {K : Act} {A : Around} {s0 : Shared} {E : Err} {X : List Addr} {Γ Γ' : Gam} {R R' : Ros} {Δ Δ' : Del K} {ss : List Stmt} {O O' : Out K -> Prop} {s : Shared}
theorem Ex.own {x : Str} {px pos : Pos} {e : Expr} {d : PyData} (h : ∀ X, EvF K.c K.l X K.env Γ e d) (k : ∀ D, Ex K A s0 E Γ ((x, D) :: R) (resO K.c D d :: Δ) ss O) (hx : autoParam (decide (x ∈ K.xs) = true) aK) (hΓ : autoParam (offB [x] (Γ.map (·.1)) = true) aK) (hR : autoParam (offB [x] (R.map (·.1)) = true) aK) (hs : autoParam (swapsWith e (some (.Name x px)) pos.line K.env = pure false) aR) :
  Ex K A s0 E Γ R Δ (.Assign [.Name x px] e pos :: ss) O := by
 have e1 : Γ.filter (fun p => p.1 != x) = Γ := filter_off fun p hp e => off_of hΓ p hp (e ▸ .head _)
 have e2 : R.filter (fun p => p.1 != x) = R := List.filter_eq_self.mpr fun p hp => by
  have := List.all_eq_true.mp hR p.1 (lM (f := (·.1)) hp)
  simpa using this
 refine Ex.assignF h (of_decide_eq_true hx) (fun D => ?_) hs
 rw [e1, e2]
 exact k D
theorem Ex.ownC {x : Str} {px pos : Pos} {e : Expr} {d : PyData} (hX : X0ok K s0) (h : ∀ X, EvC K.c K.l X K.env Γ e d) (k : ∀ D, Ex K A s0 E Γ ((x, D) :: R) (resO K.c D d :: Δ) ss O) (hx : autoParam (decide (x ∈ K.xs) = true) aK) (hΓ : autoParam (offB [x] (Γ.map (·.1)) = true) aK) (hR : autoParam (offB [x] (R.map (·.1)) = true) aK) (hs : autoParam (swapsWith e (some (.Name x px)) pos.line K.env = pure true) aR) :
  Ex K A s0 E Γ R Δ (.Assign [.Name x px] e pos :: ss) O := by
 have e1 : Γ.filter (fun p => p.1 != x) = Γ := filter_off fun p hp e => off_of hΓ p hp (e ▸ .head _)
 have e2 : R.filter (fun p => p.1 != x) = R := List.filter_eq_self.mpr fun p hp => by
  have := List.all_eq_true.mp hR p.1 (lM (f := (·.1)) hp)
  simpa using this
 refine Ex.assignC h (of_decide_eq_true hx) hX (fun D => ?_) hs
 rw [e1, e2]
 exact k D
theorem Ex.new {x : Str} {px pos : Pos} {e : Expr} {d : PyData} (h : EvS K A s0 E Γ R Δ e d) (k : Ex K A s0 E ((x, d) :: Γ) R Δ ss O) (hx : autoParam (decide (x ∈ K.xs) = true) aK) (hΓ : autoParam (offB [x] (Γ.map (·.1)) = true) aK) (hR : autoParam (offB [x] (R.map (·.1)) = true) aK) (hs : autoParam (swapsWith e (some (.Name x px)) pos.line K.env = pure false) aR) :
  Ex K A s0 E Γ R Δ (.Assign [.Name x px] e pos :: ss) O := by
 have e1 : Γ.filter (fun p => p.1 != x) = Γ := filter_off fun p hp e => off_of hΓ p hp (e ▸ .head _)
 refine Ex.seq (Ex1.assign h (of_decide_eq_true hx) (fun p hp e => ?_) hs) ?_
 ·have := List.all_eq_true.mp hR p.1 (lM (f := (·.1)) hp)
  simp [e] at this
 ·rw [e1]; exact k
theorem Ex.newC {x : Str} {px pos : Pos} {e : Expr} {d : PyData} (hX : X0ok K s0) (h : ∀ X, EvC K.c K.l X K.env Γ e d) (k : Ex K A s0 E ((x, d) :: Γ) R Δ ss O) (hx : autoParam (decide (x ∈ K.xs) = true) aK) (hΓ : autoParam (offB [x] (Γ.map (·.1)) = true) aK) (hR : autoParam (offB [x] (R.map (·.1)) = true) aK) (hs : autoParam (swapsWith e (some (.Name x px)) pos.line K.env = pure true) aR) :
  Ex K A s0 E Γ R Δ (.Assign [.Name x px] e pos :: ss) O := Ex.ownC hX h (fun D => Ex.freeze hX k) hx hΓ hR hs
theorem offR_of {xs : List Str} {R : Ros} (h : offB xs (R.map (·.1)) = true) : ∀ p ∈ R, p.1 ∉ xs := fun p hp hx => by
 have := List.all_eq_true.mp h p.1 (lM (f := (·.1)) hp)
 simp at this
 exact this hx
noncomputable def subB (xs ys : List Str) : Bool := xs.all fun x => decide (x ∈ ys)
theorem sub_of {xs ys : List Str} (h : subB xs ys = true) : ∀ x ∈ xs, x ∈ ys := fun x hx => of_decide_eq_true (List.all_eq_true.mp h x hx)
theorem Ex1.forN {x : Str} {p : Pos} {iter : Expr} {body : List Stmt} {pos : Pos} {ds : List PyData} (Inv : Nat -> Gam -> Ros -> Del K -> Prop) (O : Out K -> Prop)
  (hI : EvIS K A s0 E Γ R Δ false iter ds) (h0 : Inv 0 Γ' R' Δ') (hg : ∀ p ∈ Γ', p ∈ Γ) (hr : ∀ p ∈ R', p ∈ R) (hd' : List.Sublist Δ' Δ) (hx0 : X0ok K s0)
  (hoff : ∀ i Γ R Δ, Inv i Γ R Δ -> offN [x] Γ /\ ∀ p ∈ R, p.1 ∉ [x])
  (hb : ∀ i d Γ R Δ (r : Res K.c), ds[i]? = some d -> Inv i Γ R Δ -> Ex K A s0 E ((x, d) :: Γ) R (r :: Δ) body fun o => (∃ Γ' R' Δ', (o = .next Γ' R' (r :: Δ') \/ o = .cont Γ' R' (r :: Δ')) /\ Inv (i + 1) Γ' R' Δ') \/ (∃ Γ' R' Δ', o = .brk Γ' R' (r :: Δ') /\ O (.next Γ' R' Δ')) \/ ∃ d, o = .ret d /\ O (.ret d))
  (hend : ∀ Γ R Δ, Inv ds.length Γ R Δ -> O (.next Γ R Δ))
  (hsub : autoParam (subB [x] K.xs = true) aK) (hd : autoParam ((x == ("__debug__" : Str)) = false) aK) (hfold : ∀ x, foldedSetIterable iter K.env x = pure x := by intro _; rfl) (hE : PassesOwn K.c.M A K.env E := by exact fun _ _ f => f.elim) :
  Ex1 K A s0 E Γ R Δ (.For (.Name x p) iter body [] pos) O :=
 Ex1.for (Γd := fun d => [(x, d)]) (xs := [x]) Inv O hI (fun d _ => .name hd) (sub_of hsub) h0 hg hr hd' hx0 hoff hb hend .name hfold hE
theorem Ex1.forP {x y : Str} {p q r : Pos} {k : Nat} {iter : Expr} {body : List Stmt} {pos : Pos} {α β : Type} {L : List (α × β)} {g1 : α -> PyData} {g2 : β -> PyData} (Inv : Nat -> Gam -> Ros -> Del K -> Prop) (O : Out K -> Prop)
  (hI : EvIS K A s0 E Γ R Δ true iter (L.map fun z => .tuple [g1 z.1, g2 z.2])) (h0 : Inv 0 Γ' R' Δ') (hg : ∀ p ∈ Γ', p ∈ Γ) (hr : ∀ p ∈ R', p ∈ R) (hd' : List.Sublist Δ' Δ) (hx0 : X0ok K s0)
  (hoff : ∀ i Γ R Δ, Inv i Γ R Δ -> offN [x, y] Γ /\ ∀ p ∈ R, p.1 ∉ [x, y])
  (hb : ∀ i a b Γ R Δ (r : Res K.c), L[i]? = some (a, b) -> Inv i Γ R Δ -> Ex K A s0 E ((y, g2 b) :: (x, g1 a) :: Γ) R (r :: Δ) body fun o => (∃ Γ' R' Δ', (o = .next Γ' R' (r :: Δ') \/ o = .cont Γ' R' (r :: Δ')) /\ Inv (i + 1) Γ' R' Δ') \/ (∃ Γ' R' Δ', o = .brk Γ' R' (r :: Δ') /\ O (.next Γ' R' Δ')) \/ ∃ d, o = .ret d /\ O (.ret d))
  (hend : ∀ Γ R Δ, Inv L.length Γ R Δ -> O (.next Γ R Δ)) (h1 : ∀ a b, g1 a = g1 b -> a = b) (h2 : ∀ a b, g2 a = g2 b -> a = b)
  (hsub : autoParam (subB [x, y] K.xs = true) aK) (hd : autoParam ((y != x) = true) aK) (hfold : ∀ x, foldedSetIterable iter K.env x = pure x := by intro _; rfl) (hE : PassesOwn K.c.M A K.env E := by exact fun _ _ f => f.elim) :
  Ex1 K A s0 E Γ R Δ (.For (.Tuple [.Name x p, .Name y q] k r) iter body [] pos) O := by
 have T := TB.pair (p := r) (pa := p) (pb := q) (k := k) (a := x) (b := y) h1 h2 hd
 have e1 : ∀ a ∈ L, liftF L (fun z => PyData.tuple [g1 z.1, g2 z.2]) (fun z => ([(y, g2 z.2), (x, g1 z.1)] : Gam)) [] (.tuple [g1 a.1, g2 a.2]) = [(y, g2 a.2), (x, g1 a.1)] := fun a ha => liftF_eq (g := fun z : α × β => PyData.tuple [g1 z.1, g2 z.2]) (fun x _ y _ e => by rw [T.inj _ _ e]) ha
 refine Ex1.for (Γd := liftF L (fun z => .tuple [g1 z.1, g2 z.2]) (fun z => [(y, g2 z.2), (x, g1 z.1)]) []) (xs := [x, y]) Inv O hI (fun d hd => ?_) (sub_of hsub) h0 hg hr hd' hx0 hoff (fun i d Γ R Δ r hdi inv => ?_) (fun Γ R Δ inv => hend _ _ _ (by simpa using inv)) .tuple hfold hE
 ·obtain ⟨a, ha⟩ := mem_mapI hd
  rw [e1 a ha]; exact T.bind a
 ·obtain ⟨z, hz⟩ := map_get hdi
  rw [e1 z (lG hz)]
  exact hb i z.1 z.2 Γ R Δ r hz inv
end
noncomputable def dedup : List PyData -> List PyData := fun ds => ds.foldl (fun acc d => if acc.any (fun y => PyData.eqv y d) then acc else acc ++ [d]) []
theorem dedup_snoc (ds : List PyData) (d : PyData) : dedup (ds ++ [d]) = if (dedup ds).any (fun y => PyData.eqv y d) then dedup ds else dedup ds ++ [d] := by simp [dedup]
theorem dedup_le (ds : List PyData) : ∀ x ∈ dedup ds, x ∈ ds := by
 have key : ∀ (ds acc : List PyData), ∀ x ∈ ds.foldl (fun acc d => if acc.any (fun y => PyData.eqv y d) then acc else acc ++ [d]) acc, x ∈ acc \/ x ∈ ds := by
  intro ds
  induction ds with
  | nil => intro acc x hx; exact .inl hx
  | cons d ds ih =>
   intro acc x hx
   rw [List.foldl_cons] at hx
   rcases ih _ x hx with h | h
   ·split at h
    ·exact .inl h
    ·rcases lA h with h | h
     ·exact .inl h
     ·exact .inr (lS h ▸ .head _)
   ·exact .inr (.tail _ h)
 intro x hx
 rcases key ds [] x hx with h | h
 ·cases h
 ·exact h
theorem canAll_of {ds : List PyData} (h : ∀ d ∈ ds, d.canLay0 = true) : PyData.canLayAll0 ds = true := by
 induction ds with
 | nil => rfl
 | cons d ds ih => simp [PyData.canLayAll0, h d (.head _), ih fun x hx => h x (.tail _ hx)]
theorem dedup_len (ds : List PyData) : (dedup ds).length <= ds.length := by
 have key : ∀ (ds acc : List PyData), (ds.foldl (fun acc d => if acc.any (fun y => PyData.eqv y d) then acc else acc ++ [d]) acc).length <= acc.length + ds.length := by
  intro ds
  induction ds with
  | nil => intro acc; simp
  | cons d ds ih =>
   intro acc
   rw [List.foldl_cons]
   refine Nat.le_trans (ih _) ?_
   split <;> (simp <;> omega)
 simpa [dedup] using key ds []
structure Flatish (ds : List PyData) : Prop where
 can : ∀ d ∈ ds, d.canLay0 = true
 dep : ∀ d ∈ ds, d.depth <= 1000
 len : ds.length <= 10 ^ 5
end
section
noncomputable def frsOf (A : Around) : List Addr := match A.frames with
 | some l => l.filterMap (·.frame)
 | none => []
noncomputable def ExcAt (B : Heap) (e : Addr) (cls : String) (h : Heap) : Prop :=
 (∃ ob vs t, h.get? e = some ob /\ ob.cls = .type cls /\ ob.data = .fields vs /\ vs[0]? = some t /\ vs[1]? = some Value.none) \/ ∃ a0 fl, h.TracedAtW B e (.type cls) a0 fl
structure Fly (c : Cfg) (A : Around) (env : Env) (h1 : Heap) (e : Addr) (cls : String) (h' : Heap) : Prop where
 fr : ∃ outer L, A.frames = some (env :: outer) /\ env.frame = some L /\ h'.FunFrames (hideAll h1 (frsOf A)) (env :: outer)
 stay : (hideAll h1 (frsOf A)).StaysIn h'
 slots : ∀ b o, b ∈ frsOf A -> h1.get? b = some o -> ∃ sl, h'.get? b = some { o with slots := sl }
 new : h1.get? e = none
 exc : ExcAt (hideAll h1 (frsOf A)) e cls h'
theorem hide_none {h : Heap} {as : List Addr} {b : Addr} (e : h.get? b = none) : (hideAll h as).get? b = none := by
 cases q : (hideAll h as).get? b with
 | none => rfl
 | some o => rw [of_hideAll as q] at e; cases e
section
variable {c : Cfg} {A : Around} {env : Env} {h1 h' : Heap} {e : Addr} {cls : String} {s : Shared} {E : Err}
theorem Fly.hx (F : Fly c A env h1 e cls h') {X : List Addr} (B : Bas c A X h1) : HX c [] h1 h' := by
 obtain ⟨outer, L, hA, hL, hf⟩ := F.fr
 obtain ⟨o2, b2, f2⟩ := B.below
 rw [b2.stack] at hA
 cases hA
 have hfrs : frsOf A = (env :: outer).filterMap (·.frame) := by unfold frsOf; rw [b2.stack]
 have hin : ∀ b ∈ frsOf A, b ∈ c.fr := fun b hb => by
  rw [hfrs] at hb
  obtain ⟨env', he, hq⟩ := List.mem_filterMap.mp hb
  exact f2 env' he b hq
 have hbn : ∀ b ∈ frsOf A, c.base.get? b = none := fun b hb => by
  rw [hfrs] at hb
  exact (b2.frames.mem hb).1
 refine ⟨fun b o _ eb => ?_, fun st b o eb => ?_, fun b o hb eb hn => ?_⟩
 ·by_cases hb : b ∈ frsOf A
  ·obtain ⟨sl, q⟩ := F.slots b o hb eb
   exact ⟨sl, q, .inl (hin b hb)⟩
  ·exact ⟨o.slots, F.stay b o (hideAll_get _ eb hb), .inr rfl⟩
 ·exact F.stay b o (hideAll_get _ (st b o eb) fun hb => by rw [hbn b hb] at eb; cases eb)
 ·by_cases hb : b ∈ frsOf A
  ·obtain ⟨sl, q⟩ := F.slots b o hb eb
   exact ⟨_, q, hn⟩
  ·exact ⟨o, F.stay b o (hideAll_get _ eb hb), hn⟩
theorem Fly.raised {X : List Addr} (B : Bas c A X h1) {outer : List Env} {L : Addr} (hA : A.frames = some (env :: outer)) (hL : env.frame = some L) (x : Heap.NewExc h1 h' e cls) : Fly c A env h1 e cls h' := by
 obtain ⟨o2, b2, f2⟩ := B.below
 have hA' := b2.stack
 rw [hA] at hA'
 cases hA'
 have hfrs : frsOf A = (env :: outer).filterMap (·.frame) := by unfold frsOf; rw [hA]
 refine ⟨⟨outer, L, hA, hL, ?_⟩, fun b o eb => x.keeps b o (of_hideAll _ eb), fun b o _ eb => ⟨o.slots, x.keeps b o eb⟩, x.new, .inl (let ⟨ob, t, a, b, d⟩ := x.there; ⟨ob, _, t, a, b, d, rfl, rfl⟩)⟩
 rw [hfrs]
 refine (funFrames_hide b2.frames fun env' he a ha => List.mem_filterMap.mpr ⟨env', he, ha⟩).of_keeps fun b o hb _ => ⟨o, x.keeps b o hb, rfl⟩
theorem Fly.raised2 {X : List Addr} (B : Bas c A X h1) {outer : List Env} {L : Addr} (hA : A.frames = some (env :: outer)) (hL : env.frame = some L) (hk : ∀ b o, h1.get? b = some o -> h'.get? b = some o) (hn : h1.get? e = none) (hx : ∃ ob vs t, h'.get? e = some ob /\ ob.cls = .type cls /\ ob.data = .fields vs /\ vs[0]? = some t /\ vs[1]? = some Value.none) : Fly c A env h1 e cls h' := by
 obtain ⟨o2, b2, f2⟩ := B.below
 have hA' := b2.stack
 rw [hA] at hA'
 cases hA'
 have hfrs : frsOf A = (env :: outer).filterMap (·.frame) := by unfold frsOf; rw [hA]
 refine ⟨⟨outer, L, hA, hL, ?_⟩, fun b o eb => hk b o (of_hideAll _ eb), fun b o _ eb => ⟨o.slots, hk b o eb⟩, hn, .inl hx⟩
 rw [hfrs]
 refine (funFrames_hide b2.frames fun env' he a ha => List.mem_filterMap.mpr ⟨env', he, ha⟩).of_keeps fun b o hb _ => ⟨o, hk b o hb, rfl⟩
theorem upTo_slots {B h h'' : Heap} {l : List Env} (hl : h.FunFrames B l) (hs : h.UpToSlots h'') {b : Addr} (hb : b ∈ l.filterMap (·.frame)) {o : Obj} (e : h.get? b = some o) : ∃ sl, h''.get? b = some { o with slots := sl } := by
 obtain ⟨_, o', e', n⟩ := hl.mem hb
 rw [e] at e'; cases e'
 exact hs b o e n
theorem Fly.step (F : Fly c A env h1 e cls h') {h'' : Heap} {outer : List Env} (hA : A.frames = some (env :: outer)) (h1' : (hideAll h1 (frsOf A)).StaysIn h'') (h2 : h''.FunFrames (hideAll h1 (frsOf A)) (env :: outer)) (h3 : h'.UpToSlots h'') (h4 : ExcAt (hideAll h1 (frsOf A)) e cls h'') : Fly c A env h1 e cls h'' := by
 obtain ⟨outer', L, hA', hL, hf⟩ := F.fr
 rw [hA] at hA'
 cases hA'
 have hfrs : frsOf A = (env :: outer).filterMap (·.frame) := by unfold frsOf; rw [hA]
 refine ⟨⟨outer, L, hA, hL, h2⟩, h1', fun b o hb eb => ?_, F.new, h4⟩
 obtain ⟨sl, q⟩ := F.slots b o hb eb
 rw [hfrs] at hb
 obtain ⟨sl2, q2⟩ := upTo_slots hf h3 hb q
 exact ⟨sl2, q2⟩
inductive TrI (h base : Heap) (e : Addr) (cls a0 fl : Value) : Prop
 | mk (oe : Obj) (vs : Array Value) (T : Addr) (oT : Obj) (ts : Array Value) (he : h.get? e = some oe) (hc : oe.cls = cls) (h0 : vs[0]? = some a0) (hd : oe.data = .fields vs) (hv : vs[1]? = some (.ref T)) (hn : base.get? T = none) (hT : T ≠ e) (ht : h.get? T = some oT) (hdT : oT.data = .fields ts) (h3 : ts[3]? = some fl)
theorem tr_inv {h base : Heap} {e : Addr} {cls a0 fl : Value} (x : h.TracedAtW base e cls a0 fl) : TrI h base e cls a0 fl := by
 obtain ⟨oe, vs, T, oT, ts, he, ⟨hc, h0⟩, r⟩ := x
 exact ⟨oe, vs, T, oT, ts, he, hc, h0, r.1, r.2.1, r.2.2.1, r.2.2.2.1, r.2.2.2.2.1, r.2.2.2.2.2.1, r.2.2.2.2.2.2⟩
theorem Fly.note (F : Fly c A env h1 e cls s.heap) {M : Model} {Q : Unit -> Shared -> Prop} (k : ∀ h'', Fly c A env h1 e cls h'' -> (∃ L a0, env.frame = some L /\ h''.TracedAtW (hideAll h1 (frsOf A)) e (.type cls) a0 (rawInt L)) -> Q () { s with heap := h'' }) : wpAny M A (noteFrame (.ref e) env) Q E s := by
 obtain ⟨outer, L, hA, hL, hf⟩ := F.fr
 rcases F.exc with ⟨ob, vs, t, he, hc, hd, hv0, hv1⟩ | ⟨a0, fl, ht⟩
 ·unfold noteFrame
  simp only [hL]
  refine wB (wpAny_field he hd (x := .none) hv1 ?_)
  rw [if_neg (show ¬ ((Value.none != Value.none) = true) from by decide)]
  refine wpAny_entryW hA hf hL he F.stay (hide_none F.new) hd (Array.getElem?_eq_some_iff.mp hv1).1 (a0 := t) hv0 fun h'' hN => ?_
  obtain ⟨n1, n2, n3, n4⟩ := hN
  rw [hc] at n3
  exact k h'' (F.step hA n1 n2 n4 (.inr ⟨_, _, n3⟩)) ⟨L, _, hL, n3⟩
 ·obtain ⟨oe, vs, T, oT, ts, he, hcls, h0, hd, hv1, hnT, hTe, hT, hdT, h3⟩ := tr_inv ht
  unfold noteFrame
  simp only [hL]
  refine wB (wpAny_field he hd hv1 ?_)
  rw [if_pos (show (Value.ref T != Value.none) = true from by simp)]
  refine wB (wpAny_field hT hdT h3 ?_)
  by_cases hfl : (fl == rawInt L) = true
  ·rw [if_pos hfl]
   have : fl = rawInt L := eq_of_beq hfl
   subst this
   exact wP (k s.heap F ⟨L, a0, hL, ht⟩)
  ·rw [if_neg hfl]
   refine wB (wpAny_setField hT hdT (Array.getElem?_eq_some_iff.mp h3).1 ?_)
   have other : ∀ b, b ≠ T -> (s.heap.update T (Obj.mapFields (·.setIfInBounds 3 Value.none))).get? b = s.heap.get? b := fun b hb => Heap.get?_update_other _ _ (Ne.symm hb)
   have noRecord : ∀ b o, s.heap.get? b = some o -> (∀ vs, o.data ≠ .fields vs) -> b ≠ T := fun b o hb hnf q => by
    rw [q, hT] at hb; injection hb with hb; subst hb; exact hnf ts hdT
   refine wpAny_entryW hA (hf.of_keeps fun b o hb hnf => ⟨o, (other b (noRecord b o hb hnf)).trans hb, rfl⟩) hL ((other e (Ne.symm hTe)).trans he)
    (fun b o hbo => (other b fun q => by rw [q, hnT] at hbo; cases hbo).trans (F.stay b o hbo)) (hide_none F.new) hd (Array.getElem?_eq_some_iff.mp hv1).1 h0 fun h'' hN => ?_
   obtain ⟨n1, n2, n3, n4⟩ := hN
   rw [hcls] at n3
   exact k h'' (F.step hA n1 n2 (fun b o hb hnf => n4 b o ((other b (noRecord b o hb hnf)).trans hb) hnf) (.inr ⟨_, _, n3⟩)) ⟨L, _, hL, n3⟩
theorem Fly.flight (F : Fly c A env h1 e cls s.heap) {M : Model} {A' : Around} {Q : Unit -> Shared -> Prop} {fo : Option Addr} (ht : ∃ a0 fl, s.heap.TracedAtW (hideAll h1 (frsOf A)) e (.type cls) a0 fl) (k : ∀ h'', Fly c A env h1 e cls h'' -> (∃ a0 fl, h''.TracedAtW (hideAll h1 (frsOf A)) e (.type cls) a0 fl) -> Q () { s with heap := h'' }) : wpAny M A' (setFlight (.ref e) fo) Q E s := by
 obtain ⟨outer, L, hA, hL, hf⟩ := F.fr
 obtain ⟨a0, fl, ht⟩ := ht
 obtain ⟨oe, vs, T, oT, ts, he, hcls, h0, hd, hv1, hnT, hTe, hT, hdT, h3⟩ := tr_inv ht
 have hsz3 : 3 < ts.size := (Array.getElem?_eq_some_iff.mp h3).1
 have other : ∀ b, b ≠ T -> (s.heap.update T (Obj.mapFields (·.setIfInBounds 3 (fo.elim Value.none fun f => rawInt f)))).get? b = s.heap.get? b := fun b hb => Heap.get?_update_other _ _ (Ne.symm hb)
 have noRecord : ∀ b o, s.heap.get? b = some o -> (∀ vs, o.data ≠ .fields vs) -> b ≠ T := fun b o hb hnf q => by
  rw [q, hT] at hb; injection hb with hb; subst hb; exact hnf ts hdT
 unfold setFlight
 refine wB (wpAny_field he hd hv1 ?_)
 rw [if_pos (show (Value.ref T != Value.none) = true from by simp)]
 have tr : (s.heap.update T (Obj.mapFields (·.setIfInBounds 3 (fo.elim Value.none fun f => rawInt f)))).TracedAtW (hideAll h1 (frsOf A)) e (.type cls) a0 (fo.elim Value.none fun f => rawInt f) :=
  ⟨oe, vs, T, _, _, (other e (Ne.symm hTe)).trans he, ⟨hcls, h0⟩, hd, hv1, hnT, hTe, Heap.get?_update_self _ hT (Obj.isFreed_of_fields (Obj.data_mapFields hdT _)), Obj.data_mapFields hdT _, by simp [hsz3]⟩
 exact wpAny_setField hT hdT hsz3 (k _ (F.step hA (fun b o hbo => (other b fun q => by rw [q, hnT] at hbo; cases hbo).trans (F.stay b o hbo)) (hf.of_keeps fun b o hb hnf => ⟨o, (other b (noRecord b o hb hnf)).trans hb, rfl⟩)
  (fun b o hb hnf => ⟨o.slots, (other b (noRecord b o hb hnf)).trans hb⟩) (.inr ⟨a0, _, tr⟩)) ⟨a0, _, tr⟩)
end
inductive Flies (K : Act) (A : Around) (s0 : Shared) (cls : String) (P : Gam -> Ros -> Del K -> Prop) : Value -> Shared -> Prop
 | mk (e : Addr) (s1 : Shared) (X : List Addr) (Γ : Gam) (R : Ros) (Δ : Del K) (h' : Heap) (tk : Nat) (hP : P Γ R Δ) (S : Sat K X Γ R Δ A s0 s1) (F : Fly K.c A K.env s1.heap e cls h') : Flies K A s0 cls P (.ref e) { s1 with heap := h', toks := tk }
section
variable {K : Act} {A : Around} {s0 : Shared} {cls : String} {P : Gam -> Ros -> Del K -> Prop} {E : Err} {s : Shared}
theorem Flies.passes : PassesOwn K.c.M A K.env (Flies K A s0 cls P) := fun x s' h => by
 obtain ⟨e, s1, X, Γ, R, Δ, h', tk, hP, S, F⟩ := h
 refine F.note (s := { s1 with heap := h', toks := tk }) fun h2 F2 ht => ?_
 obtain ⟨L, a0, hL, ht⟩ := ht
 obtain ⟨oe, vs, T, oT, ts, he, hcls, h0, hd, hv1, hnT, hTe, hT, hdT, h3⟩ := tr_inv ht
 refine wB (wpAny_field he hd hv1 ?_)
 rw [if_neg (by simp)]
 exact F2.flight (s := { s1 with heap := h2, toks := tk }) ⟨a0, _, ht⟩ fun h3 F3 _ => ⟨e, s1, X, Γ, R, Δ, h3, tk, hP, S, F3⟩
theorem ExcAt.typeIs {B : Heap} {e : Addr} (x : ExcAt B e cls s.heap) : s.TypeIs (.ref e) cls := by
 rcases x with ⟨ob, vs, t, he, hc, _⟩ | ⟨a0, fl, ht⟩
 ·exact ⟨ob, he, hc⟩
 ·exact ht.there
theorem Ex1.try {Γ : Gam} {R : Ros} {Δ : Del K} {O : Out K -> Prop} {T : String} {x : Str} {np hpos pos : Pos} {body suite : List Stmt} {b0 : Stmt} (hg : Glb K.c x (.type T)) (hk : K.env.kindOf x = some .globalImplicit)
  (hexc : isSubtype (.type T) (.type "BaseException") = pure true) (hnt : isSubtype (.type ((Manifest.find? T).elim "type" fun x => x.metatype)) (.type "tuple") = pure false) (hsub : isSubtype (.type cls) (.type T) = pure true)
  (hbody : Ex K A s0 (Flies K A s0 cls P) Γ R Δ body O)
  (hh : ∀ e s1 X Γ R Δ, P Γ R Δ -> Sat K X Γ R Δ A s0 s1 -> wpAny K.c.M (A.mark (some (.ref e))) (execs (b0 :: suite) K.env) (Post K A s0 O) NoE s1) (hd : autoParam ((x == ("__debug__" : Str)) = false) aK) :
  Ex1 K A s0 E Γ R Δ (.Try body [.ExceptHandler (some (.Name x np)) none (b0 :: suite) hpos] [] [] pos) O := fun s X S => by
 refine wpAny_Try_except (wM (hbody s X S) (fun f s1 hp => ?_) fun y s1 hp => ?_)
 ·cases f with
  | next => exact wpAny_execs_nil hp
  | brk => exact hp
  | cont => exact hp
  | ret v => exact hp
 ·obtain ⟨e, s1, X, Γ, R, Δ, h', tk, hP, S1, F⟩ := hp
  refine F.note (s := { s1 with heap := h', toks := tk }) fun h2 F2 ht => ?_
  obtain ⟨L, a0, hL, ht⟩ := ht
  refine F2.flight (s := { s1 with heap := h2, toks := tk }) ⟨a0, _, ht⟩ fun h3 F3 tr => ?_
  have S3 : Sat K X Γ R Δ A s0 { s1 with heap := h3, toks := tk } := S1.pst ⟨h3, tk, F3.hx S1.good.bas⟩
  refine wpAny_handleBy_builtin (b := true) hexc hnt hsub (wpAny_Name (hg _ _ _ _ _ S3.good.bas.stays S3.good.globals S3.good.builtins S3.good.kind hk ⟨rfl, F3.exc.typeIs (s := { s1 with heap := h3, toks := tk }), ?_⟩) hd)
  rw [if_pos rfl]
  refine F3.flight (s := { s1 with heap := h3, toks := tk }) tr fun h4 F4 _ => ?_
  exact noE_any (hh e _ X Γ R Δ hP (S1.pst ⟨h4, tk, F4.hx S1.good.bas⟩))
end
end
section
open PySem PySem.Spec PySem.Calls PyProof.Rows PySem.W PySem.SeqAt
open MeetsSeq
theorem rem_loopAt (l : Addr) (items : Array Value) (n : Nat) (x : Value) (e : Nat -> Bool) (j : Nat) (hj : j < items.size) (hit : e j = true) (k : Nat) (hs1 : items.size <= sizeLine) :
  ∀ i : Nat, j - i = k -> i <= j -> (∀ m (hm : m < items.size), i <= m -> m < j -> e m = false) -> Meets (Builtin.«list.remove.loop» ⟨[.ref l, x, rawInt i], []⟩)
   (fun A R s => s.heap.get? l = some { cls := .type "list", dict := none, data := .seq items n, slots := #[] } /\ (∀ i (hi : i < items.size), EqAt A.in1 s items[i] x (e i)) /\ R (.ok (.ret .none)) { s with heap := s.heap.update l (Obj.mapSeq fun xs => xs.eraseIdxIfInBounds j) }) := by
 induction k with
 | zero =>
  intro i hk hij hno prog w A R s h
  obtain ⟨hp, g, d, tk, os⟩ := s; obtain ⟨hl, he, h⟩ := h
  have hij' : i = j := by omega
  subst hij'
  wp_walk using AutoSeq1.wpAny_loadPart' hl
  have hi : items[((i : Nat) : Int).toNat]? = some items[i] := by simp [hj]
  rw [hi]
  refine wB (he _ hj prog w _ _ ?_)
  rw [hit]
  have hz' : (items.eraseIdxIfInBounds i).size <= sizeLine + 1 := Nat.le_trans (size_erased items _) (Nat.le_succ_of_le hs1)
  wp_walk using (wpAny_updateSeq hl rfl (hz := hs1) (_hz' := hz')), AutoSeq1.wpAny_loadPart' hl
  simpa using h
 | succ k ih =>
  intro i hk hij hno prog w A R s h
  obtain ⟨hp, g, d, tk, os⟩ := s; obtain ⟨hl, he, h⟩ := h
  have hlt : i < items.size := by omega
  wp_walk using AutoSeq1.wpAny_loadPart' hl
  have hi : items[((i : Nat) : Int).toNat]? = some items[i] := by simp [hlt]
  have hc : ((i : Int) + 1) = ((i + 1 : Nat) : Int) := by push_cast; rfl
  rw [hi]
  refine wB (he _ hlt prog w _ _ ?_)
  rw [hno i hlt (Nat.le_refl _) (by omega)]
  wp_walk
  rw [hc]
  exact ⟨plainId_quiet plain_remove_loop _, codeAny_builtin entry_remove_loop (by
   rw [Around.under_plainId plain_remove_loop _]
   exact ih (i + 1) (by omega) (by omega) (fun m hm h1 h2 => hno m hm (by omega) h2) prog w A R _ ⟨hl, he, h⟩)⟩
theorem list_remAt (l : Addr) (items : Array Value) (n : Nat) (x : Value) (e : Nat -> Bool) (j : Nat) (hj : j < items.size) (hit : e j = true) (hno : ∀ m (hm : m < items.size), m < j -> e m = false) (hs1 : items.size <= sizeLine) :
  Meets (Builtin.«list.remove» ⟨[.ref l, x], []⟩)
   (fun A R s => s.heap.get? l = some { cls := .type "list", dict := none, data := .seq items n, slots := #[] } /\ (∀ i (hi : i < items.size), EqAt A.in1 s items[i] x (e i)) /\ R (.ok (.ret .none)) { s with heap := s.heap.update l (Obj.mapSeq fun xs => xs.eraseIdxIfInBounds j) }) := by
 intro prog w A R s h
 obtain ⟨hp, g, d, tk, os⟩ := s; obtain ⟨hl, he, h⟩ := h
 wp_walk using AutoSeq1.wpAny_loadPart' hl
 exact ⟨plainId_quiet plain_remove_loop _, codeAny_builtin entry_remove_loop (by
  rw [Around.under_plainId plain_remove_loop _]
  exact rem_loopAt l items n x e j hj hit _ hs1 0 rfl (Nat.zero_le _) (fun m hm _ h2 => hno m hm h2) prog w A R _ ⟨hl, he, h⟩)⟩
theorem rem_loopNo (l : Addr) (items : Array Value) (n : Nat) (x : Value) (k : Nat) :
  ∀ i : Nat, items.size - i = k -> Meets (Builtin.«list.remove.loop» ⟨[.ref l, x, rawInt i], []⟩)
   (fun A R s => s.heap.get? l = some { cls := .type "list", dict := none, data := .seq items n, slots := #[] } /\ (∀ i (hi : i < items.size), EqAt A.in1 s items[i] x false) /\ raisesNew "ValueError" A R s) := by
 induction k with
 | zero =>
  intro i hk prog w A R s h
  obtain ⟨hp, g, d, tk, os⟩ := s; obtain ⟨hl, he, h⟩ := h
  wp_walk using AutoSeq1.wpAny_loadPart' hl
  have hi : items[((i : Nat) : Int).toNat]? = none := by simp; omega
  rw [hi]
  wp_walk
  exact_raiseError plainExc_ValueError h.1 h.2
 | succ k ih =>
  intro i hk prog w A R s h
  obtain ⟨hp, g, d, tk, os⟩ := s; obtain ⟨hl, he, h⟩ := h
  have hlt : i < items.size := by omega
  wp_walk using AutoSeq1.wpAny_loadPart' hl
  have hi : items[((i : Nat) : Int).toNat]? = some items[i] := by simp [hlt]
  have hc : ((i : Int) + 1) = ((i + 1 : Nat) : Int) := by push_cast; rfl
  rw [hi]
  refine wB (he _ hlt prog w _ _ ?_)
  wp_walk
  rw [hc]
  exact ⟨plainId_quiet plain_remove_loop _, codeAny_builtin entry_remove_loop (by
   rw [Around.under_plainId plain_remove_loop _]
   exact ih (i + 1) (by omega) prog w A R _ ⟨hl, he, h⟩)⟩
theorem list_remNo (l : Addr) (items : Array Value) (n : Nat) (x : Value) :
  Meets (Builtin.«list.remove» ⟨[.ref l, x], []⟩)
   (fun A R s => s.heap.get? l = some { cls := .type "list", dict := none, data := .seq items n, slots := #[] } /\ (∀ i (hi : i < items.size), EqAt A.in1 s items[i] x false) /\ raisesNew "ValueError" A R s) := by
 intro prog w A R s h
 obtain ⟨hp, g, d, tk, os⟩ := s; obtain ⟨hl, he, h⟩ := h
 wp_walk using AutoSeq1.wpAny_loadPart' hl
 exact ⟨plainId_quiet plain_remove_loop _, codeAny_builtin entry_remove_loop (by
  rw [Around.under_plainId plain_remove_loop _]
  exact rem_loopNo l items n x _ 0 rfl prog w A R _ ⟨hl, he, h⟩)⟩
noncomputable def remD (d : PyData) : List PyData -> List PyData
 | [] => []
 | y :: ys => if PyData.eqv y d then ys else y :: remD d ys
theorem remD_idx (d : PyData) : ∀ {ds : List PyData}, (ds.any fun y => PyData.eqv y d) = true -> ∃ j, ∃ hj : j < ds.length, PyData.eqv ds[j] d = true /\ (∀ m (hm : m < ds.length), m < j -> PyData.eqv ds[m] d = false) /\ remD d ds = ds.eraseIdx j
 | [], h => by simp at h
 | y :: ys, h => by
  unfold remD
  by_cases hy : PyData.eqv y d = true
  ·exact ⟨0, by simp, hy, fun m _ hm => absurd hm (Nat.not_lt_zero _), by rw [if_pos hy]; rfl⟩
  ·rw [List.any_cons, Bool.eq_false_iff.mpr hy, Bool.false_or] at h
   obtain ⟨j, hj, h1, h2, h3⟩ := remD_idx d h
   refine ⟨j + 1, by simp; omega, by simpa using h1, fun m hm hlt => ?_, by rw [if_neg hy, h3]; rfl⟩
   cases m with
   | zero => simpa using hy
   | succ m => simpa using h2 m (by simpa using hm) (by omega)
theorem RdL.eraseIdx {w : World} {X : List Addr} {h : Heap} {vs : List Value} {ds : List PyData} (r : RdL w X h vs ds) (i : Nat) : RdL w X h (vs.eraseIdx i) (ds.eraseIdx i) :=
 r.ind (P := fun vs ds => ∀ i : Nat, RdL w X h (vs.eraseIdx i) (ds.eraseIdx i)) (fun i => .nil) (fun _ _ _ _ a r q i => by
  cases i with
  | zero => exact r
  | succ i => exact .cons a (q i)) i
theorem RdL.at {w : World} {X : List Addr} {h : Heap} {vs : List Value} {ds : List PyData} (r : RdL w X h vs ds) (i : Nat) (hv : i < vs.length) (hd : i < ds.length) : Rd w X h vs[i] ds[i] := by
 obtain ⟨v, e, q⟩ := r.get i (List.getElem?_eq_getElem hd)
 rw [List.getElem?_eq_getElem hv] at e
 rw [Option.some.inj e]; exact q
theorem in1_units (A : Around) : A.in1.units <= A.units + 1 := by first | exact Nat.le_refl _ | exact Nat.le_succ _
section
variable {K : Act} {A : Around} {s0 : Shared} {E : Err} {X : List Addr} {Γ Γ' : Gam} {R R' : Ros} {Δ Δ' : Del K} {ss : List Stmt} {O O' : Out K -> Prop} {s : Shared}
theorem eqAts {c : Cfg} {vs : List Value} {ds : List PyData} {v : Value} {d : PyData} (hu : A.units <= 580) (r : RdL c.w X s.heap vs ds) (rv : Rd c.w X s.heap v d) (h1 : ∀ y ∈ ds, y.canLay0 = true) (h2 : d.canLay0 = true) (h3 : d.depth <= 1000) (i : Nat) (hi : i < vs.length) (hd : i < ds.length) : EqAt A.in1 s vs[i] v (PyData.eqv ds[i] d) := by
 obtain ⟨_, q1⟩ := (r.at i hi hd).reads (h1 _ (List.getElem_mem hd))
 obtain ⟨_, q2⟩ := rv.reads h2
 refine eqAt_reads _ _ _ _ _ _ _ _ q1 q2 (h1 _ (List.getElem_mem hd)) h2 ?_
 have := in1_units A
 rw [cl_is]; omega
theorem Ex1.removeOk {x : Str} {np apos cpos pos : Pos} {D : Addr} {ds : List PyData} {e : Expr} {d : PyData} (hx : (x, D) ∈ R) (h : EvS K A s0 E Γ R (resO K.c D (.list ds) :: Δ) e d) (hz : ds.length <= 10 ^ 6) (h1 : ∀ y ∈ ds, y.canLay0 = true) (h2 : d.canLay0 = true) (h3 : d.depth <= 1000) (hany : (ds.any fun y => PyData.eqv y d) = true)
  (hd : autoParam ((x == ("__debug__" : Str)) = false) aK) (hline : autoParam ((apos.endLine == cpos.line) = true) aR) (hs : autoParam (starEach [e] K.env = [(false, eval e K.env)]) aR) (hi : autoParam (interactive K.env = false) aR) (hsw : autoParam (swapsWith (.Call (.Attribute (.Name x np) "remove" apos) [e] [] cpos) none pos.line K.env = pure false) aR)
  (hbase : autoParam (attributeBase (.Name x np) "remove" K.env (eval (.Name x np) K.env) = eval (.Name x np) K.env) aR) :
  Ex1 K A s0 E Γ R (resO K.c D (.list ds) :: Δ) (.Expr (.Call (.Attribute (.Name x np) "remove" apos) [e] [] cpos) pos) (nextO Γ R (resO K.c D (.list (remD d ds)) :: Δ)) := fun s X S => by
 refine wpAny_Expr ?_ hi hsw
 have hl0 : LstI K.c.w X s.heap D ds := S.res _ (.head _)
 obtain ⟨vs0, n0, e0, r0⟩ := hl0
 refine mcall1 PySem.F.plainAttrs_list PySem.F.slot_list_remove PySem.F.type_list_remove (evalR S hx ⟨⟨_, e0, rfl⟩, fun a ha => ⟨_, (by cases ha; exact e0), rfl⟩, wK (h s X S) (fun v s1 q => ?_)⟩ hd) hbase hline hs
 obtain ⟨S1, r1⟩ := q
 have hl1 : LstI K.c.w X s1.heap D ds := S1.res _ (.head _)
 obtain ⟨vs, n, e1, r⟩ := hl1
 have fq := S1.fps _ (.head _) D (.head _)
 obtain ⟨j, hj, ht, hno, hr⟩ := remD_idx d hany
 have hlen := r.length
 refine call_meets PySem.F.slot_list_remove ⟨_, e1, rfl⟩ PySem.F.entry_list_remove (PySem.F.args_list_remove_2 _ _) (list_remAt D vs.toArray n v (fun i => (ds[i]?.map fun y => PyData.eqv y d).getD false) j (by simp [hlen]; exact hj) (by simp [hj, ht]) (fun m hm hlt => ?_) (by simp [hlen, sizeLine_eq]; omega)) ⟨e1, fun i hi => ?_, ?_⟩
 ·have hm' : m < ds.length := by simpa [hlen] using hm
  simp [hm', hno m hm' hlt]
 ·have hi' : i < vs.length := by simpa using hi
  have hd' : i < ds.length := by omega
  have := eqAts (A := A) (s := s1) S1.lev.units r r1 h1 h2 h3 i hi' hd'
  simpa [hd'] using this
 ·have u : IsL (s1.heap.update D (Obj.mapSeq fun xs => xs.eraseIdxIfInBounds j)) D _ _ := IsL.update (n := n) (items := vs.toArray) e1 (fun xs => xs.eraseIdxIfInBounds j)
  have hs' : Heap.SameBut D s1.heap (s1.heap.update D (Obj.mapSeq fun xs => xs.eraseIdxIfInBounds j)) := Heap.SameBut.update ..
  have q : HX K.c [D] s1.heap (s1.heap.update D (Obj.mapSeq fun xs => xs.eraseIdxIfInBounds j)) := .sameBut hs' (S1.base D fq.2.1) fq.2.2.2
  have hY : ∀ y ∈ [D], y ∈ X := fun y hy => lS hy ▸ fq.1
  have e' : vs.toArray.eraseIdxIfInBounds j = (vs.eraseIdx j).toArray := by
   have hj' : j < vs.length := by omega
   simp [Array.eraseIdxIfInBounds, hj']
  exact ⟨X, _, _, _, rfl, S1.changed hs' ⟨vs.eraseIdx j, _, by rw [u, e'], by rw [hr]; exact (r.eraseIdx j).hx q S1.good.bas.frs hY⟩⟩
theorem Ex1.removeNo {x : Str} {np apos cpos pos : Pos} {D : Addr} {ds : List PyData} {e : Expr} {d : PyData} {P : Gam -> Ros -> Del K -> Prop} (hx : (x, D) ∈ R) (h : ∀ E, EvS K A s0 E Γ R (resO K.c D (.list ds) :: Δ) e d) (h1 : ∀ y ∈ ds, y.canLay0 = true) (h2 : d.canLay0 = true) (h3 : d.depth <= 1000) (hany : (ds.any fun y => PyData.eqv y d) = false) (hP : P Γ R (resO K.c D (.list ds) :: Δ))
  (hd : autoParam ((x == ("__debug__" : Str)) = false) aK) (hline : autoParam ((apos.endLine == cpos.line) = true) aR) (hs : autoParam (starEach [e] K.env = [(false, eval e K.env)]) aR) (hi : autoParam (interactive K.env = false) aR) (hsw : autoParam (swapsWith (.Call (.Attribute (.Name x np) "remove" apos) [e] [] cpos) none pos.line K.env = pure false) aR)
  (hbase : autoParam (attributeBase (.Name x np) "remove" K.env (eval (.Name x np) K.env) = eval (.Name x np) K.env) aR) (hfr : ∃ L, K.env.frame = some L := by exact ⟨_, rfl⟩) (hst : ∃ outer, A.frames = some (K.env :: outer)) :
  Ex1 K A s0 (Flies K A s0 "ValueError" P) Γ R (resO K.c D (.list ds) :: Δ) (.Expr (.Call (.Attribute (.Name x np) "remove" apos) [e] [] cpos) pos) O := fun s X S => by
 refine wpAny_Expr ?_ hi hsw
 have hl0 : LstI K.c.w X s.heap D ds := S.res _ (.head _)
 obtain ⟨vs0, n0, e0, r0⟩ := hl0
 refine mcall1 PySem.F.plainAttrs_list PySem.F.slot_list_remove PySem.F.type_list_remove (evalR S hx ⟨⟨_, e0, rfl⟩, fun a ha => ⟨_, (by cases ha; exact e0), rfl⟩, wK (h _ s X S) (fun v s1 q => ?_)⟩ hd) hbase hline hs
 obtain ⟨S1, r1⟩ := q
 have hl1 : LstI K.c.w X s1.heap D ds := S1.res _ (.head _)
 obtain ⟨vs, n, e1, r⟩ := hl1
 have hlen := r.length
 refine call_meets PySem.F.slot_list_remove ⟨_, e1, rfl⟩ PySem.F.entry_list_remove (PySem.F.args_list_remove_2 _ _) (list_remNo D vs.toArray n v) ⟨e1, fun i hi => ?_, S1.good.bas.handled, fun h' tk e hx => ?_⟩
 ·have hi' : i < vs.length := by simpa using hi
  have hd' : i < ds.length := by omega
  have := eqAts (A := A) (s := s1) S1.lev.units r r1 h1 h2 h3 i hi' hd'
  rw [show PyData.eqv ds[i] d = false from by simpa using List.any_eq_false.mp hany _ (List.getElem_mem hd')] at this
  simpa using this
 ·obtain ⟨outer, hA⟩ := hst
  obtain ⟨L, hL⟩ := hfr
  exact ⟨e, s1, X, Γ, R, _, h', tk, hP, S1, Fly.raised S1.good.bas hA hL hx⟩
theorem EvF.listOf {c : Cfg} {l : Nat} {env : Env} {f : Str} {np pos : Pos} {e : Expr} {ds : List PyData} (g : Glb c f (.type "list")) (h : Ev c l X env Γ e (.list ds)) (hz : ds.length <= 10 ^ 6) (hf : autoParam (env.kindOf f = some .globalImplicit) aK)
  (hd : autoParam ((f == ("__debug__" : Str)) = false) aK) (he : autoParam (starEach [e] env = (false, eval e env) :: starEach [] env) aR) : EvF c l X env Γ (.Call (.Name f np) [e] [] pos) (.list ds) := fun A s L G => by
 refine wpAny_Call_ofName (wpAny_Name (g A _ s env _ G.bas.stays G.globals G.builtins G.kind hf ?_) hd)
 have a := EvA.cons (pos := pos) h .nil he A s L G
 show wpAny c.M A (callWith pos (.type "list") [] (backTo pos (starEach [e] env)) []) _ _ s
 rw [he] at a ⊢
 refine callWith_of (P := fun h => c.base.StaysIn h) rfl keep_type (evalArgs_plain (wK a (fun vs s1 q => ?_)))
 obtain ⟨p1, q⟩ := q
 have G1 := G.hx0 p1.hx
 refine ⟨G1.bas.stays, ?_⟩
 have hz := q.one_inv; clear q; obtain ⟨_, r⟩ := hz
 have hz := r.list_inv; clear r; obtain ⟨a, vs, n, ha, ea, q⟩ := hz
 refine call_list_seq a (.inl rfl) ea rfl rfl (fun h' k hk e' => ?_) (by simp [q.length, sizeLine_eq]; omega)
 have q1 : HX c [] s1.heap h' := .keep0 hk
 have hD : s1.heap.get? s1.heap.objs.size = none := fresh_ge (Nat.le_refl _)
 exact ⟨p1.trans ⟨h', s1.toks, q1⟩, _, p1.hx.none_of (fun z => nomatch z) hD, vs, k, e', (q.wide fun a ha => (lC ha).elim (fun e => .inr (e ▸ hD)) .inl).hx0 q1 fun a ha => .tail _ (G1.bas.frs a ha)⟩
end
end
section
noncomputable def enumL {α : Type} (L : List α) : List (Nat × α) := L.zipIdx.map fun p => (p.2, p.1)
theorem enumL_map {α : Type} (L : List α) (g : α -> PyData) : enumD (L.map g) = (enumL L).map fun z => .tuple [.int (z.1 : Nat), g z.2] := by
 unfold enumD enumL
 rw [List.zipIdx_map, List.map_map, List.map_map]
 rfl
theorem enumL_len {α : Type} (L : List α) : (enumL L).length = L.length := by simp [enumL]
theorem enumL_get {α : Type} {L : List α} {i j : Nat} {a : α} (h : (enumL L)[i]? = some (j, a)) : j = i /\ L[i]? = some a := by
 unfold enumL at h
 rw [List.getElem?_map, List.getElem?_zipIdx] at h
 cases hx : L[i]? with
 | none => rw [hx] at h; cases h
 | some x =>
  rw [hx] at h
  simp at h
  exact ⟨h.1.symm, by rw [h.2]⟩
theorem enumL_mem {α : Type} {L : List α} {j : Nat} {a : α} (h : (j, a) ∈ enumL L) : L[j]? = some a := by
 obtain ⟨i, hi⟩ := List.getElem?_of_mem h
 obtain ⟨rfl, q⟩ := enumL_get hi
 exact q
section
variable {c : Cfg} {l : Nat} {X : List Addr} {env : Env} {Γ Γc : Gam}
theorem EvI.enum {α : Type} {L : List α} {g : α -> PyData} {e : Expr} {f : Str} {np pos : Pos} (hg : Glb c f (.type "enumerate")) (h : Ev c l X env Γ e (.list (L.map g))) (hf : autoParam (env.kindOf f = some .globalImplicit) aK)
  (hd : autoParam ((f == ("__debug__" : Str)) = false) aK) (he : autoParam (starEach [e] env = (false, eval e env) :: starEach [] env) aR) : EvI c l X env Γ true (.Call (.Name f np) [e] [] pos) ((enumL L).map fun z => .tuple [.int (z.1 : Nat), g z.2]) :=
 (EvI.ofEnum hg hf h hd he).as (enumL_map L g)
theorem EvI.zip {α β : Type} {L : List α} {M : List β} {g1 : α -> PyData} {g2 : β -> PyData} {e1 e2 : Expr} {f : Str} {np pos : Pos} (hg : Glb c f (.type "zip")) (h1 : Ev c l X env Γ e1 (.list (L.map g1))) (h2 : Ev c l X env Γ e2 (.list (M.map g2))) (hlen : L.length = M.length) (hf : autoParam (env.kindOf f = some .globalImplicit) aK)
  (hd : autoParam ((f == ("__debug__" : Str)) = false) aK) (he : autoParam (starEach [e1, e2] env = (false, eval e1 env) :: starEach [e2] env) aR) (he2 : autoParam (starEach [e2] env = (false, eval e2 env) :: starEach [] env) aR) : EvI c l X env Γ true (.Call (.Name f np) [e1, e2] [] pos) ((L.zip M).map fun z => .tuple [g1 z.1, g2 z.2]) :=
 (EvI.ofZip hg hf h1 h2 (by simpa using hlen) hd he he2).as (by
  unfold zipD
  rw [List.zip_map, List.map_map]
  rfl)
theorem EvC.nmD {α K : Type} [DecidableEq K] (dk : DKey c.w K) (k0 : K) {L : List α} {g : α -> PyData} {x : Str} {p : Pos} {kx vx iter : Expr} {scope : Scope} {pos : Pos} (kf : α -> K) (f : α -> PyData) (hg : ∀ a b, g a = g b -> a = b) (hI : EvI c l X env Γ false iter (L.map g)) (hc : Cap env scope Γ Γc)
  (hk : ∀ cs C XL, ∀ a ∈ L, Ev c l XL (cenvOf scope cs C env) ((x, g a) :: Γc) kx (dk.enc (kf a))) (he : ∀ cs C XL, ∀ a ∈ L, Ev c l XL (cenvOf scope cs C env) ((x, g a) :: Γc) vx (f a)) (hz : L.length <= 10 ^ 6) (hn : (L.map kf).Nodup) (hs : autoParam (scB env scope = true) aK)
  (ht : autoParam (tgB scope [x] = true) aK) (ho : autoParam (offB [x] (Γc.map (·.1)) = true) aK) (hd : autoParam ((x == ("__debug__" : Str)) = false) aK) (hfold : ∀ x, foldedSetIterable iter env x = pure x := by intro _; rfl) :
  EvC c l X env Γ (.DictComp kx vx [⟨.Name x p, iter, [], 0⟩] scope pos) (.dict (L.map fun a => (dk.enc (kf a), f a))) :=
 (EvC.compD dk k0 (fun _ => true) kf f (TB.name hg hd) hI (scOk.of hs) hc (tg_of ht) (off_of ho) (fun _ _ _ _ _ => .nil) (fun cs C XL a ha _ => hk cs C XL a ha) (fun cs C XL a ha _ => he cs C XL a ha) hz (by rw [filter_true]; exact hn) hfold).as (by rw [filter_true])
theorem Ev.item {value slice : Expr} {pos : Pos} {i : Int} {ds : List PyData} {d : PyData} (h1 : Ev c l X env Γ value (.list ds)) (h2 : Ev c l X env Γ slice (.int i)) (h0 : 0 <= i) (hi : i < 2 ^ 63) (hx : ds[i.toNat]? = some d) (hs : ∀ o i, subscripted slice false o i = operate [o, i] (getItem o i) := by intro _ _; with_unfolding_all rfl) : Ev c l X env Γ (.Subscript value slice pos) d :=
 Ev.sub h1 h2 (P2.item h0 hi hx hs)
end
theorem P2.addI {c : Cfg} {a b : List Int} (hz : a.length + b.length <= 10 ^ 6) : P2 c (binaryOp .Add) (iL a) (iL b) (iL (a ++ b)) := by
 have := P2.addL (c := c) (ds := a.map .int) (es := b.map .int) (by simpa using hz)
 rw [<- List.map_append] at this
 exact this
theorem flat_ints {ns : List Int} (h : ns.length <= 10 ^ 5) : Flatish (ns.map .int) :=
 ⟨fun d hd => by obtain ⟨n, _⟩ := mem_mapI hd; rfl, fun d hd => by obtain ⟨n, _⟩ := mem_mapI hd; simp [PyData.depth], by simpa using h⟩
end
section
open PySem PySem.Spec PySem.Calls PyProof.Rows PySem.W Builtin Builtin.ObjectAttr Builtin.Getset_descriptor
section
variable {K : Act} {A : Around} {s0 : Shared} {E : Err} {X : List Addr} {Γ Γ' : Gam} {R R' : Ros} {Δ Δ' : Del K} {ss : List Stmt} {O O' : Out K -> Prop} {s : Shared} {os : List (Addr × Obj)}
end
section
variable {prog : Program} {w : World} {A : Around} {E : Err} {s : Shared} {K : Frag} {x C dx : Addr} {ox : Obj} {es : List DictEntry} {n : Nat} {name : Str}
theorem getA {expr : Bool} {v : Value} {Q : Value -> Shared -> Prop} {attr : Option Value} (X : K.In s.heap) (I : InstAt s.heap x ox C (some (dictOf es n))) (hg : plainGet K C name = true) (hh : hasDictIn K C = true) (ha : findIn K (.ref C) name = some attr) (hn : noGet K attr = true)
  (hl : getL name es = some (some v)) (hv : handedIn v = true) (h : Q v { s with toks := s.toks + 1 }) : wpAny (model prog w) A (getAttr (.ref x) name expr) Q E s :=
 get_value X I (plainGet_of hg).1 (findObj_own hh ha hn (by rw [lookIn_dict, hl])) hv h
theorem putL_len (name : Str) (hsh : Int) (key v : Value) : ∀ es : List DictEntry, (putL name hsh key v es).length <= es.length + 1
 | [] => by simp [putL]
 | a :: r => by
  unfold putL
  split
  ·simp
  ·simpa using putL_len name hsh key v r
theorem setA {v : Value} {Q : Unit -> Shared -> Prop} (X : K.In s.heap) (I : InstAt s.heap x ox C (some (dictOf es n))) (hd : ox.dict = some dx) (hp : plainOver K C = true) (ht : takerIn K C name = some none) (hh : hasDictIn K C = true)
  (hs : findIn K (.ref C) "__setattr__" = some (some (.builtin "object.__setattr__"))) (hl : (getL name es).isSome = true) (hz : es.length <= 900)
  (h : ∀ h' tk tk0, Heap.SameBut dx s.heap h' -> h'.get? dx = some (dictOf (putL name (PyData.keyHash w.params name) (.str name tk0) v es) (putN name es n)) -> Q () { s with heap := h', toks := tk }) :
  wpAny (model prog w) A (setAttr (.ref x) name v) Q E s := by
 refine set_plain X I hs (osa_open (s := { s with toks := s.toks + 1 }) X I hp ht fun b => ?_)
 obtain ⟨cd, hc, hd'⟩ := any_some hh
 have D : s.heap.get? dx = some (dictOf es n) := by
  have := I.dict
  rw [hd] at this
  exact this
 obtain ⟨hx, hcl, hn, -⟩ := I
 obtain ⟨oc, odi, oda, osl⟩ := ox
 dsimp only at hcl hd
 subst hcl hd
 refine wB (wP (wB (wB (wpAny_loadPart hx (wB (Looks.here (s := { s with toks := s.toks + 1 }) (looks_clsIn X hc) ?_))))))
 rw [hd']
 refine wP (a := some dx) (wB (wP (wB ?_)))
 unfold nsSet
 refine wB (wB (wpAny_askSetting (wP (wB (wpAny_mkText (wB (wpAny_loadPart D ?_)))))))
 dsimp only
 have c : (!es.toArray.any (·.key.isStr name) && es.toArray.any (·.refKey)) = false := by
  rw [<- Array.any_toList, <- Array.any_toList]
  unfold getL at hl
  split at hl
  ·rename_i en he
   rw [List.any_eq_true.mpr ⟨en, List.mem_of_find?_eq_some he, List.find?_some he⟩]; rfl
  ·split at hl
   ·cases hl
   ·rename_i z; rw [Bool.not_eq_true] at z; rw [z, Bool.and_false]
 rw [aRefKeyMayBeTheName_at, c]
 have e1 : Obj.putName name (PyData.keyHash w.params name) (.str name (s.toks + 1)) v (dictOf es n) = dictOf (putL name (PyData.keyHash w.params name) (.str name (s.toks + 1)) v es) (putN name es n) := putName_dict ..
 have D' : (s.heap.update dx (Obj.putName name (PyData.keyHash w.params name) (.str name (s.toks + 1)) v)).get? dx = some (dictOf (putL name (PyData.keyHash w.params name) (.str name (s.toks + 1)) v es) (putN name es n)) := by
  rw [Heap.get?_update_self _ D (by rw [e1]; rfl), e1]
 refine wpAny_updatePart D ?_
 have hlen := putL_len name (PyData.keyHash w.params name) (.str name (s.toks + 1)) v es
 refine wB (wpAny_lookBehind D' (pastItsLine_dict (by rw [List.size_toArray, sizeLine_eq]; omega)) ?_)
 exact wP (h _ _ _ (Heap.SameBut.update ..) D')
theorem getS {expr : Bool} {v : Value} {Q : Value -> Shared -> Prop} {p : Addr} {i : Nat} {od : Obj} (X : K.In s.heap) (I : InstAt s.heap x ox C (some od)) (hg : plainGet K C name = true) (hc : (clsIn K C).isSome = true) (ha : findIn K (.ref C) name = some (some (.ref p)))
  (hgt : specialIn K (.ref p) "__get__" = some (some (.builtin "member_descriptor.__get__"))) (ht : takesIn K (.ref p) = some true) (hp : slotIn K p C = some i) (hv : (ox.slots[i]?).join = some v) (hh : handedIn v = true) (h : Q v { s with toks := s.toks + 1 }) :
  wpAny (model prog w) A (getAttr (.ref x) name expr) Q E s := by
 refine get_bind X I (plainGet_of hg).1 (findObj_data hc ha hgt ht) (plainGet_of hg).2 (wpAny_call (slot_get (s := { s with toks := s.toks + 1 }) X I hp hv ?_))
 show wpAny _ _ (handedOut v) _ _ _
 rw [handedOut_of hh]
 exact wP h
theorem setS {v : Value} {Q : Unit -> Shared -> Prop} {p : Addr} {i : Nat} {od : Obj} (X : K.In s.heap) (I : InstAt s.heap x ox C (some od)) (hs : findIn K (.ref C) "__setattr__" = some (some (.builtin "object.__setattr__"))) (hpl : plainOver K C = true) (ht : takerIn K C name = some (some (.ref p)))
  (hT : typeIn K (.ref p) = some (.type "member_descriptor")) (hp : slotIn K p C = some i) (hi : i < 1000) (hf : ∀ sl, ({ ox with slots := sl } : Obj).isFreed = false)
  (h : ∀ h' tk, Heap.SameBut x s.heap h' -> h'.get? x = some { ox with slots := (ox.slots ++ Array.replicate (i + 1 - ox.slots.size) none).setIfInBounds i (some v) } -> Q () { s with heap := h', toks := tk }) :
  wpAny (model prog w) A (setAttr (.ref x) name v) Q E s := by
 refine set_plain X I hs (osa_descr (s := { s with toks := s.toks + 1 }) KF.slot_mset X I hpl ht hT ?_)
 obtain ⟨n, tn, owner, behind, tb, d, sl, cd, ho, hc, hm, hb, rfl⟩ := slot_of X hp
 have L0 := I.type (M := model prog w)
 have L1 := looks_mroIn (M := model prog w) X hm
 have L2 : Looks (model prog w) s.heap (Slots.slotNamesOf (.ref C)) cd.slotNames := (looks_clsIn X hc).andThen .now
 have hx := I.at_
 obtain ⟨hh, g, dr, t, os⟩ := s
 dsimp only at ho hx L0 L1 L2
 have f0 := looks_field (M := model prog w) ho 0 (v := .str n tn) rfl
 have f1 := looks_field (M := model prog w) ho 1 (v := owner) rfl
 have f3 := looks_field (M := model prog w) ho 3 (v := .builtin "proto.slot#set") rfl
 have f4 := looks_field (M := model prog w) ho 4 (v := .int behind tb) rfl
 refine codeAny_call_builtin KF.slot_mset.plain KF.entry_mset (KF.slot_mset.check _ _ _ _ _ _ _ _ ⟨_, ho, rfl⟩ (KF.args_mset _ _ _) ?_)
 unfold Builtin.«member_descriptor.__set__» descrSet descrStoreThrough descrCheckInstance descrNameAndClass isInstance
 have f5 : Looks (model prog w) hh (descrItself (.ref p)) [.ref p] := ((Looks.ld (part := none) ho).andThen .now).andThen (Looks.of_pure (by kernel_rfl))
 repeat lk
 refine ⟨Code.quiet_builtin _ (by decide +kernel), codeAny_builtin KF.entry_slotset ?_⟩
 unfold Builtin.«proto.slot#set» Slots.target
 repeat lk
 rw [if_neg hb]
 refine wP (wB ?_)
 unfold setSlotAt
 dsimp only
 rw [if_neg (by rw [sizeLine_eq]; omega)]
 refine wpAny_updatePart hx (wP (h _ _ (Heap.SameBut.update ..) ?_))
 exact Heap.get?_update_self _ hx (hf _)
end
end
section
noncomputable def resOf (f : Flow) : Value := match f with | .ret v => v | _ => .none
section
variable {c : Cfg} {A : Around} {s : Shared} {l : Nat} {X : List Addr}
noncomputable def retR (Q : Value -> Shared -> Prop) : Result -> Shared -> Prop
 | .ok (.ret v), s' => Q v s'
 | _, _ => False
theorem call_retR {f : Value} {vs : List Value} {Q : Value -> Shared -> Prop} (h : codeAny c.M A (.call f ⟨vs, []⟩) (retR Q) s) : wpAny c.M A (call f vs) Q NoE s := by
 refine wpAny_call (codeAny_mono h fun r s' hr => ?_)
 rcases r with e | f
 ·exact hr.elim
 ·cases f <;> exact hr
theorem fn_all {a : Addr} {fd : FuncData} {body : List Stmt} {ps : List Str} {args : Args} {Q : Value -> Shared -> Prop} (F : FnAt c a fd body) (hok : fnOk fd.scope ps = true) (LA : Lev l A) (B : Bas c A X s.heap)
  (hbind : wpAny c.M A.in1 (bindArgs fd args) (fun binds s1 => Pst c s s1 /\ ∃ vs : List Value, binds = ps.zip vs /\ vs.length = ps.length /\ ∀ s2, InCallC s1 (callEnvC fd s1.heap.objs.size a).locals (bindL (callEnvC fd s1.heap.objs.size a).kindOf (ps.zip vs) fun _ => none) (callEnvC fd s1.heap.objs.size a).cells (bindC (callEnvC fd s1.heap.objs.size a).kindOf (ps.zip vs) fun _ => none) s2 ->
   wpAny c.M (A.deeper (callEnvC fd s1.heap.objs.size a)) (execs body (callEnvC fd s1.heap.objs.size a)) (fun f s' => Q (resOf f) s') NoE s2) NoE s) : codeAny c.M A (.call (.ref a) args) (retR Q) s := by
 obtain ⟨o, ho, hd⟩ := F.at_
 obtain ⟨h1, h2, h3, h4, h5, h6, h7⟩ := fnOk_inv hok
 have st := B.stays
 refine codeAny_call_function (by have := LA.depth; show A.depth < 1000; omega) (st a o ho) hd h6 h7 F.body (F.code.keeps st) (noE_any (wK hbind (fun binds s1 hb => ?_)))
 obtain ⟨p1, vs, rfl, hvl, hk⟩ := hb
 have st1 := (B.hx0 p1.hx).stays
 rw [F.clo]
 refine wpAny_newFunctionEnv_cells h5 (fun y hy => ?_) fun env he s2 x => ?_
 ·have hy' : y.1 ∈ ps := by
   have := lM (f := (·.1)) hy
   rw [List.map_fst_zip (by omega)] at this
   exact this
  rcases xs_mem (h3 _ hy') with hk | hk
  ·exact .inl (mem_lookup h1 hk)
  ·obtain ⟨b, e, _⟩ := cells_on (h := s1.heap.push { cls := .type "frame", data := .dict #[] }) (acc := []) h1 hk
   rw [Heap.size_push] at e
   exact .inr ⟨mem_lookup h1 hk, by rw [e]; rfl⟩
 ·subst he
  refine ⟨(F.lim.keeps st1).keeps x.toInCall.keep, codeAny_func (wM (hk s2 x) (fun f s' hq => ?_) fun _ _ f => f.elim)⟩
  cases f <;> exact hq
noncomputable def actM (c : Cfg) (l : Nat) (fd : FuncData) (L a : Addr) (X0 : List Addr) (post : PyData -> List (Res (c.push L)) -> Prop) : Act := { fnAct c l fd L a X0 with post := post }
noncomputable def hidS (s : Shared) (fp : List Addr) : Shared := { s with heap := hideAll s.heap fp }
end
end
section
noncomputable def okA (F : Frag) (C : Addr) (name : Str) : Bool :=
 plainGet F C name && hasDictIn F C && findIn F (.ref C) name == some none && plainOver F C && takerIn F C name == some none && findIn F (.ref C) "__setattr__" == some (some (.builtin "object.__setattr__"))
noncomputable def okSl (F : Frag) (C : Addr) (name : Str) (p : Addr) (i : Nat) : Bool :=
 plainGet F C name && (clsIn F C).isSome && findIn F (.ref C) name == some (some (.ref p)) && specialIn F (.ref p) "__get__" == some (some (.builtin "member_descriptor.__get__")) && takesIn F (.ref p) == some true && slotIn F p C == some i &&
  plainOver F C && takerIn F C name == some (some (.ref p)) && typeIn F (.ref p) == some (.type "member_descriptor") && findIn F (.ref C) "__setattr__" == some (some (.builtin "object.__setattr__")) && decide (i < 1000)
noncomputable def okM (F : Frag) (C : Addr) (name : Str) (f : Addr) : Bool :=
 plainGet F C name && findIn F (.ref C) name == some (some (.ref f)) && typeIn F (.ref f) == some (.type "function")
inductive OkAI (F : Frag) (C : Addr) (name : Str) : Prop
 | mk (k1 : plainGet F C name = true) (k2 : hasDictIn F C = true) (k3 : findIn F (.ref C) name = some none) (k4 : plainOver F C = true) (k5 : takerIn F C name = some none) (k6 : findIn F (.ref C) "__setattr__" = some (some (.builtin "object.__setattr__")))
theorem okA_inv {F : Frag} {C : Addr} {name : Str} (h : okA F C name = true) : OkAI F C name := by
 unfold okA at h
 simp only [Bool.and_eq_true, beq_iff_eq] at h
 obtain ⟨⟨⟨⟨⟨k1, k2⟩, k3⟩, k4⟩, k5⟩, k6⟩ := h
 exact ⟨k1, k2, k3, k4, k5, k6⟩
inductive OkSI (F : Frag) (C : Addr) (name : Str) (p : Addr) (i : Nat) : Prop
 | mk (k1 : plainGet F C name = true) (k2 : (clsIn F C).isSome = true) (k3 : findIn F (.ref C) name = some (some (.ref p))) (k4 : specialIn F (.ref p) "__get__" = some (some (.builtin "member_descriptor.__get__"))) (k5 : takesIn F (.ref p) = some true) (k6 : slotIn F p C = some i)
  (k7 : plainOver F C = true) (k8 : takerIn F C name = some (some (.ref p))) (k9 : typeIn F (.ref p) = some (.type "member_descriptor")) (k10 : findIn F (.ref C) "__setattr__" = some (some (.builtin "object.__setattr__"))) (k11 : i < 1000)
theorem okSl_inv {F : Frag} {C : Addr} {name : Str} {p : Addr} {i : Nat} (h : okSl F C name p i = true) : OkSI F C name p i := by
 unfold okSl at h
 simp only [Bool.and_eq_true, beq_iff_eq, decide_eq_true_eq] at h
 obtain ⟨⟨⟨⟨⟨⟨⟨⟨⟨⟨k1, k2⟩, k3⟩, k4⟩, k5⟩, k6⟩, k7⟩, k8⟩, k9⟩, k10⟩, k11⟩ := h
 exact ⟨k1, k2, k3, k4, k5, k6, k7, k8, k9, k10, k11⟩
inductive OkMI (F : Frag) (C : Addr) (name : Str) (f : Addr) : Prop
 | mk (k1 : plainGet F C name = true) (k2 : findIn F (.ref C) name = some (some (.ref f))) (k3 : typeIn F (.ref f) = some (.type "function"))
theorem okM_inv {F : Frag} {C : Addr} {name : Str} {f : Addr} (h : okM F C name f = true) : OkMI F C name f := by
 unfold okM at h
 simp only [Bool.and_eq_true, beq_iff_eq] at h
 exact ⟨h.1.1, h.1.2, h.2⟩
theorem inst_at {h : Heap} {x C dx : Addr} {sl : Array (Option Value)} {od : Obj} (h1 : h.get? x = some (instO C dx sl)) (h2 : h.get? dx = some od) : InstAt h x (instO C dx sl) C (some od) := ⟨h1, rfl, rfl, h2⟩
section
variable {K : Act} {A : Around} {s0 : Shared} {E : Err} {X : List Addr} {Γ Γ' : Gam} {R R' : Ros} {Δ Δ' : Del K} {ss : List Stmt} {O O' : Out K -> Prop} {s : Shared} {os : List (Addr × Obj)} {F : Frag}
theorem Sat.frag (S : Sat K X Γ R Δ A s0 s) (hF : F.In K.c.base) : F.In s.heap := fun a o e => S.good.bas.inBase (hF a o e)
end
end
section
noncomputable def safeD : PyData -> Bool
 | .tuple ds => ds.all flat
 | d => flat d
theorem flatL_rd {w : World} {X X' : List Addr} {h h' : Heap} : ∀ {vs : List Value} {ds : List PyData}, RdL w X h vs ds -> ds.all flat = true -> RdL w X' h' vs ds
 | _, _, .nil, _ => .nil
 | _, _, .cons a r, hf => by
  simp only [List.all_cons, Bool.and_eq_true] at hf
  exact .cons (a.flat hf.1) (flatL_rd r hf.2)
theorem Rd.safe {w : World} {X X' : List Addr} {h : Heap} {v : Value} {d : PyData} (r : Rd w X h v d) (hs : safeD d = true) (ht : ∀ a vs n, h.get? a = some (tupO vs n) -> a ∈ X' -> a ∈ X) : Rd w X' h v d := by
 cases r with
 | tuple ha e q => exact .tuple (fun z => ha (ht _ _ _ e z)) e (flatL_rd q hs)
 | none => exact .none
 | bool b => exact .bool b
 | int i t => exact .int i t
 | str x t => exact .str x t
 | list => exact absurd (show false = true from hs) Bool.false_ne_true
 | opq a => exact .opq a
 | tys => exact .tys
 | inst ha hd e e2 k q1 q2 => exact Rd.flat (.inst ha hd e e2 k q1 q2) hs
 | dict ha e k n q => exact Rd.flat (.dict ha e k n q) hs
section
variable {c : Cfg} {A : Around} {s : Shared} {l : Nat} {X : List Addr}
theorem hx_hid {fp : List Addr} {h h' : Heap} (q : HX c [] (hideAll h fp) h') (hb : ∀ a ∈ fp, c.base.get? a = none) (hf : ∀ a ∈ fp, a ∉ c.fr) : HX c fp h h' :=
 ⟨fun b o hn e => q.up b o (fun z => nomatch z) (hideAll_get _ e hn), fun st => q.st fun b o e => hideAll_get _ (st b o e) fun z => (by rw [hb b z] at e; cases e), fun b o hbf e n => q.lv b o hbf (hideAll_get _ e fun z => hf b z hbf) n⟩
end
end
section
section
variable {K : Act} {A : Around} {s0 : Shared} {E : Err} {X : List Addr} {Γ Γ' : Gam} {R R' : Ros} {Δ Δ' : Del K} {ss : List Stmt} {O O' : Out K -> Prop} {s s' : Shared} {os : Obs} {F : Frag}
theorem Call_meth {c : Cfg} {env : Env} {o : Expr} {name : Str} {apos pos : Pos} {args : List Expr} {Q : Value -> Shared -> Prop}
  (h : wpAny c.M A (eval o env) (fun ov s1 => ∀ pl, wpAny c.M A (getMethod ov name pl) (fun fm s2 => wpAny c.M A (callWith pos fm.1 fm.2 (backTo pos (starEach args env)) []) Q E s2) E s1) E s)
  (hbase : autoParam (attributeBase o name env (eval o env) = eval o env) aR)
  (hfew : autoParam (methodCallForm (args.length + ([] : List Keyword).length) (backTo pos (starEach args env)) (backToKw pos (keywordEach [] env)) = true) aR)
  (hline : autoParam ((apos.endLine == pos.line) = true) aR) : wpAny c.M A (eval (.Call (.Attribute o name apos) args [] pos) env) Q E s := by
 rw [arm_eval_Call, hbase]
 refine wB (wM h (fun ov s₁ h₁ => ?_) fun _ _ e => e)
 refine wB (wpAny_standAt ?_)
 have hpos : methodCallPos true o env apos pos = pure pos := by unfold methodCallPos; simp [hline]
 unfold methodCall
 rw [hfew]
 refine wB (wpAny_holding (wM (h₁ _) (fun fm s2 h2 => ?_) fun _ _ e => e))
 exact wB (wpAny_of_eq hpos h2)
end
end
section
set_option genInjectivity true in
inductive Desc where
 | data (d : PyData)
 | inst (C dx : Addr) (ns : List Str) (fs : List (Str × PyData)) (gs : List (Nat × PyData))
theorem handed_rd {w : World} {X : List Addr} {h : Heap} {v : Value} {d : PyData} (r : Rd w X h v d) : handedIn v = true := by cases r <;> rfl
inductive InstA (w : World) (X : List Addr) (h : Heap) (a C dx : Addr) (ns : List Str) (fs : List (Str × PyData)) (gs : List (Nat × PyData)) : Prop
 | mk (sl : Array (Option Value)) (es : List DictEntry) (n : Nat) (e : h.get? a = some (instO C dx sl)) (e2 : h.get? dx = some (dictOf es n)) (ks : KeysAre w es (ns.map .str)) (hf : ∀ p ∈ fs, ∃ v, getL p.1 es = some (some v) /\ Rd w X h v p.2) (hg : ∀ p ∈ gs, ∃ v, (sl[p.1]?).join = some v /\ Rd w X h v p.2)
noncomputable def resN (c : Cfg) (a C dx : Addr) (ns : List Str) (fs : List (Str × PyData)) (gs : List (Nat × PyData)) : Res c where
 fp := [a, dx]
 P := fun X h => InstA c.w X h a C dx ns fs gs
 alive := fun X h H b hb => by
  obtain ⟨sl, es, n, e1, e2, _⟩ := H
  rcases lC hb with rfl | hb
  ·exact ⟨_, e1⟩
  ·rw [lS hb]; exact ⟨_, e2⟩
 keep := fun X h h' Y H q hF hy => by
  obtain ⟨sl, es, n, e1, e2, k, f, g⟩ := H
  have hY : ∀ y ∈ Y, y ∈ X := fun y hy' => (hy y hy').1
  have hF' : ∀ a ∈ c.fr, a ∈ X := fun a ha => (hF a ha).1
  have m1 : a ∈ [a, dx] := .head _
  have m2 : dx ∈ [a, dx] := .tail _ (.head _)
  refine ⟨sl, es, n, q.exact (fun z => (hy _ z).2 m1) (fun z => (hF _ z).2 m1) e1, q.exact (fun z => (hy _ z).2 m2) (fun z => (hF _ z).2 m2) e2, k, fun p hp => ?_, fun p hp => ?_⟩
  ·obtain ⟨v, hv, r⟩ := f p hp; exact ⟨v, hv, r.hx q hF' hY⟩
  ·obtain ⟨v, hv, r⟩ := g p hp; exact ⟨v, hv, r.hx q hF' hY⟩
 wide := fun X X' h H hs => by
  obtain ⟨sl, es, n, e1, e2, k, f, g⟩ := H
  refine ⟨sl, es, n, e1, e2, k, fun p hp => ?_, fun p hp => ?_⟩
  ·obtain ⟨v, hv, r⟩ := f p hp; exact ⟨v, hv, r.wide hs⟩
  ·obtain ⟨v, hv, r⟩ := g p hp; exact ⟨v, hv, r.wide hs⟩
noncomputable def resA (c : Cfg) (a : Addr) : Desc -> Res c
 | .data d => resO c a d
 | .inst C dx ns fs gs => resN c a C dx ns fs gs
noncomputable abbrev AObs := List (Addr × Desc)
noncomputable abbrev delA (c : Cfg) (L : AObs) : List (Res c) := L.map fun p => resA c p.1 p.2
noncomputable def Desc.fp (a : Addr) : Desc -> List Addr
 | .data _ => [a]
 | .inst _ dx _ _ _ => [a, dx]
noncomputable def fpA (L : AObs) : List Addr := L.flatMap fun p => p.2.fp p.1
theorem resA_fp {c : Cfg} {a : Addr} {D : Desc} : (resA c a D).fp = D.fp a := by cases D <;> rfl
theorem mem_fpA {c : Cfg} {L : AObs} {a : Addr} : a ∈ fpA L ↔ ∃ r ∈ delA c L, a ∈ r.fp := by
 unfold fpA delA
 simp only [List.mem_flatMap, List.mem_map]
 constructor
 ·rintro ⟨p, hp, ha⟩
  exact ⟨_, ⟨p, hp, rfl⟩, by rw [resA_fp]; exact ha⟩
 ·rintro ⟨_, ⟨p, hp, rfl⟩, ha⟩
  exact ⟨p, hp, by rw [resA_fp] at ha; exact ha⟩
theorem resA_push {c : Cfg} {L a : Addr} {D : Desc} {X : List Addr} {h : Heap} : (resA (c.push L) a D).P X h ↔ (resA c a D).P X h := by
 cases D with
 | data d => cases d <;> exact Iff.rfl
 | inst => exact Iff.rfl
structure LentA (c : Cfg) (X : List Addr) (h : Heap) (L : AObs) : Prop where
 at_ : ∀ r ∈ delA c L, r.P X h
 off : ∀ a ∈ fpA L, a ∈ X /\ c.base.get? a = none /\ a ∉ c.fr
 apart : (delA c L).Pairwise fun r r' => ∀ a ∈ r.fp, a ∉ r'.fp
inductive BackA (c : Cfg) (X : List Addr) (s : Shared) (L : AObs) (P : PyData -> AObs -> Prop) (v : Value) (s' : Shared) : Prop
 | mk (h' : Heap) (tk : Nat) (d : PyData) (L' : AObs) (e : s' = { s with heap := h', toks := tk }) (hP : P d L') (q : HX c (fpA L) s.heap h') (res : ∀ r ∈ delA c L', r.P (fpA L' ++ X) h') (new : ∀ a ∈ fpA L', a ∈ fpA L \/ s.heap.get? a = none) (old : ∀ a ∈ fpA L, a ∈ fpA L') (ap : (delA c L').Pairwise fun r r' => ∀ a ∈ r.fp, a ∉ r'.fp) (r : Rd c.w (fpA L' ++ X) h' v d)
noncomputable def FnA (c : Cfg) (l : Nat) (f : Addr) (ds : List PyData) (L : AObs) (P : PyData -> AObs -> Prop) : Prop :=
 ∀ A X s vs, Lev l A -> Bas c A X s.heap -> RdL c.w X s.heap vs ds -> LentA c X s.heap L -> codeAny c.M A (.call (.ref f) ⟨vs, []⟩) (retR (BackA c X s L P)) s
theorem delA_append {c : Cfg} {L M : AObs} : delA c (L ++ M) = delA c L ++ delA c M := List.map_append
section
variable {K : Act} {A : Around} {s0 : Shared} {E : Err} {X : List Addr} {Γ Γ' : Gam} {R R' : Ros} {Δ Δ' : Del K} {ss : List Stmt} {O O' : Out K -> Prop} {s s' : Shared} {L : AObs}
theorem Sat.lentA (S : Sat K X Γ R (delA K.c L ++ Δ) A s0 s) : LentA K.c X s.heap L :=
 ⟨fun r hr => S.res r (lL _ hr), fun a ha => by
  obtain ⟨r, hr, ha⟩ := (mem_fpA (c := K.c)).mp ha
  have fq := S.fps r (lL _ hr) a ha
  exact ⟨fq.1, S.base _ fq.2.1, fq.2.2.2⟩, (List.pairwise_append.mp S.apart).1⟩
theorem Sat.backA {P : PyData -> AObs -> Prop} {v : Value} (S : Sat K X Γ R (delA K.c L ++ Δ) A s0 s) (b : BackA K.c X s L P v s') :
  ∃ L' d X', P d L' /\ Sat K X' Γ R (delA K.c L' ++ Δ) A s0 s' /\ Rd K.c.w X' s'.heap v d := by
 obtain ⟨h', tk, d, L', rfl, hP, q, hos, hnew, hall, hap, hv⟩ := b
 have hf : ∀ a ∈ fpA L, a ∈ X /\ s0.heap.get? a = none /\ a ∉ K.N /\ a ∉ K.c.fr := fun a ha => by
  obtain ⟨r, hr, ha⟩ := (mem_fpA (c := K.c)).mp ha
  exact S.fps r (lL _ hr) a ha
 have hout : ∀ r2 ∈ Δ, ∀ y ∈ fpA L, y ∉ r2.fp := fun r2 hr2 y hy => by
  obtain ⟨r, hr, ha⟩ := (mem_fpA (c := K.c)).mp hy
  exact (List.pairwise_append.mp S.apart).2.2 r hr r2 hr2 y ha
 have hloc : K.env.locals ∉ fpA L := fun z => (hf _ z).2.2.1 S.env.1
 have hcel : ∀ x a, K.env.cells.lookup x = some a -> a ∉ fpA L := fun x a e z => (hf _ z).2.2.1 (S.env.2 x a e)
 have hX' : ∀ a ∈ fpA L' ++ X, a ∈ X \/ s.heap.get? a = none := fun a ha => (lA ha).elim (fun z => (hnew a z).imp_left fun w => (hf a w).1) .inl
 have hYX : ∀ y ∈ fpA L, y ∈ fpA L' ++ X := fun y hy => lR _ (hf y hy).1
 have hF : ∀ a ∈ K.c.fr, a ∈ fpA L' ++ X := fun a ha => lR _ (S.good.bas.frs a ha)
 have alive' : ∀ a ∈ fpA L', ∃ o, h'.get? a = some o := fun a ha => by
  obtain ⟨r, hr, ha⟩ := (mem_fpA (c := K.c)).mp ha
  exact r.alive _ _ (hos r hr) a ha
 refine ⟨L', d, fpA L' ++ X, hP, ?_, hv⟩
 exact
 {same := S.same.to
  hx := S.hx.young q fun a ha => (hf a ha).2.1
  sub := fun a ha => lR _ (S.sub a ha)
  own := fun a ha => ⟨lR _ (S.own a ha).1, (S.own a ha).2⟩
  env := S.env
  good :=
  {bas := ⟨S.good.bas.handled, let ⟨o, b, f⟩ := S.good.bas.below; ⟨o, q.below f b, f⟩, fun a ha => (by
    by_cases hz : a ∈ fpA L'
    ·exact alive' a hz
    ·exact q.alive (fun z => hz (hall a z)) (S.good.bas.alloc a ((lA ha).elim (fun z => absurd z hz) id))), hF⟩
   kind := S.good.kind
   globals := S.good.globals
   builtins := S.good.builtins
   cells := S.good.cells
   inj := S.good.inj
   cal := fun x a e => let ⟨v, i⟩ := S.good.cal x a e; ⟨v, q.cell (hcel _ _ e) i⟩
   vars := fun p hp => (by
    obtain ⟨u, Hu, ru⟩ := S.good.vars p hp
    refine ⟨u, ?_, (ru.wide hX').hx q hF hYX⟩
    cases Hu with
    | loc kk n e => exact .loc kk (q.ns hloc n) e
    | cell kk l i => exact .cell kk l (q.cell (hcel _ _ l) i)
    | free kk l i dd => exact .free kk l (q.cell (hcel _ _ l) i) dd) }
  tg := S.tg.hx q hloc fun t ht z => (hf t z).2.2.1 ht
  names := fun p hp => (by
   cases S.names p hp with
   | loc k n e => exact .loc k (q.ns hloc n) e
   | cell k l i => exact .cell k l (q.cell (hcel _ _ l) i)
   | free k l i d => exact .free k l (q.cell (hcel _ _ l) i) d)
  res := fun r2 hr => (lA hr).elim (hos r2) fun hr => r2.keep _ _ _ _ (r2.wide _ _ _ (S.res r2 (lR _ hr)) hX') q (fun a ha => ⟨hF a ha, fun z => (S.fps r2 (lR _ hr) a z).2.2.2 ha⟩) fun y hy => ⟨hYX y hy, hout r2 hr y hy⟩
  fps := fun r2 hr a ha => (by
   rcases lA hr with hr | hr
   ·have ha' : a ∈ fpA L' := (mem_fpA (c := K.c)).mpr ⟨r2, hr, ha⟩
    refine ⟨lL _ ha', ?_⟩
    rcases hnew a ha' with z | z
    ·exact (hf a z).2
    ·have fq := S.off z
     exact ⟨fq.2.1, fq.2.2.1, fq.2.2.2.1⟩
   ·have t := S.fps r2 (lR _ hr) a ha
    exact ⟨lR _ t.1, t.2⟩)
  apart := List.pairwise_append.mpr ⟨hap, (List.pairwise_append.mp S.apart).2.1, fun r1 h1 r2 h2 a ha => (hnew a ((mem_fpA (c := K.c)).mpr ⟨r1, h1, ha⟩)).elim (fun z => hout r2 h2 a z) fun z => (S.off z).2.2.2.2 r2 (lR _ h2)⟩
  base := S.base
  lev := S.lev }
end
end
section
section
variable {c : Cfg} {A : Around} {s : Shared} {l : Nat} {X : List Addr}
theorem enterA {a : Addr} {fd : FuncData} {body : List Stmt} {ps : List Str} {vs : List Value} {s1 : Shared} {La : AObs} {Γ : Gam} {R : Ros} {post : PyData -> List (Res (c.push s.heap.objs.size)) -> Prop} (F : FnAt c a fd body) (hok : fnOk fd.scope ps = true) (hl : l < 60) (LA : Lev l A) (B : Bas c A X s.heap) (hvl : vs.length = ps.length)
  (hΓ : ∀ p ∈ Γ, ∃ v, (p.1, v) ∈ ps.zip vs /\ Rd c.w X s.heap v p.2) (hR : ∀ p ∈ R, (p.1, Value.ref p.2) ∈ ps.zip vs) (Ln : LentA c X s.heap La)
  (x : InCallC s (callEnvC fd s.heap.objs.size a).locals (bindL (callEnvC fd s.heap.objs.size a).kindOf (ps.zip vs) fun _ => none) (callEnvC fd s.heap.objs.size a).cells (bindC (callEnvC fd s.heap.objs.size a).kindOf (ps.zip vs) fun _ => none) s1) :
  Sat (actM c l fd s.heap.objs.size a (X.filter (· ∉ fpA La)) post) ((actM c l fd s.heap.objs.size a (X.filter (· ∉ fpA La)) post).N ++ X) Γ R (delA _ La) (A.deeper (callEnvC fd s.heap.objs.size a)) (hidS s (fpA La)) s1 := by
 obtain ⟨h1, h2, h3, h4, h5, h6, h7⟩ := fnOk_inv hok
 have hfr : (callEnvC fd s.heap.objs.size a).frame = some s.heap.objs.size := rfl
 have hks : ∀ y, (callEnvC fd s.heap.objs.size a).kindOf y = fd.scope.names.lookup y := fun y => rfl
 obtain ⟨hh, tk, rfl⟩ := x.toInCall.same
 have q0 : HX c [] s.heap hh := .keep0 x.toInCall.keep
 have qh : HX (c.push s.heap.objs.size) [] (hideAll s.heap (fpA La)) hh := .keep0 fun b o e => x.toInCall.keep b o (of_hideAll _ e)
 have hN : ∀ b ∈ (s.heap.objs.size :: fd.scope.names.filterMap (fun p => if p.2 = .cell then (callEnvC fd s.heap.objs.size a).cells.lookup p.1 else none) : List Addr), s.heap.get? b = none := fun b hb => by
  rcases lC hb with rfl | hb
  ·exact fresh_ge (Nat.le_refl _)
  ·obtain ⟨p, hp, e⟩ := List.mem_filterMap.mp hb
   split at e
   ·exact fresh_ge (Nat.le_of_lt (x.above p.1 b (PySem.mem_of_lookup e)))
   ·cases e
 have hbase : ∀ b, s.heap.get? b = none -> c.base.get? b = none := fun b e => by
  cases e' : c.base.get? b with
  | none => rfl
  | some o => rw [B.inBase e'] at e; cases e
 have hcl : ∀ y, (y, NameKind.cell) ∈ fd.scope.names -> ∃ b, (callEnvC fd s.heap.objs.size a).cells.lookup y = some b := fun y hy => by
  obtain ⟨b, e, _⟩ := cells_on (h := s.heap.push { cls := .type "frame", data := .dict #[] }) (acc := []) h1 hy
  rw [Heap.size_push] at e
  exact ⟨b, e⟩
 have hmem : ∀ y b, (callEnvC fd s.heap.objs.size a).cells.lookup y = some b -> (y, b) ∈ (callEnvC fd s.heap.objs.size a).cells := fun y b e => PySem.mem_of_lookup e
 have alive : ∀ b ∈ (s.heap.objs.size :: fd.scope.names.filterMap (fun p => if p.2 = .cell then (callEnvC fd s.heap.objs.size a).cells.lookup p.1 else none) : List Addr), ∃ o, hh.get? b = some o := fun b hb => by
  rcases lC hb with rfl | hb
  ·obtain ⟨o, e, _⟩ := ns_alive x.toInCall.ns
   exact ⟨o, e⟩
  ·obtain ⟨p, hp, e⟩ := List.mem_filterMap.mp hb
   split at e
   ·obtain ⟨o, e, _⟩ := cell_alive (x.cell _ _ e)
    exact ⟨o, e⟩
   ·cases e
 have hin : ∀ y b, (callEnvC fd s.heap.objs.size a).cells.lookup y = some b -> b ∈ (s.heap.objs.size :: fd.scope.names.filterMap (fun p => if p.2 = .cell then (callEnvC fd s.heap.objs.size a).cells.lookup p.1 else none) : List Addr) := fun y b e => by
  by_cases hm : (y, NameKind.cell) ∈ fd.scope.names
  ·exact .tail _ (List.mem_filterMap.mpr ⟨(y, .cell), hm, by simpa using e⟩)
  ·have e' : (cellsFrom (s.heap.objs.size + 1) fd.scope.names []).lookup y = some b := e
   rw [cells_off hm] at e'
   cases e'
 have hnd : ((ps.zip vs).map (·.1)).Nodup := by rw [List.map_fst_zip (by omega)]; exact h4
 have hps : ∀ y v, (y, v) ∈ ps.zip vs -> y ∈ ps := fun y v hm => by
  have := lM (f := (·.1)) hm
  rw [List.map_fst_zip (by omega)] at this
  exact this
 have has : ∀ y v, (y, v) ∈ ps.zip vs -> Has (callEnvC fd s.heap.objs.size a) hh y v := fun y v hm => by
  rcases xs_mem (h3 y (hps y v hm)) with hk | hk
  ·have hk' := (hks y).trans (mem_lookup h1 hk)
   exact .loc hk' x.toInCall.ns (bindL_get hk' hnd hm)
  ·have hk' := (hks y).trans (mem_lookup h1 hk)
   obtain ⟨b, e⟩ := hcl y hk
   have := x.cell _ _ e
   rw [bindC_get (by rw [hk']; decide) hnd hm] at this
   exact .cell hk' e this
 exact
 {same := ⟨hh, tk⟩
  hx := qh
  sub := fun b hb => lR _ (List.mem_filter.mp hb).1
  own := fun b hb => ⟨lL _ hb, hide_none (hN b hb)⟩
  env := ⟨.head _, hin⟩
  good := {
   bas := {
    handled := B.handled
    below := by
     obtain ⟨outer, b, f⟩ := B.below
     refine ⟨_, ⟨Around.frames_deeper b.stack, q0.st b.stays, ?_⟩, fun env he L hL => ?_⟩
     ·exact .cons (by show fd.scope.kind ≠ .module; rw [h5]; decide) hfr x.toInCall.ns (hbase _ (fresh_ge (Nat.le_refl _))) (q0.frames f b.frames)
     ·rcases lC he with rfl | he
      ·rw [hfr] at hL; cases hL; exact .head _
      ·exact .tail _ (f env he L hL)
    alloc := fun b hb => (lA hb).elim (alive b) fun z => q0.alive (fun z => nomatch z) (B.alloc b z)
    frs := fun b hb => (lC hb).elim (fun e => e ▸ .head _) fun z => lR _ (B.frs b z) }
   kind := h5
   globals := F.glob
   builtins := F.blt
   cells := fun y hy => by
    rcases hy with hy | hy
    ·exact hcl y (mem_of_lookup ((hks y).symm.trans hy))
    ·exact absurd rfl (h2 _ (mem_of_lookup ((hks y).symm.trans hy)))
   inj := fun y z b e1 e2 => name_of_addr x.apart (hmem _ _ e1) (hmem _ _ e2)
   cal := fun y b e => ⟨_, x.cell _ _ e⟩
   vars := fun p hp => by
    obtain ⟨v, hm, rv⟩ := hΓ p hp
    exact ⟨v, has _ _ hm, (rv.wide fun b hb => (lA hb).elim (fun z => .inr (hN b z)) .inl).hx0 q0 fun b hb => lR _ (B.frs b hb)⟩ }
  tg := ⟨⟨_, x.toInCall.ns⟩, fun y hy => by
   rcases xs_mem hy with hk | hk
   ·exact ⟨_, .head _, .loc ((hks y).trans (mem_lookup h1 hk)) rfl x.toInCall.ns⟩
   ·obtain ⟨b, e⟩ := hcl y hk
    exact ⟨b, hin y b e, .cell ((hks y).trans (mem_lookup h1 hk)) e (x.cell _ _ e)⟩⟩
  names := fun p hp => has _ _ (hR p hp)
  res := fun r hr => by
   obtain ⟨p, hp⟩ := mem_mapI hr
   refine resA_push.mpr ?_
   have h1 := Ln.at_ _ (lM (f := fun p => resA c p.1 p.2) hp)
   have hfp := fun b hb => Ln.off b (mem_fpA.mpr ⟨_, lM (f := fun p => resA c p.1 p.2) hp, hb⟩)
   refine (resA c p.1 p.2).keep _ _ _ [] ((resA c p.1 p.2).wide _ _ _ h1 fun b hb => (lA hb).elim (fun z => .inr (hN b z)) .inl) q0 (fun b hb => ⟨lR _ (B.frs b hb), fun z => (hfp b z).2.2 hb⟩) fun y hy => nomatch hy
  fps := fun r hr b hb => by
   obtain ⟨p, hp⟩ := mem_mapI hr
   have hb' : b ∈ (resA c p.1 p.2).fp := by rw [resA_fp] at hb ⊢; exact hb
   have hm : b ∈ fpA La := mem_fpA.mpr ⟨_, lM (f := fun p => resA c p.1 p.2) hp, hb'⟩
   obtain ⟨ob, hob⟩ := (resA c p.1 p.2).alive _ _ (Ln.at_ _ (lM (f := fun p => resA c p.1 p.2) hp)) b hb'
   obtain ⟨e1, e2, e3⟩ := Ln.off b hm
   refine ⟨lR _ e1, hideAll_none _ hm, fun z => ?_, fun z => ?_⟩
   ·have := hN _ z
    rw [hob] at this; cases this
   ·rcases lC z with z | z
    ·have := hN b (z ▸ .head _)
     rw [hob] at this; cases this
    ·exact e3 z
  apart := by
   have := Ln.apart
   unfold delA at this ⊢
   rw [List.pairwise_map] at this ⊢
   refine this.imp fun {a b} hab x hx => ?_
   rw [resA_fp] at hx ⊢
   have := hab x (by rw [resA_fp]; exact hx)
   rw [resA_fp] at this; exact this
  base := fun b hb => by
   by_cases hz : b ∈ fpA La
   ·exact (Ln.off b hz).2.1
   ·refine hbase b ?_
    cases e : s.heap.get? b with
    | none => rfl
    | some o =>
     have hb' : (hideAll s.heap (fpA La)).get? b = none := hb
     rw [hideAll_get _ e hz] at hb'; cases hb'
  lev := LA.deeper hl }
noncomputable def aPost (c : Cfg) (L : AObs) (P : PyData -> AObs -> Prop) : PyData -> List (Res c) -> Prop := fun d Δ => safeD d = true /\ ∃ L', List.Sublist (delA c L') Δ /\ P d L' /\ (∀ a ∈ fpA L, a ∈ fpA L')
noncomputable abbrev actA (c : Cfg) (l : Nat) (fd : FuncData) (ad a : Addr) (X0 : List Addr) (L : AObs) (P : PyData -> AObs -> Prop) : Act := actM c l fd ad a X0 (aPost _ L P)
theorem ltup {vs ws : List Value} {n m : Nat} : lstO vs n ≠ tupO ws m := fun h => by have := congrArg Obj.cls h; simp at this
theorem dtup {es : List DictEntry} {ws : List Value} {n m : Nat} : dicO es n ≠ tupO ws m := fun h => by have := congrArg Obj.cls h; simp at this
theorem itup {C dx : Addr} {sl : Array (Option Value)} {ws : List Value} {m : Nat} : instO C dx sl ≠ tupO ws m := fun h => by have := congrArg Obj.cls h; simp at this
theorem offTup {c : Cfg} {X : List Addr} {h : Heap} {p : Addr × Desc} (hr : (resA c p.1 p.2).P X h) {b : Addr} (hb : b ∈ p.2.fp p.1) {vs : List Value} {n : Nat} (e : h.get? b = some (tupO vs n)) : False := by
 obtain ⟨a, D⟩ := p
 cases D with
 | data d =>
  rw [lS hb] at e
  cases d with
  | list es => obtain ⟨vs, n, e', r⟩ := hr; rw [e'] at e; exact ltup (Option.some.inj e)
  | dict kvs => obtain ⟨es, n, e', _⟩ := hr; rw [e'] at e; exact dtup (Option.some.inj e)
  | _ => exact hr.elim
 | inst C dx ns fs gs =>
  obtain ⟨sl, es, n, e1, e2, _⟩ := hr
  rcases lC hb with rfl | hb
  ·rw [e1] at e; exact itup (Option.some.inj e)
  ·rw [lS hb, e2] at e; exact dtup (Option.some.inj e)
noncomputable def doneA (K : Act) : Out K -> Prop
 | .ret _ => True
 | .next _ _ Δ => K.post .none Δ
 | _ => False
theorem fnA_ok {a : Addr} {fd : FuncData} {body : List Stmt} {ps : List Str} {ds es : List PyData} {La : AObs} {P : PyData -> AObs -> Prop} (F : FnAt c a fd body) (hok : fnOk fd.scope ps = true) (hl : l < 60) (hlen : ps.length = es.length)
  (hbind : ∀ (A : Around) (X : List Addr) (s : Shared) (vs : List Value), Bas c A X s.heap -> RdL c.w X s.heap vs ds -> wpAny c.M A.in1 (bindArgs fd ⟨vs, []⟩) (fun binds s1 => Pst c s s1 /\ ∃ us, binds = ps.zip us /\ RdL c.w X s1.heap us es) NoE s)
  (h : ∀ (A : Around) (s0 : Shared) (ad : Addr) (X0 : List Addr), X0ok (actA c l fd ad a X0 La P) s0 -> (∃ outer, A.frames = some (callEnvC fd ad a :: outer)) -> Ex (actA c l fd ad a X0 La P) A s0 NoE (ps.zip es) [] (delA _ La) body (doneA _)) :
  FnA c l a ds La P := fun A X s vs LA B r Ln => by
 refine fn_all (args := ⟨vs, []⟩) F hok LA B (wK (hbind A X s vs B r) (fun binds s1 hb => ?_))
 obtain ⟨p1, us, rfl, ru⟩ := hb
 have hul : us.length = ps.length := by rw [ru.length, hlen]
 refine ⟨p1, us, rfl, hul, fun s2 x => ?_⟩
 have B1 := B.hx0 p1.hx
 have Ln1 : LentA c X s1.heap La := ⟨fun r hr => r.keep _ _ _ [] (Ln.at_ r hr) p1.hx (fun b hb => ⟨B.frs b hb, fun z => (Ln.off b (mem_fpA.mpr ⟨r, hr, z⟩)).2.2 hb⟩) (fun _ z => nomatch z), Ln.off, Ln.apart⟩
 have S := enterA (post := aPost _ La P) (Γ := ps.zip es) (R := []) F hok hl LA B1 hul (fun p hp => ?_) (fun p hp => nomatch hp) Ln1 x
 ·have hX0 : X0ok (actA c l fd s1.heap.objs.size a (X.filter (· ∉ fpA La)) La P) (hidS s1 (fpA La)) := fun b hb => by
   obtain ⟨hb1, hb2⟩ := List.mem_filter.mp hb
   obtain ⟨o, e⟩ := B1.alloc b hb1
   exact ⟨o, hideAll_get _ e (by simpa using hb2)⟩
  have hst : ∃ outer, (A.deeper (callEnvC fd s1.heap.objs.size a)).frames = some (callEnvC fd s1.heap.objs.size a :: outer) := let ⟨o, b, _⟩ := B.below; ⟨o, Around.frames_deeper b.stack⟩
  have hLn : (hideAll s1.heap (fpA La)).get? s1.heap.objs.size = none := hide_none (fresh_ge (Nat.le_refl _))
  refine wK (h _ _ s1.heap.objs.size _ hX0 hst s2 _ S) (fun f s' hp => ?_)
  have fin : ∀ v d X' Δ (Γ : Gam) (R : Ros), aPost _ La P d Δ -> Sat (actA c l fd s1.heap.objs.size a (X.filter (· ∉ fpA La)) La P) X' Γ R Δ (A.deeper (callEnvC fd s1.heap.objs.size a)) (hidS s1 (fpA La)) s' -> Rd c.w (X.filter (· ∉ fpA La)) s'.heap v d -> BackA c X s La P v s' := fun v d X' Δ Γ R hp S' rv => by
   obtain ⟨hsafe, L', hsub, hP, hall⟩ := hp
   obtain ⟨h', tk⟩ := S'.same
   obtain ⟨h1, tk1, q1⟩ := p1
   have q2 : HX c (fpA La) h1 h' := hx_hid (S'.hx.pop hLn) (fun b hb => (Ln.off b hb).2.1) fun b hb => (Ln.off b hb).2.2
   have hfp : ∀ b ∈ fpA L', b ∈ X' /\ (hideAll h1 (fpA La)).get? b = none := fun b hb => by
    obtain ⟨r, hr, hb⟩ := (mem_fpA (c := c.push h1.objs.size)).mp hb
    have := S'.fps r (hsub.subset hr) b hb
    exact ⟨this.1, this.2.1⟩
   have hwide : ∀ b ∈ fpA L' ++ X, b ∈ X' \/ h'.get? b = none := fun b hb => .inl (by
    by_cases hz : b ∈ fpA L'
    ·exact (hfp b hz).1
    ·have hbX : b ∈ X := (lA hb).elim (fun z => absurd z hz) id
     exact S'.sub b (List.mem_filter.mpr ⟨hbX, by simpa using fun z => hz (hall b z)⟩))
   refine ⟨h', tk, d, L', rfl, hP, (q1.mono fun _ z => nomatch z).trans q2, fun r hr => ?_, fun b hb => ?_, hall, ?_, rv.safe hsafe ?_⟩
   ·obtain ⟨p, hp⟩ := mem_mapI hr
    have := S'.res _ (hsub.subset (lM (f := fun p => resA (c.push h1.objs.size) p.1 p.2) hp))
    exact (resA c p.1 p.2).wide _ _ _ (resA_push.mp this) hwide
   ·by_cases hz : b ∈ fpA La
    ·exact .inl hz
    ·refine .inr (q1.none_of (fun z => nomatch z) ?_)
     cases e : h1.get? b with
     | none => rfl
     | some o =>
      have t := (hfp b hb).2
      rw [hideAll_get _ e hz] at t; cases t
   ·have := S'.apart.sublist hsub
    unfold delA at this ⊢
    rw [List.pairwise_map] at this ⊢
    refine this.imp fun {a b} hab x hx => ?_
    rw [resA_fp] at hx ⊢
    have := hab x (by rw [resA_fp]; exact hx)
    rw [resA_fp] at this; exact this
   ·intro b ws n e hb
    have hn : b ∉ fpA L' := fun z => by
     unfold fpA at z
     obtain ⟨p, hp, hb⟩ := List.mem_flatMap.mp z
     have hr := S'.res _ (hsub.subset (lM (f := fun p => resA (c.push h1.objs.size) p.1 p.2) hp))
     exact offTup (c := c.push h1.objs.size) (p := p) hr hb e
    have hbX : b ∈ X := (lA hb).elim (fun z => absurd z hn) id
    exact List.mem_filter.mpr ⟨hbX, by simpa using fun z => hn (hall b z)⟩
  cases f with
  | next =>
   obtain ⟨X', Γ, R, Δ, o, S'⟩ := hp
   exact fin _ .none X' Δ Γ R o S' .none
  | brk => obtain ⟨X', Γ, R, Δ, o, S'⟩ := hp; exact o.elim
  | cont => obtain ⟨X', Γ, R, Δ, o, S'⟩ := hp; exact o.elim
  | ret v =>
   obtain ⟨d', o, ⟨X', Δ', S', hd1⟩, rv⟩ := hp
   exact fin _ d' X' Δ' [] [] hd1 S' rv
 ·obtain ⟨y, d'⟩ := p
  obtain ⟨i, hi⟩ := List.getElem?_of_mem hp
  obtain ⟨e1, e2⟩ := List.getElem?_zip_eq_some.mp hi
  obtain ⟨v, hv, rv⟩ := ru.get i e2
  exact ⟨v, lG (List.getElem?_zip_eq_some.mpr ⟨e1, hv⟩), rv⟩
end
end
section
theorem isStr_str {x y : Str} {t : Tok} : (Value.str x t).isStr y = true ↔ x = y := by simp [Value.isStr]
theorem key_cases {w : World} {e : DictEntry} {x : Str} (h : KeyIs w e (.str x)) (y : Str) : e.key.isStr y = true ↔ x = y := by
 obtain ⟨⟨t, e1⟩, _⟩ := h
 rw [e1]; exact isStr_str
theorem key_ref {w : World} {e : DictEntry} {x : Str} (h : KeyIs w e (.str x)) : e.refKey = false := by
 obtain ⟨⟨t, e1⟩, _⟩ := h
 simp [DictEntry.refKey, e1]
theorem find_hd {x : Str} {a : DictEntry} {es : List DictEntry} (h : a.key.isStr x = true) : (a :: es).find? (·.key.isStr x) = some a := List.find?_cons_of_pos (p := fun e : DictEntry => e.key.isStr x) h
theorem find_tl {x : Str} {a : DictEntry} {es : List DictEntry} (h : ¬ a.key.isStr x = true) : (a :: es).find? (·.key.isStr x) = es.find? (·.key.isStr x) := List.find?_cons_of_neg (p := fun e : DictEntry => e.key.isStr x) h
theorem names_len {w : World} : ∀ {es : List DictEntry} {ns : List Str}, KeysAre w es (ns.map .str) -> es.length = ns.length
 | [], [], _ => rfl
 | e :: es, n :: ns, h => by cases h with | cons a r => simp [names_len r]
theorem names_noref {w : World} : ∀ {es : List DictEntry} {ns : List Str}, KeysAre w es (ns.map .str) -> es.any (·.refKey) = false
 | [], [], _ => rfl
 | e :: es, n :: ns, h => by cases h with | cons a r => simp [names_noref r, key_ref a]
theorem names_get {w : World} {name : Str} : ∀ {es : List DictEntry} {ns : List Str}, KeysAre w es (ns.map .str) -> name ∉ ns -> es.find? (·.key.isStr name) = none
 | [], [], _, _ => rfl
 | e :: es, n :: ns, h, hn => by
  cases h with
  | cons a r =>
   have h1 : ¬ e.key.isStr name = true := fun z => hn ((key_cases a name).mp z ▸ .head _)
   rw [find_tl h1]
   exact names_get r fun z => hn (.tail _ z)
theorem getL_no {w : World} {name : Str} {es : List DictEntry} {ns : List Str} (h : KeysAre w es (ns.map .str)) (hn : name ∉ ns) : getL name es = some none := by
 unfold getL
 rw [names_get h hn]
 show (if es.any (·.refKey) then none else some none) = some none
 rw [names_noref h]; rfl
theorem getL_some {w : World} {name : Str} {es : List DictEntry} {ns : List Str} (h : KeysAre w es (ns.map .str)) : (getL name es).isSome = true := by
 unfold getL
 split
 ·rfl
 ·rw [names_noref h]; rfl
noncomputable def putNs (name : Str) (ns : List Str) : List Str := if name ∈ ns then ns else ns ++ [name]
theorem putNs_cons {name n : Str} {ns : List Str} (hne : n ≠ name) : putNs name (n :: ns) = n :: putNs name ns := by
 unfold putNs
 have : (name ∈ n :: ns) ↔ name ∈ ns := by simp [Ne.symm hne]
 by_cases hm : name ∈ ns
 ·rw [if_pos (this.mpr hm), if_pos hm]
 ·rw [if_neg (fun z => hm (this.mp z)), if_neg hm]; rfl
theorem names_put {w : World} {name : Str} {tk : Tok} {v : Value} : ∀ {es : List DictEntry} {ns : List Str}, KeysAre w es (ns.map .str) -> KeysAre w (putL name (PyData.keyHash w.params name) (.str name tk) v es) ((putNs name ns).map .str)
 | [], [], _ => .cons ⟨⟨tk, rfl⟩, rfl⟩ .nil
 | e :: es, n :: ns, h => by
  cases h with
  | cons a r =>
   unfold putL
   by_cases z : e.key.isStr name = true
   ·rw [if_pos z]
    have hn := (key_cases a name).mp z
    subst hn
    rw [show putNs n (n :: ns) = n :: ns from if_pos (.head _)]
    exact .cons ⟨a.1, a.2⟩ r
   ·rw [if_neg z]
    have hne : n ≠ name := fun q => z ((key_cases a name).mpr q)
    rw [putNs_cons hne]
    exact .cons a (names_put r)
theorem find_put_same {name : Str} {hsh : Int} {tk : Tok} {v : Value} {es : List DictEntry} :  ∃ e, (putL name hsh (.str name tk) v es).find? (·.key.isStr name) = some e /\ e.val = v := by
 induction es with
 | nil =>
  exact ⟨⟨hsh, .str name tk, v⟩, by simp [putL, Value.isStr], rfl⟩
 | cons e es ih =>
  unfold putL
  by_cases z : e.key.isStr name = true
  ·rw [if_pos z, find_hd (by exact z)]; exact ⟨_, rfl, rfl⟩
  ·rw [if_neg z, find_tl z]; exact ih
theorem find_put_other {name x : Str} {hsh : Int} {tk : Tok} {v : Value} (hne : x ≠ name) : ∀ {es : List DictEntry} {e : DictEntry}, es.find? (·.key.isStr x) = some e -> (∀ e ∈ es, ∃ y t, e.key = .str y t) -> (putL name hsh (.str name tk) v es).find? (·.key.isStr x) = some e
 | [], _, h, _ => by cases h
 | a :: es, e, h, hk => by
  unfold putL
  obtain ⟨y, t, hy⟩ := hk a (.head _)
  by_cases z : a.key.isStr name = true
  ·rw [if_pos z]
   have : ¬ a.key.isStr x = true := fun q => by
    rw [hy, isStr_str] at z q
    exact hne (q.symm.trans z)
   rw [find_tl this] at h
   rw [find_tl (by exact this)]; exact h
  ·rw [if_neg z]
   by_cases q : a.key.isStr x = true
   ·rw [find_hd q] at h ⊢; exact h
   ·rw [find_tl q] at h ⊢
    exact find_put_other hne h fun e he => hk e (.tail _ he)
theorem getL_find {x : Str} {es : List DictEntry} {v : Value} (h : getL x es = some (some v)) : ∃ e, es.find? (·.key.isStr x) = some e /\ e.val = v := by
 unfold getL at h
 split at h
 ·rename_i e he; cases h; exact ⟨e, he, rfl⟩
 ·split at h <;> cases h
theorem getL_of {x : Str} {es : List DictEntry} {v : Value} (h : ∃ e, es.find? (·.key.isStr x) = some e /\ e.val = v) : getL x es = some (some v) := by
 obtain ⟨e, he, rfl⟩ := h
 unfold getL; rw [he]
theorem names_str {w : World} : ∀ {es : List DictEntry} {ns : List Str}, KeysAre w es (ns.map .str) -> ∀ e ∈ es, ∃ y t, e.key = .str y t
 | [], [], _, _, h => nomatch h
 | e :: es, n :: ns, h, e', he => by
  cases h with
  | cons a r =>
   rcases lC he with rfl | he
   ·exact ⟨n, a.1⟩
   ·exact names_str r e' he
noncomputable def updA (L : AObs) (a : Addr) (D' : Desc) : AObs := L.map fun p => if p.1 = a then (a, D') else p
theorem updA_mem {L : AObs} {a : Addr} {D D' : Desc} (h : (a, D) ∈ L) : (a, D') ∈ updA L a D' := List.mem_map.mpr ⟨_, h, by simp⟩
theorem updA_other {L : AObs} {a b : Addr} {D D' : Desc} (h : (b, D) ∈ L) (hne : b ≠ a) : (b, D) ∈ updA L a D' := List.mem_map.mpr ⟨_, h, by simp [hne]⟩
theorem updA_none {L : AObs} {a : Addr} {D' : Desc} (h : ∀ p ∈ L, p.1 ≠ a) : updA L a D' = L := by
 unfold updA
 conv => rhs; rw [<- List.map_id L]
 exact List.map_congr_left fun p hp => by rw [if_neg (h p hp)]; rfl
theorem fp_self {a : Addr} {D : Desc} : a ∈ D.fp a := by cases D <;> exact .head _
section
variable {K : Act} {A : Around} {s0 : Shared} {E : Err} {X : List Addr} {Γ Γ' : Gam} {R R' : Ros} {Δ Δ' : Del K} {ss : List Stmt} {O O' : Out K -> Prop} {s s' : Shared} {L : AObs}
theorem Sat.split (S : Sat K X Γ R (delA K.c L ++ Δ) A s0 s) {a : Addr} {D : Desc} (h : (a, D) ∈ L) : ∃ L1 L2, L = L1 ++ (a, D) :: L2 /\ ∀ D', updA L a D' = L1 ++ (a, D') :: L2 := by
 obtain ⟨L1, L2, rfl⟩ := List.append_of_mem h
 refine ⟨L1, L2, rfl, fun D' => ?_⟩
 have ap := (List.pairwise_append.mp S.apart).1
 unfold delA at ap
 rw [List.pairwise_map, List.pairwise_append] at ap
 obtain ⟨_, a2, a3⟩ := ap
 have n1 : ∀ p ∈ L1, p.1 ≠ a := fun p hp e => by
  have := a3 p hp (a, D) (.head _) a
  rw [resA_fp, resA_fp] at this
  exact this (e ▸ fp_self) fp_self
 have n2 : ∀ p ∈ L2, p.1 ≠ a := fun p hp e => by
  have := (List.pairwise_cons.mp a2).1 p hp a
  rw [resA_fp, resA_fp] at this
  exact this fp_self (e ▸ fp_self)
 have e1 := updA_none (D' := D') n1
 have e2 := updA_none (D' := D') n2
 unfold updA at e1 e2 ⊢
 rw [List.map_append, List.map_cons, e1, e2, if_pos rfl]
theorem Sat.updA (S : Sat K X Γ R (delA K.c L ++ Δ) A s0 s) {a : Addr} {D D' : Desc} {h' : Heap} {tk : Nat} {Y : List Addr} (h : (a, D) ∈ L) (hf : D'.fp a = D.fp a) (hY : ∀ y ∈ Y, y ∈ D.fp a) (q : HX K.c Y s.heap h') (hP : (resA K.c a D').P X h') :
  Sat K X Γ R (delA K.c (Mine.updA L a D') ++ Δ) A s0 { s with heap := h', toks := tk } := by
 obtain ⟨L1, L2, e, he⟩ := S.split h
 rw [he D']
 subst e
 have p1 : ∀ D : Desc, List.Perm (delA K.c (L1 ++ (a, D) :: L2) ++ Δ) (resA K.c a D :: (delA K.c L1 ++ delA K.c L2 ++ Δ)) := fun D => by
  rw [delA_append, List.append_assoc, List.append_assoc]
  exact List.perm_middle
 have S1 := (S.perm (p1 D)).change (r' := resA K.c a D') (tk := tk) (by rw [resA_fp, resA_fp, hf]) (q.mono fun y hy => by rw [resA_fp]; exact hY y hy) hP
 exact S1.perm (p1 D').symm
end
end
section
section
variable {K : Act} {A : Around} {s0 : Shared} {E : Err} {X : List Addr} {Γ Γ' : Gam} {R R' : Ros} {Δ Δ' : Del K} {ss : List Stmt} {O O' : Out K -> Prop} {s s' : Shared} {L : AObs} {F : Frag}
theorem Sat.obj (S : Sat K X Γ R (delA K.c L ++ Δ) A s0 s) {a C dx : Addr} {ns : List Str} {fs : List (Str × PyData)} {gs : List (Nat × PyData)} (h : (a, .inst C dx ns fs gs) ∈ L) : InstA K.c.w X s.heap a C dx ns fs gs :=
 S.res _ (lL _ (lM (f := fun p => resA K.c p.1 p.2) h))
theorem Sat.lst (S : Sat K X Γ R (delA K.c L ++ Δ) A s0 s) {a : Addr} {ds : List PyData} (h : (a, .data (.list ds)) ∈ L) : LstI K.c.w X s.heap a ds :=
 S.res _ (lL _ (lM (f := fun p => resA K.c p.1 p.2) h))
theorem getF {name : Str} {a C dx : Addr} {ns : List Str} {fs : List (Str × PyData)} {gs : List (Nat × PyData)} {d : PyData} {Q : Value -> Shared -> Prop} (hF : F.In K.c.base) (S : Sat K X Γ R (delA K.c L ++ Δ) A s0 s) (h : (a, .inst C dx ns fs gs) ∈ L) (hk : okA F C name = true) (hd : (name, d) ∈ fs)
  (k : ∀ v s', Sat K X Γ R (delA K.c L ++ Δ) A s0 s' -> Rd K.c.w X s'.heap v d -> Q v s') : wpAny K.c.M A (getAttr (.ref a) name true) Q E s := by
 obtain ⟨sl, es, n, e1, e2, hn, f, g⟩ := S.obj h
 obtain ⟨v, hv, r⟩ := f _ hd
 obtain ⟨k1, k2, k3, k4, k5, k6⟩ := okA_inv hk
 exact getA (S.frag hF) (inst_at e1 e2) k1 k2 k3 rfl hv (handed_rd r) (k v _ (S.pst .tk) r)
theorem getG {name : Str} {a C dx p : Addr} {i : Nat} {ns : List Str} {fs : List (Str × PyData)} {gs : List (Nat × PyData)} {d : PyData} {Q : Value -> Shared -> Prop} (hF : F.In K.c.base) (S : Sat K X Γ R (delA K.c L ++ Δ) A s0 s) (h : (a, .inst C dx ns fs gs) ∈ L) (hk : okSl F C name p i = true) (hd : (i, d) ∈ gs)
  (k : ∀ v s', Sat K X Γ R (delA K.c L ++ Δ) A s0 s' -> Rd K.c.w X s'.heap v d -> Q v s') : wpAny K.c.M A (getAttr (.ref a) name true) Q E s := by
 obtain ⟨sl, es, n, e1, e2, hn, f, g⟩ := S.obj h
 obtain ⟨v, hv, r⟩ := g _ hd
 obtain ⟨k1, k2, k3, k4, k5, k6, k7, k8, k9, k10, k11⟩ := okSl_inv hk
 exact getS (S.frag hF) (inst_at e1 e2) k1 k2 k3 k4 k5 k6 hv (handed_rd r) (k v _ (S.pst .tk) r)
noncomputable def putF (name : Str) (ds : List PyData) (fs : List (Str × PyData)) : List (Str × PyData) := ds.map (fun d => (name, d)) ++ fs.filter fun p => p.1 != name
noncomputable def putG (i : Nat) (ds : List PyData) (gs : List (Nat × PyData)) : List (Nat × PyData) := ds.map (fun d => (i, d)) ++ gs.filter fun p => p.1 != i
theorem setF {name : Str} {a C dx : Addr} {ns : List Str} {fs : List (Str × PyData)} {gs : List (Nat × PyData)} {ds : List PyData} {v : Value} {Q : Unit -> Shared -> Prop} (hF : F.In K.c.base) (S : Sat K X Γ R (delA K.c L ++ Δ) A s0 s) (h : (a, .inst C dx ns fs gs) ∈ L) (hk : okA F C name = true) (hz : ns.length <= 100) (r : ∀ d ∈ ds, Rd K.c.w X s.heap v d)
  (k : ∀ s', Sat K X Γ R (delA K.c (updA L a (.inst C dx (putNs name ns) (putF name ds fs) gs)) ++ Δ) A s0 s' -> Q () s') : wpAny K.c.M A (setAttr (.ref a) name v) Q E s := by
 obtain ⟨sl, es, n, e1, e2, hn, f, g⟩ := S.obj h
 obtain ⟨k1, k2, k3, k4, k5, k6⟩ := okA_inv hk
 have hfp := fun b hb => S.fps _ (lL _ (lM (f := fun p => resA K.c p.1 p.2) h)) b hb
 have hdx := hfp dx (.tail _ (.head _))
 refine setA (S.frag hF) (inst_at e1 e2) rfl k4 k5 k2 k6 (getL_some hn) (by rw [names_len hn]; omega) fun h' tk tk0 hs e => k _ ?_
 have q : HX K.c [dx] s.heap h' := .sameBut hs (S.base dx hdx.2.1) hdx.2.2.2
 have hY : ∀ y ∈ [dx], y ∈ X := fun y hy => lS hy ▸ hdx.1
 have hne : a ≠ dx := fun z => by
  rw [z, e2] at e1
  have := congrArg Obj.cls (Option.some.inj e1)
  simp at this
 refine S.updA h (Y := [dx]) rfl (fun y hy => .tail _ hy) q ⟨sl, _, _, (hs.2 a hne).trans e1, e, names_put hn, fun p hp => ?_, fun p hp => ?_⟩
 ·unfold putF at hp
  rcases lA hp with hp | hp
  ·obtain ⟨d, hd⟩ := mem_mapI hp
   exact ⟨v, getL_of find_put_same, (r d hd).hx q S.good.bas.frs hY⟩
  ·obtain ⟨hp, hpn⟩ := List.mem_filter.mp hp
   obtain ⟨u, hu, ru⟩ := f p hp
   obtain ⟨en, he, rfl⟩ := getL_find hu
   exact ⟨_, getL_of ⟨en, find_put_other (by simpa using hpn) he (names_str hn), rfl⟩, ru.hx q S.good.bas.frs hY⟩
 ·obtain ⟨u, hu, ru⟩ := g p hp
  exact ⟨u, hu, ru.hx q S.good.bas.frs hY⟩
theorem setG {name : Str} {a C dx p : Addr} {i : Nat} {ns : List Str} {fs : List (Str × PyData)} {gs : List (Nat × PyData)} {ds : List PyData} {v : Value} {Q : Unit -> Shared -> Prop} (hF : F.In K.c.base) (S : Sat K X Γ R (delA K.c L ++ Δ) A s0 s) (h : (a, .inst C dx ns fs gs) ∈ L) (hk : okSl F C name p i = true) (r : ∀ d ∈ ds, Rd K.c.w X s.heap v d)
  (k : ∀ s', Sat K X Γ R (delA K.c (updA L a (.inst C dx ns fs (putG i ds gs))) ++ Δ) A s0 s' -> Q () s') : wpAny K.c.M A (setAttr (.ref a) name v) Q E s := by
 obtain ⟨sl, es, n, e1, e2, hn, f, g⟩ := S.obj h
 obtain ⟨k1, k2, k3, k4, k5, k6, k7, k8, k9, k10, k11⟩ := okSl_inv hk
 have hfp := fun b hb => S.fps _ (lL _ (lM (f := fun p => resA K.c p.1 p.2) h)) b hb
 have ha := hfp a (.head _)
 refine setS (S.frag hF) (inst_at e1 e2) k10 k7 k8 k9 k6 k11 (fun _ => rfl) fun h' tk hs e => k _ ?_
 have q : HX K.c [a] s.heap h' := .sameBut hs (S.base a ha.2.1) ha.2.2.2
 have hY : ∀ y ∈ [a], y ∈ X := fun y hy => lS hy ▸ ha.1
 have hne : dx ≠ a := fun z => by
  rw [<- z, e2] at e1
  have := congrArg Obj.cls (Option.some.inj e1)
  simp at this
 refine S.updA h (Y := [a]) rfl (fun y hy => lS hy ▸ .head _) q ⟨_, es, n, e, (hs.2 dx hne).trans e2, hn, fun p hp => ?_, fun p hp => ?_⟩
 ·obtain ⟨u, hu, ru⟩ := f p hp
  exact ⟨u, hu, ru.hx q S.good.bas.frs hY⟩
 ·unfold putG at hp
  rcases lA hp with hp | hp
  ·obtain ⟨d, hd⟩ := mem_mapI hp
   refine ⟨v, ?_, (r d hd).hx q S.good.bas.frs hY⟩
   rw [Array.getElem?_setIfInBounds_self_of_lt (by rw [Array.size_append, Array.size_replicate]; omega)]
   rfl
  ·obtain ⟨hp, hpn⟩ := List.mem_filter.mp hp
   obtain ⟨u, hu, ru⟩ := g p hp
   refine ⟨u, ?_, ru.hx q S.good.bas.frs hY⟩
   have hpn' : i ≠ p.1 := (bne_iff_ne.mp hpn).symm
   rw [Array.getElem?_setIfInBounds_ne hpn']
   have hlt : p.1 < sl.size := by
    rcases Nat.lt_or_ge p.1 sl.size with z | z
    ·exact z
    ·rw [Array.getElem?_eq_none z] at hu; cases hu
   rw [Array.getElem?_append_left hlt]; exact hu
end
end
section
theorem rd_opq {w : World} {X : List Addr} {h : Heap} {v : Value} {a : Addr} (r : Rd w X h v (opq a)) : v = .ref a := by
 have hz : RdD w X h [(.none, .int (a : Int))] v := r.inv
 cases hz with
 | dict _ _ _ _ _ k => exact (key_none k rfl).elim
 | opq b e => rw [Int.ofNat.inj (PyData.int.inj (Prod.mk.inj (List.cons.inj e).1).2)]
 | tys e => exact nomatch (Prod.mk.inj (List.cons.inj e).1).2
 | inst _ _ _ _ _ _ _ _ _ _ _ _ e => exact nomatch (Prod.mk.inj (List.cons.inj e).1).2
section
variable {K : Act} {A : Around} {s0 : Shared} {E : Err} {X : List Addr} {Γ Γ' : Gam} {R R' : Ros} {Δ Δ' : Del K} {ss : List Stmt} {O O' : Out K -> Prop} {s s' : Shared} {L : AObs} {F : Frag}
theorem EvS.ref {e : Expr} {D : Addr} (h : EvS K A s0 E Γ R Δ e (opq D)) (S : Sat K X Γ R Δ A s0 s) {Q : Value -> Shared -> Prop} (k : ∀ s', Sat K X Γ R Δ A s0 s' -> Q (.ref D) s') : wpAny K.c.M A (eval e K.env) Q E s := h.go S fun _ s' S' r => rd_opq r ▸ k s' S'
noncomputable abbrev AttrOk (env : Env) (value : Expr) (attr : Str) (pos : Pos) : Prop := eval (.Attribute value attr pos) env = (do
   let o <- eval value env
   standAt pos.atName
   let r <- holding [o] (getAttr o attr true)
   letTemporaryGo value o r
   pure r)
theorem EvS.fld {e : Expr} {name : Str} {pos : Pos} {a C dx : Addr} {ns : List Str} {fs : List (Str × PyData)} {gs : List (Nat × PyData)} {d : PyData} (hF : F.In K.c.base) (he : EvS K A s0 E Γ R (delA K.c L ++ Δ) e (opq a)) (h : (a, .inst C dx ns fs gs) ∈ L) (hd : (name, d) ∈ fs) (hk : okA F C name = true)
  (hn : AttrOk K.env e name pos := by with_unfolding_all rfl) : EvS K A s0 E Γ R (delA K.c L ++ Δ) (.Attribute e name pos) d := fun s X S =>
 Attribute_any_ (he.ref S fun s1 S1 => getF hF S1 h hk hd fun v s2 S2 r2 => ⟨S2, r2⟩) hn
theorem EvS.slt {e : Expr} {name : Str} {pos : Pos} {a C dx p : Addr} {i : Nat} {ns : List Str} {fs : List (Str × PyData)} {gs : List (Nat × PyData)} {d : PyData} (hF : F.In K.c.base) (he : EvS K A s0 E Γ R (delA K.c L ++ Δ) e (opq a)) (h : (a, .inst C dx ns fs gs) ∈ L) (hd : (i, d) ∈ gs) (hk : okSl F C name p i = true)
  (hn : AttrOk K.env e name pos := by with_unfolding_all rfl) : EvS K A s0 E Γ R (delA K.c L ++ Δ) (.Attribute e name pos) d := fun s X S =>
 Attribute_any_ (he.ref S fun s1 S1 => getG hF S1 h hk hd fun v s2 S2 r2 => ⟨S2, r2⟩) hn
theorem Ex1.setF {o e : Expr} {name : Str} {np pos : Pos} {a C dx : Addr} {ns : List Str} {fs : List (Str × PyData)} {gs : List (Nat × PyData)} {d : PyData} (hF : F.In K.c.base) (hv : EvS K A s0 E Γ R (delA K.c L ++ Δ) e d) (ho : EvS K A s0 E Γ R (delA K.c L ++ Δ) o (opq a)) (hf : flat d = true) (h : (a, .inst C dx ns fs gs) ∈ L) (hk : okA F C name = true) (hz : ns.length <= 100)
  (hs : autoParam (swapsWith e (some (.Attribute o name np)) pos.line K.env = pure false) aR) : Ex1 K A s0 E Γ R (delA K.c L ++ Δ) (.Assign [.Attribute o name np] e pos) (nextO Γ R (delA K.c (updA L a (.inst C dx (putNs name ns) (putF name [d] fs) gs)) ++ Δ)) := fun s X S =>
 plainObj_wpAny_Assign_Attribute (hv.go S fun v s1 S1 r => ho.ref S1 fun s2 S2 => Mine.setF hF S2 h hk hz (ds := [d]) (fun d' hd' => lS hd' ▸ r.flat hf) fun s3 S3 => ⟨X, _, _, _, rfl, S3⟩) hs
theorem Ex1.setG {o e : Expr} {name : Str} {np pos : Pos} {a C dx p : Addr} {i : Nat} {ns : List Str} {fs : List (Str × PyData)} {gs : List (Nat × PyData)} {d : PyData} (hF : F.In K.c.base) (hv : EvS K A s0 E Γ R (delA K.c L ++ Δ) e d) (ho : EvS K A s0 E Γ R (delA K.c L ++ Δ) o (opq a)) (hf : flat d = true) (h : (a, .inst C dx ns fs gs) ∈ L) (hk : okSl F C name p i = true)
  (hs : autoParam (swapsWith e (some (.Attribute o name np)) pos.line K.env = pure false) aR) : Ex1 K A s0 E Γ R (delA K.c L ++ Δ) (.Assign [.Attribute o name np] e pos) (nextO Γ R (delA K.c (updA L a (.inst C dx ns fs (putG i [d] gs))) ++ Δ)) := fun s X S =>
 plainObj_wpAny_Assign_Attribute (hv.go S fun v s1 S1 r => ho.ref S1 fun s2 S2 => Mine.setG hF S2 h hk (ds := [d]) (fun d' hd' => lS hd' ▸ r.flat hf) fun s3 S3 => ⟨X, _, _, _, rfl, S3⟩) hs
theorem Ex1.augF {o e : Expr} {name : Str} {op : Operator} {np pos : Pos} {a C dx : Addr} {ns : List Str} {fs : List (Str × PyData)} {gs : List (Nat × PyData)} {d1 d2 d : PyData} (hF : F.In K.c.base) (ho : EvS K A s0 E Γ R (delA K.c L ++ Δ) o (opq a)) (hv : EvS K A s0 E Γ R (delA K.c L ++ Δ) e d2) (h : (a, .inst C dx ns fs gs) ∈ L) (hd : (name, d1) ∈ fs) (hp : P2 K.c (inplaceOp op) d1 d2 d) (hf1 : flat d1 = true) (hf : flat d = true) (hk : okA F C name = true) (hz : ns.length <= 100) :
  Ex1 K A s0 E Γ R (delA K.c L ++ Δ) (.AugAssign (.Attribute o name np) op e pos) (nextO Γ R (delA K.c (updA L a (.inst C dx (putNs name ns) (putF name [d] fs) gs)) ++ Δ)) := fun s X S =>
 wpAny_AugAssign_AttributeAny (ho.ref S fun s1 S1 => getF hF S1 h hk hd fun v1 s2 S2 r1 => hv.go S2 fun v2 s3 S3 r2 => hp.at S3 (r1.flat hf1) r2 fun v s4 S4 r4 =>
  Mine.setF hF S4 h hk hz (ds := [d]) (fun d' hd' => lS hd' ▸ r4.flat hf) fun s5 S5 => ⟨X, _, _, _, rfl, S5⟩)
theorem Ex1.augG {o e : Expr} {name : Str} {op : Operator} {np pos : Pos} {a C dx p : Addr} {i : Nat} {ns : List Str} {fs : List (Str × PyData)} {gs : List (Nat × PyData)} {d1 d2 d : PyData} (hF : F.In K.c.base) (ho : EvS K A s0 E Γ R (delA K.c L ++ Δ) o (opq a)) (hv : EvS K A s0 E Γ R (delA K.c L ++ Δ) e d2) (h : (a, .inst C dx ns fs gs) ∈ L) (hd : (i, d1) ∈ gs) (hp : P2 K.c (inplaceOp op) d1 d2 d) (hf1 : flat d1 = true) (hf : flat d = true) (hk : okSl F C name p i = true) :
  Ex1 K A s0 E Γ R (delA K.c L ++ Δ) (.AugAssign (.Attribute o name np) op e pos) (nextO Γ R (delA K.c (updA L a (.inst C dx ns fs (putG i [d] gs))) ++ Δ)) := fun s X S =>
 wpAny_AugAssign_AttributeAny (ho.ref S fun s1 S1 => getG hF S1 h hk hd fun v1 s2 S2 r1 => hv.go S2 fun v2 s3 S3 r2 => hp.at S3 (r1.flat hf1) r2 fun v s4 S4 r4 =>
  Mine.setG hF S4 h hk (ds := [d]) (fun d' hd' => lS hd' ▸ r4.flat hf) fun s5 S5 => ⟨X, _, _, _, rfl, S5⟩)
theorem Ex1.appendF {o e : Expr} {apos cpos pos : Pos} {D : Addr} {ds : List PyData} {d : PyData} (ho : EvS K A s0 E Γ R (delA K.c L ++ Δ) o (opq D)) (h : EvS K A s0 E Γ R (delA K.c L ++ Δ) e d) (hf : flat d = true) (hD : (D, .data (.list ds)) ∈ L) (hz : ds.length <= 10 ^ 6)
  (hline : autoParam ((apos.endLine == cpos.line) = true) aR) (hs : autoParam (starEach [e] K.env = [(false, eval e K.env)]) aR) (hi : autoParam (interactive K.env = false) aR) (hsw : autoParam (swapsWith (.Call (.Attribute o "append" apos) [e] [] cpos) none pos.line K.env = pure false) aR)
  (hbase : autoParam (attributeBase o "append" K.env (eval o K.env) = eval o K.env) aR) :
  Ex1 K A s0 E Γ R (delA K.c L ++ Δ) (.Expr (.Call (.Attribute o "append" apos) [e] [] cpos) pos) (nextO Γ R (delA K.c (updA L D (.data (.list (ds ++ [d])))) ++ Δ)) := fun s X S => by
 refine wpAny_Expr ?_ hi hsw
 refine mcall1 PySem.F.plainAttrs_list slot_list_append (by first | exact type_list_append | rfl) (ho.ref S fun s1 S1 => ?_) hbase hline hs
 obtain ⟨vs0, n0, e0, r0⟩ := S1.lst hD
 refine ⟨⟨_, e0, rfl⟩, fun a ha => ⟨_, (by cases ha; exact e0), rfl⟩, h.go S1 fun v s2 S2 r2 => ?_⟩
 obtain ⟨vs, n, e1, r⟩ := S2.lst hD
 have fq := S2.fps _ (lL _ (lM (f := fun p => resA K.c p.1 p.2) hD)) D (.head _)
 refine append_at e1 (fun h' hs' e' => ?_) (by simp [r.length, sizeLine_eq]; omega)
 have q : HX K.c [D] s2.heap h' := .sameBut hs' (S2.base D fq.2.1) fq.2.2.2
 have hY : ∀ y ∈ [D], y ∈ X := fun y hy => lS hy ▸ fq.1
 exact ⟨X, _, _, _, rfl, S2.updA (tk := s2.toks) hD (Y := [D]) rfl (fun y hy => lS hy ▸ .head _) q ⟨vs ++ [v], n + 1, by rw [e']; simp [lstO], (r.hx q S2.good.bas.frs hY).append (.cons (r2.flat hf) .nil)⟩⟩
end
end
section
section
variable {K : Act} {A : Around} {s0 : Shared} {E : Err} {X : List Addr} {Γ Γ' : Gam} {R R' : Ros} {Δ Δ' : Del K} {ss : List Stmt} {O O' : Out K -> Prop} {s s' : Shared} {L : AObs} {F : Frag}
inductive XpP (K : Act) (A : Around) (s0 : Shared) (Γ : Gam) (R : Ros) (Δ : Del K) (P : PyData -> AObs -> Prop) (v : Value) (s' : Shared) : Prop
 | mk (X' : List Addr) (d : PyData) (L' : AObs) (hP : P d L') (S : Sat K X' Γ R (delA K.c L' ++ Δ) A s0 s') (r : Rd K.c.w X' s'.heap v d)
noncomputable def EvX (K : Act) (A : Around) (s0 : Shared) (E : Err) (Γ : Gam) (R : Ros) (L : AObs) (Δ : Del K) (e : Expr) (P : PyData -> AObs -> Prop) : Prop :=
 ∀ s X, Sat K X Γ R (delA K.c L ++ Δ) A s0 s -> wpAny K.c.M A (eval e K.env) (XpP K A s0 Γ R Δ P) E s
noncomputable def EvAS (K : Act) (A : Around) (s0 : Shared) (E : Err) (Γ : Gam) (R : Ros) (Δ : Del K) (f : Value) (pos : Pos) (args : List Expr) (ds : List PyData) : Prop :=
 ∀ s X Q, Sat K X Γ R Δ A s0 s -> (∀ vs s' X', (∀ a ∈ X, a ∈ X') -> Sat K X' Γ R Δ A s0 s' -> RdL K.c.w X' s'.heap vs ds -> Q ⟨vs, []⟩ s') -> wpAny K.c.M A (evalArgs f true (backTo pos (starEach args K.env)) []) Q E s
theorem EvAS.nil {pos : Pos} {f : Value} : EvAS K A s0 E Γ R Δ f pos [] [] := fun s X Q S k => evalArgs_nil3 (k [] s X (fun _ h => h) S .nil)
theorem EvAS.one {pos : Pos} {f : Value} {e : Expr} {d : PyData} (h : EvS K A s0 E Γ R Δ e d) (he : autoParam (starEach [e] K.env = (false, eval e K.env) :: starEach [] K.env) aR) : EvAS K A s0 E Γ R Δ f pos [e] [d] := fun s X Q S k => by
 rw [he]
 exact evalArgs_plain (Calls.spliced_cons (wK (h s X S) (fun v s1 q => Calls.spliced_nil (k [v] s1 X (fun _ h => h) q.1 (.cons q.2 .nil)))))
theorem EvX.meth {o : Expr} {name : Str} {apos pos : Pos} {a C dx f : Addr} {ns : List Str} {fs : List (Str × PyData)} {gs : List (Nat × PyData)} {args : List Expr} {ds : List PyData} {P : PyData -> AObs -> Prop} (hF : F.In K.c.base) (ho : EvS K A s0 E Γ R (delA K.c L ++ Δ) o (opq a)) (h : (a, .inst C dx ns fs gs) ∈ L) (hk : okM F C name f = true) (hns : name ∉ ns)
  (hkeep : Keep0 K.c (.ref f)) (hm : FnA K.c K.l f (opq a :: ds) L P) (ha : EvAS K A s0 E Γ R (delA K.c L ++ Δ) (.ref f) pos args ds)
  (hbase : autoParam (attributeBase o name K.env (eval o K.env) = eval o K.env) aR)
  (hfew : autoParam (methodCallForm (args.length + ([] : List Keyword).length) (backTo pos (starEach args K.env)) (backToKw pos (keywordEach [] K.env)) = true) aR)
  (hplain : autoParam (((backTo pos (starEach args K.env)).any (·.1) || ([] : List (Option Str × Sem Value)).any (·.1.isNone)) = false) aR)
  (hline : autoParam ((apos.endLine == pos.line) = true) aR) : EvX K A s0 E Γ R L Δ (.Call (.Attribute o name apos) args [] pos) P := fun s X S => by
 obtain ⟨k1, k2, k3⟩ := okM_inv hk
 refine Call_meth (ho.ref S fun s1 S1 pl => ?_) hbase hfew hline
 obtain ⟨sl, es, n, e1, e2, hn, fg, gg⟩ := S1.obj h
 refine method_fn (S1.frag hF) (inst_at e1 e2) (plainGet_of k1).1 (plainGet_of k1).2 k2 k3 (by show (lookIn name (dictOf es n)).map _ = _; rw [lookIn_dict, getL_no hn hns]; rfl) ?_
 refine callWith_of (P := fun h => K.c.base.StaysIn h) hplain hkeep (ha _ _ _ S1 fun vs s2 X2 hX S2 r2 => ⟨S2.good.bas.stays, ?_⟩)
 refine noE_any (wK (call_retR (hm A X2 s2 (.ref a :: vs) S2.lev S2.good.bas (.cons (.opq a) r2) S2.lentA)) (fun v s3 hb => ?_))
 obtain ⟨L', d, X', hP, S3, rv⟩ := S2.backA hb
 exact ⟨X', d, L', hP, S3, rv⟩
theorem Ex1.exprX {e : Expr} {pos : Pos} {P : PyData -> AObs -> Prop} (h : EvX K A s0 E Γ R L Δ e P) (hN : ∀ d L', P d L' -> d = .none) (hi : autoParam (interactive K.env = false) aR) (hsw : autoParam (swapsWith e none pos.line K.env = pure false) aR) :
  Ex1 K A s0 E Γ R (delA K.c L ++ Δ) (.Expr e pos) (fun o => ∃ d L', P d L' /\ o = .next Γ R (delA K.c L' ++ Δ)) := fun s X S =>
 wpAny_Expr (wK (h s X S) (fun v s' q => by
  obtain ⟨X', d, L', hP, S', r⟩ := q
  have hd := hN d L' hP
  subst hd
  rw [r.none_inv]
  exact ⟨X', _, _, _, ⟨_, L', hP, rfl⟩, S'⟩)) hi hsw
theorem Ex1.assignX {x : Str} {px pos : Pos} {e : Expr} {P : PyData -> AObs -> Prop} (h : EvX K A s0 E Γ R L Δ e P) (hx : x ∈ K.xs) (hR : ∀ p ∈ R, p.1 ≠ x) (hs : autoParam (swapsWith e (some (.Name x px)) pos.line K.env = pure false) aR) :
  Ex1 K A s0 E Γ R (delA K.c L ++ Δ) (.Assign [.Name x px] e pos) (fun o => ∃ d L', P d L' /\ o = .next ((x, d) :: Γ.filter fun p => p.1 != x) R (delA K.c L' ++ Δ)) := fun s X S =>
 wpAny_Assign_Name (wK (h s X S) (fun v s' q => let ⟨X', d, L', hP, S', r⟩ := q; S'.assign hx hR r fun s2 S2 => ⟨X', _, _, _, ⟨d, L', hP, rfl⟩, S2⟩)) hs
theorem Ex.seqX {st : Stmt} {O1 : Out K -> Prop} (h : Ex1 K A s0 E Γ R Δ st O1) (hn : ∀ o, O1 o -> ∃ Γ1 R1 Δ1, o = .next Γ1 R1 Δ1 /\ Ex K A s0 E Γ1 R1 Δ1 ss O) : Ex K A s0 E Γ R Δ (st :: ss) O :=
 .cons O1 h (fun _ _ _ e => by obtain ⟨Γ1, R1, Δ1, z, q⟩ := hn _ e; cases z; exact q) (fun _ _ _ e => by obtain ⟨_, _, _, z, _⟩ := hn _ e; cases z) (fun _ _ _ e => by obtain ⟨_, _, _, z, _⟩ := hn _ e; cases z) fun _ e => by obtain ⟨_, _, _, z, _⟩ := hn _ e; cases z
end
end
section
noncomputable def isNoneD : PyData -> Bool
 | .none => true
 | _ => false
section
variable {c : Cfg}
theorem rd_isNone {w : World} {X : List Addr} {h : Heap} {v : Value} {d : PyData} (r : Rd w X h v d) : plainIs v .none = true /\ (v == .none) = isNoneD d := by
 exact Rd.casesOn (motive_1 := fun v d _ => plainIs v .none = true /\ (v == .none) = isNoneD d) r ⟨rfl, rfl⟩ (fun _ => ⟨rfl, rfl⟩) (fun _ _ => ⟨rfl, rfl⟩) (fun _ _ => ⟨rfl, rfl⟩) (fun _ _ _ => ⟨rfl, rfl⟩) (fun _ _ _ => ⟨rfl, rfl⟩) (fun _ _ _ _ _ => ⟨rfl, rfl⟩) (fun _ => ⟨rfl, rfl⟩) ⟨rfl, rfl⟩ fun _ _ _ _ _ _ _ => ⟨rfl, rfl⟩
theorem P2.isNone {d : PyData} : P2 c (compareOp .Is) d .none (.bool (isNoneD d)) := fun l A X s v1 v2 L B r1 r2 => by
 obtain ⟨h1, h2⟩ := rd_isNone r1
 rw [r2.none_inv]
 exact wpAny_is_plain h1 (by rw [h2]; exact ⟨.refl, .bool _⟩)
theorem P2.isNotNone {d : PyData} : P2 c (compareOp .IsNot) d .none (.bool (!isNoneD d)) := fun l A X s v1 v2 L B r1 r2 => by
 obtain ⟨h1, h2⟩ := rd_isNone r1
 rw [r2.none_inv]
 exact wpAny_isNot_plain h1 (by rw [h2]; exact ⟨.refl, .bool _⟩)
end
section
variable {K : Act} {A : Around} {s0 : Shared} {E : Err} {X : List Addr} {Γ Γ' : Gam} {R R' : Ros} {Δ Δ' : Del K} {ss : List Stmt} {O O' : Out K -> Prop} {s s' : Shared} {L : AObs} {F : Frag}
theorem EvS.cmp {e1 e2 : Expr} {op : CmpOp} {pos : Pos} {d1 d2 d : PyData} (h1 : EvS K A s0 E Γ R Δ e1 d1) (h2 : EvS K A s0 E Γ R Δ e2 d2) (hf : flat d1 = true) (h : P2 K.c (compareOp op) d1 d2 d) (hm : behindInMarks op e2 = false := by with_unfolding_all rfl) :
  EvS K A s0 E Γ R Δ (.Compare e1 [op] [e2] pos) d := fun s X S =>
 wpAny_Compare1 (h1.go S fun v1 s1 S1 r1 => h2.go S1 fun v2 s2 S2 r2 => h.at S2 (r1.flat hf) r2 fun v s3 S3 r => ⟨S3, r⟩) hm
theorem EtS.val {e : Expr} {d : PyData} {b : Bool} (h : EvS K A s0 E Γ R Δ e d) (t : Tru K.c d b) (he : ∀ whole, isTrue e K.env whole = (do let v <- whole; standAt e.pos; holding [v] (truthy v)) := by intro _; rfl) : EtS K A s0 E Γ R Δ e b := fun s X S =>
 wpAny_isTrue_value (h.go S fun v s1 S1 r1 => noE_any (wK (t K.l A X s1 v S1.lev S1.good.bas r1) (fun r s2 q2 => ⟨q2.1, S1.pst q2.2⟩))) (he _)
theorem EtS.cmp {e1 e2 : Expr} {op : CmpOp} {pos : Pos} {d1 d2 : PyData} {b : Bool} (h1 : EvS K A s0 E Γ R Δ e1 d1) (h2 : EvS K A s0 E Γ R Δ e2 d2) (hf : flat d1 = true) (h : P2 K.c (compareOp op) d1 d2 (.bool b)) (hm : behindInMarks op e2 = false := by with_unfolding_all rfl) :
  EtS K A s0 E Γ R Δ (.Compare e1 [op] [e2] pos) b := fun s X S =>
 wpAny_isTrue_Compare1 (h1.go S fun v1 s1 S1 r1 => h2.go S1 fun v2 s2 S2 r2 => h.at S2 (r1.flat hf) r2 fun v s3 S3 r => r.truB ⟨rfl, S3⟩) hm
theorem EtS.isNone {e1 : Expr} {k : Nat} {np pos : Pos} {d1 : PyData} (h1 : EvS K A s0 E Γ R Δ e1 d1) (hm : behindInMarks .Is (.Constant .none k np) = false := by with_unfolding_all rfl) :
  EtS K A s0 E Γ R Δ (.Compare e1 [.Is] [.Constant .none k np] pos) (isNoneD d1) := fun s X S =>
 wpAny_isTrue_Compare1 (h1.go S fun v1 s1 S1 r1 => wpAny_Constant_none (P2.isNone.at S1 r1 .none fun v s3 S3 r => r.truB ⟨rfl, S3⟩)) hm
theorem EtS.isNotNone {e1 : Expr} {k : Nat} {np pos : Pos} {d1 : PyData} (h1 : EvS K A s0 E Γ R Δ e1 d1) (hm : behindInMarks .IsNot (.Constant .none k np) = false := by with_unfolding_all rfl) :
  EtS K A s0 E Γ R Δ (.Compare e1 [.IsNot] [.Constant .none k np] pos) (!isNoneD d1) := fun s X S =>
 wpAny_isTrue_Compare1 (h1.go S fun v1 s1 S1 r1 => wpAny_Constant_none (P2.isNotNone.at S1 r1 .none fun v s3 S3 r => r.truB ⟨rfl, S3⟩)) hm
theorem EvS.or2 {x y : Expr} {pos : Pos} {a b : Bool} (h1 : EvS K A s0 E Γ R Δ x (.bool a)) (h2 : a = false -> EvS K A s0 E Γ R Δ y (.bool b)) : EvS K A s0 E Γ R Δ (.BoolOp .Or [x, y] pos) (.bool (a || b)) := fun s X S => by
 refine wpAny_Or2 (h1.go S fun v s1 S1 r1 => r1.truB ?_)
 cases a with
 | true => exact ⟨S1, r1⟩
 | false => exact h2 rfl s1 X S1
theorem EvS.call1 {f : Str} {np pos : Pos} {e : Expr} {d1 d : PyData} (h : Fn K.c K.l f [d1] d) (ha : EvS K A s0 E Γ R Δ e d1) (hf : autoParam (K.env.kindOf f = some .globalImplicit) aR)
  (hd : autoParam ((f == ("__debug__" : Str)) = false) aK) (he : autoParam (starEach [e] K.env = (false, eval e K.env) :: starEach [] K.env) aR) : EvS K A s0 E Γ R Δ (.Call (.Name f np) [e] [] pos) d := fun s X S => by
 obtain ⟨v, g, k, h⟩ := h
 refine wpAny_Call_ofName (wpAny_Name (g A _ s K.env _ S.good.bas.stays S.good.globals S.good.builtins S.good.kind hf ?_) hd)
 show wpAny K.c.M A (callWith pos v [] (backTo pos (starEach [e] K.env)) []) _ _ s
 rw [he]
 refine callWith_of (P := fun h => K.c.base.StaysIn h) rfl k (evalArgs_plain (Calls.spliced_cons (ha.go S fun u s1 S1 r1 => Calls.spliced_nil ⟨S1.good.bas.stays, ?_⟩)))
 exact noE_any (wK (h A X s1 [u] S1.lev S1.good.bas (.cons r1 .nil)) (fun w s2 r => ⟨S1.pst r.1, r.2⟩))
end
end
section
theorem meets_bool_list (a : Addr) (vs : List Value) (n : Nat) (hz : vs.length <= 2 ^ 30) : Meets (Builtin.«bool.__new__» ⟨[.type "bool", .ref a], []⟩) (fun A R s => s.heap.get? a = some (lstO vs n) /\ R (.ok (.ret (.bool (!vs.isEmpty)))) { s with toks := s.toks + 1 + 1 }) :=
 Meets.of_wp fun prog w A R s hs => by
  obtain ⟨hp, g, d, tk, os⟩ := s
  obtain ⟨hx, hs⟩ := hs
  have f1 := F.conv_sub_bool
  have ht : ∀ (A : Around) (E : Value -> Shared -> Prop) (Q : Bool -> Shared -> Prop), Q (!vs.isEmpty) ⟨hp, g, d, tk + 1 + 1, os⟩ -> wpAny (model prog w) A (truthy (.ref a)) Q E ⟨hp, g, d, tk, os⟩ := fun A E Q h => wpAny_truthy_list ⟨_, hx, rfl, _, rfl⟩ (by rw [List.size_toArray]; omega) (by rw [List.isEmpty_toArray]; exact h)
  unfold Builtin.«bool.__new__»
  repeat (any_goals (first | assumption | with_reducible apply ht | wp_step))
  all_goals exact ⟨_, rfl, hs⟩
section
variable {c : Cfg} {l : Nat}
theorem CallOk.boolL {ds : List PyData} (hz : ds.length <= 2 ^ 30) : CallOk c l (.type "bool") [.list ds] (.bool (!ds.isEmpty)) := fun A X s vs L B r => by
 have hz := r.one_inv; clear r; obtain ⟨_, r1⟩ := hz
 have hz := r1.list_inv; clear r1; obtain ⟨a, us, n, ha, e, q⟩ := hz
 have he : us.isEmpty = ds.isEmpty := by cases q <;> rfl
 refine call_bool_1 (meets_bool_list a us n (by rw [q.length]; exact hz)) ⟨e, ?_⟩
 rw [he]
 exact ⟨rfl, .tk, .bool _⟩
end
end
section
section
variable {K : Act} {A : Around} {s0 : Shared} {E : Err} {X : List Addr} {Γ Γ' : Gam} {R R' : Ros} {Δ Δ' : Del K} {ss : List Stmt} {O O' : Out K -> Prop} {s s' : Shared} {L : AObs} {F : Frag}
theorem Sat.headNe (S : Sat K X Γ R (delA K.c ((D, .data d) :: L) ++ Δ) A s0 s) : ∀ p ∈ L, p.1 ≠ D := fun p hp e => by
 have ap := (List.pairwise_cons.mp S.apart).1 (resA K.c p.1 p.2) (lL _ (lM (f := fun p => resA K.c p.1 p.2) hp)) D (.head _)
 rw [resA_fp] at ap
 exact ap (e ▸ fp_self)
theorem updA_cons {D a : Addr} {d D' : Desc} (h : D ≠ a) : updA ((D, d) :: L) a D' = (D, d) :: updA L a D' := by
 unfold updA
 rw [List.map_cons, if_neg h]
theorem Ex1.setFF {o e : Expr} {name : Str} {np pos : Pos} {a C dx : Addr} {ns : List Str} {fs : List (Str × PyData)} {gs : List (Nat × PyData)} {d : PyData} (hF : F.In K.c.base) (hv : ∀ X, EvF K.c K.l X K.env Γ e d) (ho : ∀ D, EvS K A s0 E Γ R (delA K.c ((D, .data d) :: L) ++ Δ) o (opq a)) (h : (a, .inst C dx ns fs gs) ∈ L) (hk : okA F C name = true) (hz : ns.length <= 100)
  (hs : autoParam (swapsWith e (some (.Attribute o name np)) pos.line K.env = pure false) aR) : Ex1 K A s0 E Γ R (delA K.c L ++ Δ) (.Assign [.Attribute o name np] e pos) (fun q => ∃ D, (∀ p ∈ L, p.1 ≠ D) /\ q = .next Γ R (delA K.c ((D, .data d) :: updA L a (.inst C dx (putNs name ns) (putF name [opq D] fs) gs)) ++ Δ)) := fun s X S =>
 plainObj_wpAny_Assign_Attribute (wM (hv X A s S.lev S.good) (fun v s1 q => by
  obtain ⟨p, D, hD, od⟩ := q
  have S1 : Sat K (D :: X) Γ R (delA K.c ((D, .data d) :: L) ++ Δ) A s0 s1 := S.take p hD od
  exact (ho D).ref S1 fun s2 S2 => Mine.setF hF S2 (.tail _ h) hk hz (ds := [opq D]) (fun d' hd' => lS hd' ▸ .opq D) fun s3 S3 => ⟨_, _, _, _, ⟨D, S1.headNe, rfl⟩, (updA_cons (Ne.symm (S1.headNe _ h))) ▸ S3⟩) fun _ _ f => f.elim) hs
theorem Ex1.setGF {o e : Expr} {name : Str} {np pos : Pos} {a C dx p : Addr} {i : Nat} {ns : List Str} {fs : List (Str × PyData)} {gs : List (Nat × PyData)} {d : PyData} (hF : F.In K.c.base) (hv : ∀ X, EvF K.c K.l X K.env Γ e d) (ho : ∀ D, EvS K A s0 E Γ R (delA K.c ((D, .data d) :: L) ++ Δ) o (opq a)) (h : (a, .inst C dx ns fs gs) ∈ L) (hk : okSl F C name p i = true)
  (hs : autoParam (swapsWith e (some (.Attribute o name np)) pos.line K.env = pure false) aR) : Ex1 K A s0 E Γ R (delA K.c L ++ Δ) (.Assign [.Attribute o name np] e pos) (fun q => ∃ D, (∀ p ∈ L, p.1 ≠ D) /\ q = .next Γ R (delA K.c ((D, .data d) :: updA L a (.inst C dx ns fs (putG i [opq D] gs))) ++ Δ)) := fun s X S =>
 plainObj_wpAny_Assign_Attribute (wM (hv X A s S.lev S.good) (fun v s1 q => by
  obtain ⟨pp, D, hD, od⟩ := q
  have S1 : Sat K (D :: X) Γ R (delA K.c ((D, .data d) :: L) ++ Δ) A s0 s1 := S.take pp hD od
  exact (ho D).ref S1 fun s2 S2 => Mine.setG hF S2 (.tail _ h) hk (ds := [opq D]) (fun d' hd' => lS hd' ▸ .opq D) fun s3 S3 => ⟨_, _, _, _, ⟨D, S1.headNe, rfl⟩, (updA_cons (Ne.symm (S1.headNe _ h))) ▸ S3⟩) fun _ _ f => f.elim) hs
end
end
section
section
variable {c : Cfg} {l : Nat} {F : Frag}
noncomputable def tcCode (C : Addr) (vs : List Value) : Code := .builtin "type.__call__" ⟨.ref C :: vs, []⟩
theorem under_lev {A : Around} {C : Addr} {vs : List Value} (L : Lev l A) (hl : l < 60) : Lev (l + 1) (A.under (tcCode C vs)) := by
 obtain ⟨h1, h2, h3⟩ := L
 have e1 : (tcCode C vs).weight <= 1 := Nat.le_trans (Nat.le_of_eq (show (tcCode C vs).weight = 1 by kernel_rfl)) (by omega)
 have e2 : (tcCode C vs).cUnits <= 8 := Nat.le_trans (Nat.le_of_eq (show (tcCode C vs).cUnits = 1 by kernel_rfl)) (by omega)
 refine ⟨?_, ?_, hl⟩
 ·show A.depth + (tcCode C vs).weight <= _; omega
 ·show A.units + (tcCode C vs).cUnits <= _; omega
theorem under_bas {A : Around} {C : Addr} {vs : List Value} {X : List Addr} {h : Heap} (B : Bas c A X h) : Bas c (A.under (tcCode C vs)) X h := by
 obtain ⟨o, b, f⟩ := B.below
 exact ⟨B.handled, ⟨o, ⟨b.stack, b.stays, b.frames⟩, f⟩, B.alloc, B.frs⟩
theorem makeA {C fI : Addr} {ds : List PyData} {P : Addr -> Addr -> AObs -> Prop} (hF : F.In c.base) (hl : l < 59) (hm : makesIn F C = true) (hi : findIn F (.ref C) "__init__" = some (some (.ref fI))) (hf : typeIn F (.ref fI) = some (.type "function"))
  (h : ∀ x dx, FnA c (l + 1) fI (opq x :: ds) [(x, .inst C dx [] [] [])] (fun d L' => d = .none /\ P x dx L')) : FnA c l C ds [] (fun d L' => ∃ x dx, d = opq x /\ x ∈ fpA L' /\ P x dx L') := fun A X s vs LA B r _ => by
 obtain ⟨hh, g, dr, t, os⟩ := s
 have hin : F.In hh := fun a o e => B.inBase (hF a o e)
 refine make_core (makes_of hin hm) (looks_findIn hin hi) (fun self => bind_fn hin self hf) (.inl rfl) ?_
 have q1 : HX c [] hh ((hh.push emptyDict).push (instObj C hh.objs.size)) := (HX.push _ _).trans (HX.push _ _)
 have hdx : hh.get? hh.objs.size = none := fresh_ge (Nat.le_refl _)
 have hx0 : hh.get? (hh.objs.size + 1) = none := fresh_ge (Nat.le_succ _)
 have e1 : ((hh.push emptyDict).push (instObj C hh.objs.size)).get? hh.objs.size = some emptyDict := Heap.get?_push_of_some _ (hP _ rfl)
 have e2 : ((hh.push emptyDict).push (instObj C hh.objs.size)).get? (hh.objs.size + 1) = some (instObj C hh.objs.size) := by
  have := hP (hh.push emptyDict) (o := instObj C hh.objs.size) rfl
  rwa [Heap.size_push] at this
 have hwide : ∀ a ∈ (hh.objs.size + 1) :: hh.objs.size :: X, a ∈ X \/ hh.get? a = none := fun a ha => by
  rcases lC ha with rfl | ha
  ·exact .inr hx0
  ·rcases lC ha with rfl | ha
   ·exact .inr hdx
   ·exact .inl ha
 have B1 : Bas c A ((hh.objs.size + 1) :: hh.objs.size :: X) ((hh.push emptyDict).push (instObj C hh.objs.size)) :=
  ⟨B.handled, let ⟨o, b, f⟩ := B.below; ⟨o, q1.below f b, f⟩, fun a ha => (by
   rcases lC ha with rfl | ha
   ·exact ⟨_, e2⟩
   ·rcases lC ha with rfl | ha
    ·exact ⟨_, e1⟩
    ·exact q1.alive (fun z => nomatch z) (B.alloc a ha)), fun a ha => .tail _ (.tail _ (B.frs a ha))⟩
 have hbn : ∀ a, hh.get? a = none -> c.base.get? a = none /\ a ∉ c.fr := fun a e => by
  refine ⟨?_, fun z => ?_⟩
  ·cases e' : c.base.get? a with
   | none => rfl
   | some o => rw [B.inBase e'] at e; cases e
  ·obtain ⟨o, e'⟩ := B.alloc a (B.frs a z)
   rw [e] at e'; cases e'
 refine codeAny_mono (h (hh.objs.size + 1) hh.objs.size (A.under (tcCode C vs)) ((hh.objs.size + 1) :: hh.objs.size :: X) ⟨(hh.push emptyDict).push (instObj C hh.objs.size), g, dr, t, os⟩ (.ref (hh.objs.size + 1) :: vs) (under_lev LA (by omega)) (under_bas B1) (.cons (.opq _) ((r.wide hwide).hx0 q1 fun a ha => .tail _ (.tail _ (B.frs a ha))))
  ⟨fun r hr => ?_, fun a ha => ?_, List.pairwise_singleton ..⟩) fun r s' hr => ?_
 ·rw [lS hr]
  exact ⟨#[], [], 0, e2, e1, .nil, (fun _ z => nomatch z), (fun _ z => nomatch z)⟩
 ·have ha' : a ∈ [hh.objs.size + 1, hh.objs.size] := ha
  rcases lC ha' with rfl | ha'
  ·exact ⟨.head _, hbn _ hx0⟩
  ·rw [lS ha']
   exact ⟨.tail _ (.head _), hbn _ hdx⟩
 ·rcases r with e | f
  ·exact hr.elim
  ·cases f with
   | ret v =>
    obtain ⟨h', tk, d, L', rfl, ⟨rfl, hP⟩, q, hat, hnew, hall, hap, hv⟩ := hr
    rw [hv.none_inv]
    have hnew' : ∀ a ∈ fpA L', hh.get? a = none := fun a ha => by
     rcases hnew a ha with z | z
     ·have z' : a ∈ [hh.objs.size + 1, hh.objs.size] := z
      rcases lC z' with rfl | z'
      ·exact hx0
      ·rw [lS z']; exact hdx
     ·exact q1.none_of (fun z => nomatch z) z
    have hXw : ∀ a ∈ fpA L' ++ X, a ∈ fpA L' ++ (hh.objs.size + 1) :: hh.objs.size :: X := fun a ha => (lA ha).elim (lL _) fun z => lR _ (.tail _ (.tail _ z))
    refine ⟨rfl, h', tk, opq (hh.objs.size + 1), L', rfl, ⟨_, _, rfl, ?_, hP⟩, ?_, (fun r hr => r.wide _ _ _ (hat r hr) fun a ha => .inl (hXw a ha)), (fun a ha => .inr (hnew' a ha)), (fun a ha => nomatch ha), hap, .opq _⟩
    ·exact hall _ (.head _)
    ·exact q1.young q fun a ha => (by
      have z' : a ∈ [hh.objs.size + 1, hh.objs.size] := ha
      rcases lC z' with rfl | z'
      ·exact hx0
      ·rw [lS z']; exact hdx)
   | _ => exact hr.elim
end
end
section
section
variable {K : Act} {A : Around} {s0 : Shared} {E : Err} {X : List Addr} {Γ Γ' : Gam} {R R' : Ros} {Δ Δ' : Del K} {ss : List Stmt} {O O' : Out K -> Prop} {s s' : Shared} {L : AObs} {F : Frag}
theorem keep_K {c : Cfg} {v : Value} (hF : F.In c.base) (hk : keepIn F v = true) : Keep0 c v := fun h st => keeps_K hk h fun a o e => st a o (hF a o e)
theorem EvX.cls {f : Str} {np pos : Pos} {args : List Expr} {ds : List PyData} {C : Addr} {P : PyData -> AObs -> Prop} (hg : Glb K.c f (.ref C)) (hk : Keep0 K.c (.ref C)) (hm : FnA K.c K.l C ds [] P) (ha : EvAS K A s0 E Γ R (delA K.c L ++ Δ) (.ref C) pos args ds) (hf : autoParam (K.env.kindOf f = some .globalImplicit) aR)
  (hd : autoParam ((f == ("__debug__" : Str)) = false) aK)
  (hplain : autoParam (((backTo pos (starEach args K.env)).any (·.1) || ([] : List (Option Str × Sem Value)).any (·.1.isNone)) = false) aR) : EvX K A s0 E Γ R L Δ (.Call (.Name f np) args [] pos) (fun d L' => ∃ L1, P d L1 /\ L' = L1 ++ L) := fun s X S => by
 refine wpAny_Call_ofName (wpAny_Name (hg A _ s K.env _ S.good.bas.stays S.good.globals S.good.builtins S.good.kind hf ?_) hd)
 show wpAny K.c.M A (callWith pos (.ref C) [] (backTo pos (starEach args K.env)) []) _ _ s
 refine callWith_of (P := fun h => K.c.base.StaysIn h) hplain hk (ha _ _ _ S fun vs s2 X2 hX S2 r2 => ⟨S2.good.bas.stays, ?_⟩)
 have S3 : Sat K X2 Γ R (delA K.c [] ++ (delA K.c L ++ Δ)) A s0 s2 := S2
 refine noE_any (wK (call_retR (hm A X2 s2 vs S2.lev S2.good.bas r2 S3.lentA)) (fun v s3 hb => ?_))
 obtain ⟨L', d, X', hP, S4, rv⟩ := S3.backA hb
 exact ⟨X', d, L' ++ L, ⟨L', hP, rfl⟩, by rw [delA_append, List.append_assoc]; exact S4, rv⟩
end
end
section
noncomputable abbrev dD {K : Type} (enc : K -> PyData) (kvs : List (K × PyData)) : PyData := .dict (kvs.map fun p => (enc p.1, p.2))
theorem dD_eq {K : Type} (enc : K -> PyData) (kvs : List (K × PyData)) : dD enc kvs = .dict (((kvs.map (·.1)).map enc).zip (kvs.map (·.2))) := by
 unfold dD
 congr 1
 induction kvs with
 | nil => rfl
 | cons p r ih => simp [ih]
section
variable {c : Cfg} {K : Type} [DecidableEq K] {X : List Addr} {h : Heap} {D : Addr}
theorem Own1.toDict (dk : DKey c.w K) {ks : List K} {ds : List PyData} (hl : ks.length = ds.length) (o : Own1 c X h D (.dict ((ks.map dk.enc).zip ds))) : ∃ vs, h.DictOf (dk.knd c.prog) D (ks.zip vs) /\ RdL c.w X h vs ds /\ vs.length = ks.length := by
 have hl' : (ks.map dk.enc).length = ds.length := by simpa using hl
 have hk1 : ((ks.map dk.enc).zip ds).map (·.1) = ks.map dk.enc := List.map_fst_zip (Nat.le_of_eq hl')
 have hk2 : ((ks.map dk.enc).zip ds).map (·.2) = ds := List.map_snd_zip (Nat.le_of_eq hl'.symm)
 obtain ⟨es, n, e, k, nd, r⟩ := o
 rw [hk1] at k nd
 rw [hk2] at r
 obtain ⟨h1, h2⟩ := keys_of dk k
 have hlen : (es.map (·.val)).length = ks.length := by rw [r.length, hl]
 refine ⟨es.map (·.val), ⟨_, es.toArray, n, e, ⟨rfl, rfl, rfl⟩, rfl, fun e he => h1 e (by simpa using he), by simpa using h2, ?_⟩, r, hlen⟩
 rw [List.map_fst_zip (Nat.le_of_eq hlen.symm)]
 exact nodup_of_map nd
noncomputable def kget {K α : Type} [DecidableEq K] (kvs : List (K × α)) (k : K) : Option α := (kvs.find? fun p => p.1 = k).map (·.2)
inductive GetRd (w : World) (X : List Addr) (h : Heap) : Option PyData -> Option Value -> Prop
 | none : GetRd w X h none none
 | got {d v} (r : Rd w X h v d) : GetRd w X h (some d) (some v)
theorem GetRd.two {w : World} {X : List Addr} {h : Heap} {a : Option PyData} {b : Option Value} (g : GetRd w X h a b) : b.isSome = a.isSome /\ Rd w X h (b.getD .none) (a.getD .none) /\ ∀ d, a = some d -> ∃ v, b = some v /\ Rd w X h v d := by
 cases g with
 | none => exact ⟨rfl, .none, fun _ e => nomatch e⟩
 | got r => exact ⟨rfl, r, fun _ e => ⟨_, rfl, Option.some.inj e ▸ r⟩⟩
theorem kget_rd {w : World} {k : K} {kvs : List (K × PyData)} : ∀ {vs : List Value}, RdL w X h vs (kvs.map (·.2)) -> GetRd w X h (kget kvs k) (valueAt ((kvs.map (·.1)).zip vs) k) := by
 induction kvs with
 | nil => intro vs r; rw [r.nil_inv]; exact .none
 | cons p kvs ih =>
  intro vs r
  obtain ⟨v, vs, a, q⟩ := r.cons_inv
  have ih := ih q
  unfold kget valueAt at ih ⊢
  by_cases z : p.1 = k
  ·simp [z]; exact .got a
  ·simpa [z] using ih
theorem Own1.toD (dk : DKey c.w K) {kvs : List (K × PyData)} (o : Own1 c X h D (dD dk.enc kvs)) : ∃ vs, h.DictOf (dk.knd c.prog) D ((kvs.map (·.1)).zip vs) /\ RdL c.w X h vs (kvs.map (·.2)) /\ vs.length = (kvs.map (·.1)).length := by
 rw [dD_eq] at o
 exact Own1.toDict dk (by simp) o
theorem Own1.ofD (dk : DKey c.w K) {kvs : List (K × PyData)} {vs : List Value} (hd : h.DictOf (dk.knd c.prog) D ((kvs.map (·.1)).zip vs)) (r : RdL c.w X h vs (kvs.map (·.2))) : Own1 c X h D (dD dk.enc kvs) := by
 have hl : (kvs.map (·.1)).length = vs.length := by rw [r.length]; simp
 have := Own1.ofDict (ds := kvs.map (·.2)) dk hd (by rw [List.map_snd_zip (Nat.le_of_eq hl.symm)]; exact r)
 rw [List.map_fst_zip (Nat.le_of_eq hl)] at this
 rw [dD_eq]; exact this
end
end
section
section
variable {K : Act} {A : Around} {s0 : Shared} {E : Err} {X : List Addr} {Γ Γ' : Gam} {R R' : Ros} {Δ Δ' : Del K} {ss : List Stmt} {O O' : Out K -> Prop} {s s' : Shared} {L : AObs} {F : Frag} {κ : Type} [DecidableEq κ]
theorem Sat.dct (dk : DKey K.c.w κ) (S : Sat K X Γ R (delA K.c L ++ Δ) A s0 s) {D : Addr} {kvs : List (κ × PyData)} (h : (D, .data (dD dk.enc kvs)) ∈ L) : ∃ vs, s.heap.DictOf (dk.knd K.c.prog) D ((kvs.map (·.1)).zip vs) /\ RdL K.c.w X s.heap vs (kvs.map (·.2)) /\ vs.length = (kvs.map (·.1)).length :=
 Own1.toD dk (S.res _ (lL _ (lM (f := fun p => resA K.c p.1 p.2) h)))
theorem Sat.offSys (S : Sat K X Γ R (delA K.c L ++ Δ) A s0 s) (hsys : sysModules ∈ K.c.fr) {D : Addr} {De : Desc} (h : (D, De) ∈ L) : (D == sysModules) = false := by
 have := S.fps _ (lL _ (lM (f := fun p => resA K.c p.1 p.2) h)) D (by rw [resA_fp]; exact fp_self)
 cases z : D == sysModules with
 | false => rfl
 | true => exact absurd ((eq_of_beq z) ▸ hsys) this.2.2.2
theorem EvS.dget (dk : DKey K.c.w κ) {o e : Expr} {apos pos : Pos} {D : Addr} {kvs : List (κ × PyData)} {k : κ} (hsys : sysModules ∈ K.c.fr) (ho : EvS K A s0 E Γ R (delA K.c L ++ Δ) o (opq D)) (he : EvS K A s0 E Γ R (delA K.c L ++ Δ) e (dk.enc k)) (hD : (D, .data (dD dk.enc kvs)) ∈ L)
  (hbase : autoParam (attributeBase o "get" K.env (eval o K.env) = eval o K.env) aR) (hline : autoParam ((apos.endLine == pos.line) = true) aR) (hs : autoParam (starEach [e] K.env = [(false, eval e K.env)]) aR) :
  EvS K A s0 E Γ R (delA K.c L ++ Δ) (.Call (.Attribute o "get" apos) [e] [] pos) ((kget kvs k).getD .none) := fun s X S => by
 refine mcall1 PySem.F.plainAttrs_dict PySem.F.slot_dict_get PySem.F.type_dict_get (ho.ref S fun s1 S1 => ?_) hbase hline hs
 obtain ⟨vs0, d0, _⟩ := S1.dct dk hD
 refine ⟨d0.typeIs, fun a ha => by cases ha; exact d0.mapOf.noDict _ rfl, he.go S1 fun v s2 S2 r2 => ?_⟩
 obtain ⟨vs, d, r, _⟩ := S2.dct dk hD
 have g := kget_rd (k := k) r
 refine call_meetsIn PySem.F.slot_dict_get d.typeIs PySem.F.entry_dict_get (PySem.F.args_dict_get_2 _ _) (meets_dict_get (dk.knd K.c.prog) D (dk.dr K.c.prog k _ _ _ r2) (S2.offSys hsys hD)) ⟨_, d.mapOf, ?_⟩
 refine ⟨S2.pst .tk, ?_⟩
 exact g.two.2.1
end
end
section
section
variable {K : Act} {A : Around} {s0 : Shared} {E : Err} {X : List Addr} {Γ Γ' : Gam} {R R' : Ros} {Δ Δ' : Del K} {ss : List Stmt} {O O' : Out K -> Prop} {s s' : Shared} {L : AObs} {F : Frag} {κ : Type} [DecidableEq κ]
theorem dset_ok (dk : DKey K.c.w κ) {D : Addr} {kvs : List (κ × PyData)} {k : κ} {d : PyData} {kv v : Value} {Q : Unit -> Shared -> Prop} (S : Sat K X Γ R (delA K.c L ++ Δ) A s0 s) (hD : (D, .data (dD dk.enc kvs)) ∈ L) (rk : Rd K.c.w X s.heap kv (dk.enc k)) (rv : Rd K.c.w X s.heap v d) (hz : kvs.length <= 10 ^ 6) (hn : k ∉ kvs.map (·.1))
  (h : ∀ s', Sat K X Γ R (delA K.c (updA L D (.data (dD dk.enc (kvs ++ [(k, d)])))) ++ Δ) A s0 s' -> Q () s') : wpAny K.c.M A (setItem (.ref D) kv v) Q E s := by
 obtain ⟨vs, dd, r, hl⟩ := S.dct dk hD
 have fq := S.fps _ (lL _ (lM (f := fun p => resA K.c p.1 p.2) hD)) D (.head _)
 have hfst : ((kvs.map (·.1)).zip vs).map (·.1) = kvs.map (·.1) := List.map_fst_zip (Nat.le_of_eq hl.symm)
 refine wpAny_setItem_pairs (hsz := by rw [List.length_zip, hl, sizeLine_eq]; simp; omega) (dk.dr K.c.prog k _ _ _ rk) dd fun h' d' hs' => h _ ?_
 rw [stored_new (by rw [hfst]; exact hn)] at d'
 have q : HX K.c [D] s.heap h' := .sameBut hs' (S.base D fq.2.1) fq.2.2.2
 have hY : ∀ y ∈ [D], y ∈ X := fun y hy => lS hy ▸ fq.1
 refine S.updA hD (Y := [D]) rfl (fun y hy => lS hy ▸ .head _) q (Own1.ofD dk (vs := vs ++ [v]) ?_ ?_)
 ·rw [List.map_append, List.zip_append hl.symm]
  exact d'
 ·rw [List.map_append]
  exact (r.hx q S.good.bas.frs hY).append (.cons (rv.hx q S.good.bas.frs hY) .nil)
end
end
section
section
variable {K : Act} {A : Around} {s0 : Shared} {E : Err} {X : List Addr} {Γ Γ' : Gam} {R R' : Ros} {Δ Δ' : Del K} {ss : List Stmt} {O O' : Out K -> Prop} {s s' : Shared} {L : AObs} {F : Frag} {κ : Type} [DecidableEq κ]
theorem Sat.asg {x : Str} {px : Pos} {d : PyData} {v : Value} {Q : Unit -> Shared -> Prop} (S : Sat K X Γ R Δ A s0 s) (hx : x ∈ K.xs) (hR : ∀ p ∈ R, p.1 ≠ x) (r : Rd K.c.w X s.heap v d)
  (k : ∀ s', Sat K X ((x, d) :: Γ.filter fun p => p.1 != x) R Δ A s0 s' -> Q () s') : wpAny K.c.M A (PySem.assign (Expr.Name x px) K.env v) Q E s :=
 wpAny_assign_Name (S.assign hx hR r k)
theorem Ex1.iteW {x : Str} {px npos cpos pos np : Pos} {k : Nat} {e : Expr} {d : PyData} {body orelse : List Stmt} (h : EvS K A s0 E Γ R Δ e d) (hf : flat d = true) (hx : x ∈ K.xs) (hR : ∀ p ∈ R, p.1 ≠ x)
  (h1 : isNoneD d = true -> Ex K A s0 E ((x, d) :: Γ.filter fun p => p.1 != x) R Δ body O) (h2 : isNoneD d = false -> Ex K A s0 E ((x, d) :: Γ.filter fun p => p.1 != x) R Δ orelse O)
  (hm : behindInMarks .Is (.Constant .none k np) = false := by with_unfolding_all rfl) :
  Ex1 K A s0 E Γ R Δ (.If (.Compare (.NamedExpr (.Name x px) e npos) [.Is] [.Constant .none k np] cpos) body orelse pos) O := fun s X S => by
 refine wpAny_If (wpAny_isTrue_Compare1 (wpAny_NamedExpr (wK (h s X S) (fun v s1 q => q.1.asg hx hR q.2 fun s2 S2 => wpAny_Constant_none ?_))) hm)
 obtain ⟨i1, i2⟩ := rd_isNone q.2
 refine wpAny_is_plain i1 (wpAny_truthy_bool ?_)
 rw [i2]
 cases z : isNoneD d with
 | true => exact h1 z s2 X S2
 | false => exact h2 z s2 X S2
theorem Ex1.assignDX (dk : DKey K.c.w κ) {x : Str} {o i e : Expr} {px tpos pos : Pos} {D : Addr} {k : κ} {P : PyData -> AObs -> Prop} (he : EvX K A s0 E Γ R L Δ e P) (hx : x ∈ K.xs) (hR : ∀ p ∈ R, p.1 ≠ x)
  (ho : ∀ d L', P d L' -> EvS K A s0 E Γ R (delA K.c L' ++ Δ) o (opq D)) (hi : ∀ d L', P d L' -> EvS K A s0 E Γ R (delA K.c L' ++ Δ) i (dk.enc k))
  (hD : ∀ d L', P d L' -> flat d = true /\ ∃ kvs : List (κ × PyData), (D, .data (dD dk.enc kvs)) ∈ L' /\ kvs.length <= 10 ^ 6 /\ k ∉ kvs.map (·.1))
  (he2 : autoParam ((assignEach [Expr.Subscript o i tpos, Expr.Name x px] K.env).map (·.2) = [PySem.assign (Expr.Subscript o i tpos) K.env, PySem.assign (Expr.Name x px) K.env]) aR)
  (hw : autoParam (swappedStores [Expr.Subscript o i tpos, Expr.Name x px] e K.env = pure none) aR) :
  Ex1 K A s0 E Γ R (delA K.c L ++ Δ) (.Assign [Expr.Subscript o i tpos, Expr.Name x px] e pos) (fun q => ∃ d L' kvs, P d L' /\ (D, .data (dD dk.enc kvs)) ∈ L' /\ q = .next ((x, d) :: Γ.filter fun p => p.1 != x) R (delA K.c (updA L' D (.data (dD dk.enc (kvs ++ [(k, d)])))) ++ Δ)) := fun s X S => by
 refine wpAny_Assign_two (wK (he s X S) (fun v s1 q => ?_)) he2 hw
 obtain ⟨X1, d, L', hP, S1, r1⟩ := q
 obtain ⟨hfl, kvs, hm, hz, hn⟩ := hD d L' hP
 rw [arm_assign_Subscript]
 refine wB (wpAny_holding ((ho d L' hP).ref S1 fun s2 S2 => ?_))
 refine wB (wpAny_holding ((hi d L' hP).go S2 fun iv s3 S3 r3 => ?_))
 refine wB (wpAny_standAt ?_)
 refine wB (wpAny_holding (dset_ok dk S3 hm r3 (r1.flat hfl) hz hn fun s4 S4 => ?_))
 refine wpAny_release (S4.asg hx hR (r1.flat hfl) fun s5 S5 => ⟨X1, _, _, _, ⟨d, L', kvs, hP, hm, rfl⟩, S5⟩)
theorem Sat.nodupA (S : Sat K X Γ R (delA K.c L ++ Δ) A s0 s) : (L.map (·.1)).Nodup := by
 have ap := (List.pairwise_append.mp S.apart).1
 unfold delA at ap
 rw [List.pairwise_map] at ap
 unfold List.Nodup
 rw [List.pairwise_map]
 refine ap.imp fun {p q} h e => ?_
 have := h p.1
 rw [resA_fp, resA_fp] at this
 exact this fp_self (e ▸ fp_self)
end
end
section
structure Nd (κ : Type) where
 k : κ
 x : Addr
 dx : Addr
 li : Addr
 np : Int
 su : List κ
structure St (κ : Type) where
 rn : Option (Addr × List κ)
 po : Int
 nf : Int
 nds : List (Nd κ)
structure SA where
 T : Addr
 N : Addr
 S : Addr
 Sx : Addr
 N2 : Addr
noncomputable def sN : List Str := ["_node2info", "_ready_nodes", "_npassedout", "_nfinished"]
section
variable {κ : Type} [DecidableEq κ]
noncomputable def rnD : Option (Addr × List κ) -> PyData
 | none => .none
 | some p => opq p.1
noncomputable def rnA : Option (Addr × List κ) -> List Addr
 | none => []
 | some p => [p.1]
noncomputable def St.adr (a : SA) (st : St κ) : List Addr := a.S :: a.N2 :: (rnA st.rn ++ (st.nds.map (·.x) ++ st.nds.map (·.li)))
noncomputable def St.keys (st : St κ) : List κ := st.nds.map (·.k)
inductive NdI (a : SA) (enc : κ -> PyData) (n : Nd κ) (L : AObs) : Prop
 | mk (gs : List (Nat × PyData)) (e : (n.x, .inst a.N n.dx [] [] gs) ∈ L) (q2 : ((0, enc n.k) : Nat × PyData) ∈ gs) (q3 : ((1, .int n.np) : Nat × PyData) ∈ gs) (q4 : ((2, opq n.li) : Nat × PyData) ∈ gs)
structure NdAt (a : SA) (enc : κ -> PyData) (n : Nd κ) (L : AObs) : Prop where
 at_ : NdI a enc n L
 lst : (n.li, .data (.list (n.su.map enc))) ∈ L
inductive SelfI (a : SA) (st : St κ) (L : AObs) : Prop
 | mk (fs : List (Str × PyData)) (s1 : (a.S, .inst a.T a.Sx sN fs []) ∈ L) (s2 : (("_node2info", opq a.N2) : Str × PyData) ∈ fs) (s3 : (("_ready_nodes", rnD st.rn) : Str × PyData) ∈ fs) (s4 : (("_npassedout", .int st.po) : Str × PyData) ∈ fs) (s5 : (("_nfinished", .int st.nf) : Str × PyData) ∈ fs)
structure Srt (a : SA) (enc : κ -> PyData) (st : St κ) (L : AObs) : Prop where
 self : SelfI a st L
 map : (a.N2, .data (dD enc (st.nds.map fun n => (n.k, opq n.x)))) ∈ L
 rdy : ∀ p, st.rn = some p -> (p.1, .data (.list (p.2.map enc))) ∈ L
 nd : ∀ n ∈ st.nds, NdAt a enc n L
 nk : st.keys.Nodup
 adr : (st.adr a).Nodup
 nda : (L.map (·.1)).Nodup
noncomputable def ExtA (L L' : AObs) : Prop := ∀ a ∈ fpA L, a ∈ fpA L'
theorem ExtA.refl {L : AObs} : ExtA L L := fun _ h => h
theorem ExtA.trans {L M N : AObs} (h : ExtA L M) (g : ExtA M N) : ExtA L N := fun a z => g a (h a z)
theorem injM {α β : Type} {f : α -> β} {l : List α} :  (l.map f).Nodup -> ∀ a ∈ l, ∀ b ∈ l, f a = f b -> a = b := by
 induction l with
 | nil =>
  intro _ _ h _ _ _
  exact nomatch h
 | cons c l ih =>
  intro hn a ha b hb e
  rw [List.map_cons, List.nodup_cons] at hn
  rcases lC ha with rfl | ha2 <;> rcases lC hb with rfl | hb2
  ·rfl
  ·exact absurd (List.mem_map.mpr ⟨b, hb2, e.symm⟩) hn.1
  ·exact absurd (List.mem_map.mpr ⟨a, ha2, e⟩) hn.1
  ·exact ih hn.2 a ha2 b hb2 e
theorem fun_of {L : AObs} (hn : (L.map (·.1)).Nodup) {a : Addr} {D D' : Desc} (h : (a, D) ∈ L) (h' : (a, D') ∈ L) : D = D' := by
 have := injM hn _ h _ h' rfl
 exact (Prod.mk.inj this).2
theorem map_updA {L : AObs} {a : Addr} {D : Desc} : (updA L a D).map (·.1) = L.map (·.1) := by
 unfold updA
 rw [List.map_map]
 refine List.map_congr_left fun p hp => ?_
 simp only [Function.comp]
 split <;> simp_all
theorem ext_upd {L : AObs} {a : Addr} {D D' : Desc} (hn : (L.map (·.1)).Nodup) (h : (a, D) ∈ L) (hf : ∀ b ∈ D.fp a, b ∈ D'.fp a) : ExtA L (updA L a D') := fun b hb => by
 unfold fpA at hb ⊢
 obtain ⟨p, hp, hb⟩ := List.mem_flatMap.mp hb
 refine List.mem_flatMap.mpr ⟨if p.1 = a then (a, D') else p, List.mem_map.mpr ⟨p, hp, rfl⟩, ?_⟩
 split
 ·rename_i e
  obtain ⟨p1, p2⟩ := p
  have e' : p1 = a := e
  subst e'
  rw [fun_of hn hp h] at hb
  exact hf b hb
 ·exact hb
theorem ext_app {L M : AObs} : ExtA L (M ++ L) := fun b hb => by
 unfold fpA at hb ⊢
 rw [List.flatMap_append]
 exact lR _ hb
inductive NeI (a : SA) (st : St κ) : Prop
 | mk (n1 : a.S ≠ a.N2) (n2 : (∀ p, st.rn = some p -> a.S ≠ p.1 /\ a.N2 ≠ p.1 /\ ∀ n ∈ st.nds, p.1 ≠ n.x /\ p.1 ≠ n.li)) (n3 : (∀ n ∈ st.nds, a.S ≠ n.x /\ a.S ≠ n.li /\ a.N2 ≠ n.x /\ a.N2 ≠ n.li)) (n4 : (∀ n ∈ st.nds, ∀ m ∈ st.nds, n.x ≠ m.li)) (n5 : (∀ n ∈ st.nds, ∀ m ∈ st.nds, n.x = m.x -> n = m)) (n6 : (∀ n ∈ st.nds, ∀ m ∈ st.nds, n.li = m.li -> n = m))
namespace Srt
variable {a : SA} {enc : κ -> PyData} {st : St κ} {L : AObs}
theorem ne (h : Srt a enc st L) : NeI a st := by
 have q := h.adr
 unfold St.adr at q
 rw [List.nodup_cons, List.nodup_cons, List.nodup_append, List.nodup_append] at q
 obtain ⟨q1, q2, q3, ⟨q4, q5, q6⟩, q7⟩ := q
 simp only [List.mem_cons, List.mem_append, not_or] at q1 q2
 refine ⟨q1.1, fun p hp => ?_, fun n hn => ?_, fun n hn m hm => ?_, injM q4, injM q5⟩
 ·have hr : p.1 ∈ rnA st.rn := by rw [hp]; exact .head _
  refine ⟨fun e => q1.2.1 (e ▸ hr), fun e => q2.1 (e ▸ hr), fun n hn => ⟨q7 _ hr _ (lL _ (lM (f := (·.x)) hn)), q7 _ hr _ (lR _ (lM (f := (·.li)) hn))⟩⟩
 ·have h1 := lM (f := (·.x)) hn
  have h2 := lM (f := (·.li)) hn
  exact ⟨fun e => q1.2.2.1 (e ▸ h1), fun e => q1.2.2.2 (e ▸ h2), fun e => q2.2.1 (e ▸ h1), fun e => q2.2.2 (e ▸ h2)⟩
 ·exact q6 _ (lM (f := (·.x)) hn) _ (lM (f := (·.li)) hm)
theorem ndUpd {n : Nd κ} {b : Addr} {D : Desc} (h : NdAt a enc n L) (h1 : n.x ≠ b) (h2 : n.li ≠ b) : NdAt a enc n (updA L b D) := by
 obtain ⟨⟨gs, e1, e2, e4, e5⟩, e3⟩ := h
 exact ⟨⟨gs, updA_other e1 h1, e2, e4, e5⟩, updA_other e3 h2⟩
theorem setS (h : Srt a enc st L) {fs' : List (Str × PyData)} {po nf : Int} (h1 : (("_node2info", opq a.N2) : Str × PyData) ∈ fs') (h2 : (("_ready_nodes", rnD st.rn) : Str × PyData) ∈ fs') (h3 : (("_npassedout", .int po) : Str × PyData) ∈ fs') (h4 : (("_nfinished", .int nf) : Str × PyData) ∈ fs') :
  Srt a enc { st with po := po, nf := nf } (updA L a.S (.inst a.T a.Sx sN fs' [])) /\ ExtA L (updA L a.S (.inst a.T a.Sx sN fs' [])) := by
 obtain ⟨n1, n2, n3, n4, n5, n6⟩ := h.ne
 obtain ⟨fs, s1, _, _, _, _⟩ := h.self
 refine ⟨⟨⟨fs', updA_mem s1, h1, h2, h3, h4⟩, updA_other h.map n1.symm, fun p hp => updA_other (h.rdy p hp) (n2 p hp).1.symm, fun n hn => ndUpd (h.nd n hn) (n3 n hn).1.symm (n3 n hn).2.1.symm, h.nk, h.adr, by rw [map_updA]; exact h.nda⟩, ext_upd h.nda s1 fun _ z => z⟩
theorem setR (h : Srt a enc st L) {r : Addr} {ks ks' : List κ} (hr : st.rn = some (r, ks)) :
  Srt a enc { st with rn := some (r, ks') } (updA L r (.data (.list (ks'.map enc)))) /\ ExtA L (updA L r (.data (.list (ks'.map enc)))) := by
 obtain ⟨n1, n2, n3, n4, n5, n6⟩ := h.ne
 obtain ⟨fs, s1, s2, s3, s4, s5⟩ := h.self
 obtain ⟨r1, r2, r3⟩ := n2 _ hr
 refine ⟨⟨⟨fs, updA_other s1 r1, s2, by rw [hr] at s3; exact s3, s4, s5⟩, updA_other h.map r2, fun p hp => by cases hp; exact updA_mem (h.rdy _ hr), fun n hn => ndUpd (h.nd n hn) (r3 n hn).1.symm (r3 n hn).2.symm, h.nk, by
  have := h.adr
  unfold St.adr at this ⊢
  rw [hr] at this; exact this, by rw [map_updA]; exact h.nda⟩, ext_upd h.nda (h.rdy _ hr) fun _ z => z⟩
theorem setP (h : Srt a enc st L) {r : Addr} {ks : List κ} {fs' : List (Str × PyData)} (hn : st.rn = none) (hr : r ∉ L.map (·.1)) (h1 : (("_node2info", opq a.N2) : Str × PyData) ∈ fs') (h2 : (("_ready_nodes", opq r) : Str × PyData) ∈ fs') (h3 : (("_npassedout", .int st.po) : Str × PyData) ∈ fs') (h4 : (("_nfinished", .int st.nf) : Str × PyData) ∈ fs') :
  Srt a enc { st with rn := some (r, ks) } ((r, .data (.list (ks.map enc))) :: updA L a.S (.inst a.T a.Sx sN fs' [])) /\ ExtA L ((r, .data (.list (ks.map enc))) :: updA L a.S (.inst a.T a.Sx sN fs' [])) := by
 obtain ⟨n1, n2, n3, n4, n5, n6⟩ := h.ne
 obtain ⟨fs, s1, s2, s3, s4, s5⟩ := h.self
 refine ⟨⟨⟨fs', .tail _ (updA_mem s1), h1, h2, h3, h4⟩, .tail _ (updA_other h.map n1.symm), fun p hp => by cases hp; exact .head _, fun n hn => ?_, h.nk, ?_, ?_⟩, (ext_upd (D' := .inst a.T a.Sx sN fs' []) h.nda s1 fun _ z => z).trans (ext_app (M := [_]))⟩
 ·obtain ⟨⟨gs, e1, e2, e4, e5⟩, e3⟩ := ndUpd (D := .inst a.T a.Sx sN fs' []) (h.nd n hn) (n3 n hn).1.symm (n3 n hn).2.1.symm
  exact ⟨⟨gs, .tail _ e1, e2, e4, e5⟩, .tail _ e3⟩
 ·have q := h.adr
  unfold St.adr at q ⊢
  rw [hn] at q
  rw [List.nodup_cons, List.nodup_cons] at q ⊢
  have hS : a.S ≠ r := fun e => hr (e ▸ lM (f := (·.1)) s1)
  have hN : a.N2 ≠ r := fun e => hr (e ▸ lM (f := (·.1)) h.map)
  have hx : r ∉ st.nds.map (·.x) ++ st.nds.map (·.li) := fun z => by
   rcases lA z with z | z
   ·obtain ⟨n, hn⟩ := mem_mapI z
    obtain ⟨gs, e1, _, _, _⟩ := (h.nd n hn).at_
    exact hr (lM (f := (·.1)) e1)
   ·obtain ⟨n, hn⟩ := mem_mapI z
    exact hr (lM (f := (·.1)) (h.nd n hn).lst)
  simp only [rnA, List.nil_append, List.cons_append, List.nodup_cons, List.mem_cons, not_or] at q ⊢
  exact ⟨⟨q.1.1, hS, q.1.2⟩, ⟨hN, q.2.1⟩, hx, q.2.2⟩
 ·rw [List.map_cons, List.nodup_cons, map_updA]
  exact ⟨hr, h.nda⟩
noncomputable def upK (st : St κ) (k : κ) (g : Nd κ -> Nd κ) : St κ := { st with nds := st.nds.map fun n => if n.k = k then g n else n }
theorem upK_keys {k : κ} {g : Nd κ -> Nd κ} (hg : ∀ n, (g n).k = n.k) : (upK st k g).keys = st.keys := by
 unfold upK St.keys
 simp only [List.map_map]
 refine List.map_congr_left fun n _ => ?_
 simp only [Function.comp]
 split
 ·exact hg n
 ·rfl
theorem upK_map {k : κ} {g : Nd κ -> Nd κ} {β : Type} (f : Nd κ -> β) (hg : ∀ n, f (g n) = f n) : (upK st k g).nds.map f = st.nds.map f := by
 unfold upK
 simp only [List.map_map]
 refine List.map_congr_left fun n _ => ?_
 simp only [Function.comp]
 split
 ·exact hg n
 ·rfl
theorem setNp (h : Srt a enc st L) {n : Nd κ} {gs : List (Nat × PyData)} {v : Int} (hn : n ∈ st.nds) (h0 : ((0, enc n.k) : Nat × PyData) ∈ gs) (h1 : ((1, .int v) : Nat × PyData) ∈ gs) (h2 : ((2, opq n.li) : Nat × PyData) ∈ gs) :
  Srt a enc (upK st n.k fun m => { m with np := v }) (updA L n.x (.inst a.N n.dx [] [] gs)) /\ ExtA L (updA L n.x (.inst a.N n.dx [] [] gs)) := by
 obtain ⟨n1, n2, n3, n4, n5, n6⟩ := h.ne
 obtain ⟨fs, s1, s2, s3, s4, s5⟩ := h.self
 obtain ⟨⟨gs0, e1, _, _, _⟩, e3⟩ := h.nd n hn
 refine ⟨⟨⟨fs, updA_other s1 (n3 n hn).1, s2, s3, s4, s5⟩, ?_, fun p hp => updA_other (h.rdy p hp) ((n2 p hp).2.2 n hn).1, fun m hm => ?_, ?_, ?_, by rw [map_updA]; exact h.nda⟩, ext_upd h.nda e1 fun _ z => z⟩
 ·have := upK_map (st := st) (k := n.k) (g := fun m => { m with np := v }) (fun n => (n.k, opq n.x)) fun _ => rfl
  rw [this]
  exact updA_other h.map (n3 n hn).2.2.1
 ·obtain ⟨m0, hm0⟩ := mem_mapI hm
  by_cases e : m0.k = n.k
  ·rw [if_pos e]
   have := injM h.nk _ hm0 _ hn e
   subst this
   exact ⟨⟨gs, updA_mem e1, h0, h1, h2⟩, updA_other e3 (n4 _ hn _ hm0).symm⟩
  ·rw [if_neg e]
   exact ndUpd (h.nd m0 hm0) (fun z => e (by rw [n5 _ hm0 _ hn z])) (n4 _ hn _ hm0).symm
 ·rw [upK_keys (g := fun m => { m with np := v }) (fun _ => rfl)]; exact h.nk
 ·have q := h.adr
  unfold St.adr at q ⊢
  rw [upK_map (g := fun m => { m with np := v }) (·.x) (fun _ => rfl), upK_map (g := fun m => { m with np := v }) (·.li) (fun _ => rfl)]; exact q
theorem setLi (h : Srt a enc st L) {n : Nd κ} {ks : List κ} (hn : n ∈ st.nds) :
  Srt a enc (upK st n.k fun m => { m with su := ks }) (updA L n.li (.data (.list (ks.map enc)))) /\ ExtA L (updA L n.li (.data (.list (ks.map enc)))) := by
 obtain ⟨n1, n2, n3, n4, n5, n6⟩ := h.ne
 obtain ⟨fs, s1, s2, s3, s4, s5⟩ := h.self
 obtain ⟨⟨gs0, e1, e2, e4, e5⟩, e3⟩ := h.nd n hn
 refine ⟨⟨⟨fs, updA_other s1 (n3 n hn).2.1, s2, s3, s4, s5⟩, ?_, fun p hp => updA_other (h.rdy p hp) ((n2 p hp).2.2 n hn).2, fun m hm => ?_, ?_, ?_, by rw [map_updA]; exact h.nda⟩, ext_upd h.nda e3 fun _ z => z⟩
 ·have := upK_map (st := st) (k := n.k) (g := fun m => { m with su := ks }) (fun n => (n.k, opq n.x)) fun _ => rfl
  rw [this]
  exact updA_other h.map (n3 n hn).2.2.2
 ·obtain ⟨m0, hm0⟩ := mem_mapI hm
  by_cases e : m0.k = n.k
  ·rw [if_pos e]
   have := injM h.nk _ hm0 _ hn e
   subst this
   exact ⟨⟨gs0, updA_other e1 (n4 _ hn _ hn), e2, e4, e5⟩, updA_mem e3⟩
  ·rw [if_neg e]
   exact ndUpd (h.nd m0 hm0) (n4 _ hm0 _ hn) (fun z => e (by rw [n6 _ hm0 _ hn z]))
 ·rw [upK_keys (g := fun m => { m with su := ks }) (fun _ => rfl)]; exact h.nk
 ·have q := h.adr
  unfold St.adr at q ⊢
  rw [upK_map (g := fun m => { m with su := ks }) (·.x) (fun _ => rfl), upK_map (g := fun m => { m with su := ks }) (·.li) (fun _ => rfl)]; exact q
theorem addN (h : Srt a enc st L) {n : Nd κ} {L1 : AObs} (hn : n.k ∉ st.keys) (hd : ((L1 ++ L).map (·.1)).Nodup) (h1 : NdAt a enc n L1) (hxl : n.x ≠ n.li) :
  Srt a enc { st with nds := st.nds ++ [n] } (updA (L1 ++ L) a.N2 (.data (dD enc ((st.nds.map fun n => (n.k, opq n.x)) ++ [(n.k, opq n.x)])))) /\ ExtA L (updA (L1 ++ L) a.N2 (.data (dD enc ((st.nds.map fun n => (n.k, opq n.x)) ++ [(n.k, opq n.x)])))) := by
 obtain ⟨n1, n2, n3, n4, n5, n6⟩ := h.ne
 obtain ⟨fs, s1, s2, s3, s4, s5⟩ := h.self
 obtain ⟨⟨gs0, e1, e2, e4, e5⟩, e3⟩ := h1
 have hd' := hd
 rw [List.map_append, List.nodup_append] at hd'
 obtain ⟨d1, d2, d3⟩ := hd'
 have hm1 : ∀ {p : Addr × Desc}, p ∈ L -> n.x ≠ p.1 /\ n.li ≠ p.1 := fun {p} hp => ⟨d3 _ (lM (f := (·.1)) e1) _ (lM (f := (·.1)) hp), d3 _ (lM (f := (·.1)) e3) _ (lM (f := (·.1)) hp)⟩
 have hr : ∀ {p : Addr × Desc}, p ∈ L -> p ∈ L1 ++ L := fun hp => lR _ hp
 refine ⟨⟨⟨fs, updA_other (hr s1) n1, s2, s3, s4, s5⟩, ?_, fun p hp => updA_other (hr (h.rdy p hp)) (n2 p hp).2.1.symm, fun m hm => ?_, ?_, ?_, by rw [map_updA]; exact hd⟩, (ext_app).trans (ext_upd hd (hr h.map) fun _ z => z)⟩
 ·rw [List.map_append]
  exact updA_mem (hr h.map)
 ·rcases lA hm with hm | hm
  ·obtain ⟨⟨gs, f1, f2, f4, f5⟩, f3⟩ := h.nd m hm
   exact ⟨⟨gs, updA_other (hr f1) (n3 m hm).2.2.1.symm, f2, f4, f5⟩, updA_other (hr f3) (n3 m hm).2.2.2.symm⟩
  ·rw [lS hm]
   exact ⟨⟨gs0, updA_other (lL _ e1) (hm1 h.map).1, e2, e4, e5⟩, updA_other (lL _ e3) (hm1 h.map).2⟩
 ·unfold St.keys
  rw [List.map_append, List.nodup_append]
  exact ⟨h.nk, by simp, fun x hx y hy e => by
   have hy' : y = n.k := by simpa using hy
   exact hn (hy' ▸ e ▸ hx)⟩
 ·have q := h.adr
  unfold St.adr at q ⊢
  rw [List.map_append, List.map_append]
  have hx : ∀ m ∈ st.nds, m.x ≠ n.x /\ m.x ≠ n.li /\ m.li ≠ n.x /\ m.li ≠ n.li := fun m hm => by
   obtain ⟨⟨gs, f1, f2, f4, f5⟩, f3⟩ := h.nd m hm
   exact ⟨(hm1 f1).1.symm, (hm1 f1).2.symm, (hm1 f3).1.symm, (hm1 f3).2.symm⟩
  have hR : ∀ p, st.rn = some p -> p.1 ≠ n.x /\ p.1 ≠ n.li := fun p hp => ⟨(hm1 (h.rdy p hp)).1.symm, (hm1 (h.rdy p hp)).2.symm⟩
  have hR' : ∀ r ∈ rnA st.rn, r ≠ n.x /\ r ≠ n.li := fun r hr => by
   cases hz : st.rn with
   | none => rw [hz] at hr; cases hr
   | some p => rw [hz] at hr; rw [lS hr]; exact hR p hz
  have hS := hm1 s1
  have hN := hm1 h.map
  have hp : List.Perm (a.S :: a.N2 :: (rnA st.rn ++ ((st.nds.map (·.x) ++ [n].map (·.x)) ++ (st.nds.map (·.li) ++ [n].map (·.li))))) (n.x :: n.li :: (a.S :: a.N2 :: (rnA st.rn ++ (st.nds.map (·.x) ++ st.nds.map (·.li))))) := by
   refine List.perm_iff_count.mpr fun z => ?_
   simp only [List.count_cons, List.count_append, List.map_cons, List.map_nil, List.count_nil]
   omega
  rw [hp.nodup_iff, List.nodup_cons, List.nodup_cons]
  refine ⟨?_, ?_, q⟩
  ·simp only [List.mem_cons, List.mem_append, not_or, List.mem_map, not_exists, not_and]
   exact ⟨hxl, hS.1, hN.1, fun z => (hR' _ z).1 rfl, fun m hm e => (hx m hm).1 e, fun m hm e => (hx m hm).2.2.1 e⟩
  ·simp only [List.mem_cons, List.mem_append, not_or, List.mem_map, not_exists, not_and]
   exact ⟨hS.2, hN.2, fun z => (hR' _ z).2 rfl, fun m hm e => (hx m hm).2.1 e, fun m hm e => (hx m hm).2.2.2 e⟩
end Srt
end
end
section
section
variable {K : Act} {A : Around} {s0 : Shared} {E : Err} {X : List Addr} {Γ Γ' : Gam} {R R' : Ros} {Δ Δ' : Del K} {ss : List Stmt} {O O' : Out K -> Prop} {s s' : Shared} {L : AObs} {F : Frag} {κ : Type} [DecidableEq κ]
theorem neR {x : Str} (hR : offB [x] (R.map (·.1)) = true) : ∀ p ∈ R, p.1 ≠ x := fun p hp e => by
 have := List.all_eq_true.mp hR p.1 (lM (f := (·.1)) hp)
 simp [e] at this
theorem Ex1.iteN {x : Str} {px npos cpos pos np : Pos} {k : Nat} {e : Expr} {d : PyData} {body orelse : List Stmt} (h : EvS K A s0 E Γ R Δ e d) (hf : flat d = true)
  (h1 : isNoneD d = true -> Ex K A s0 E ((x, d) :: Γ) R Δ body O) (h2 : isNoneD d = false -> Ex K A s0 E ((x, d) :: Γ) R Δ orelse O)
  (hx : autoParam (decide (x ∈ K.xs) = true) aK) (hΓ : autoParam (offB [x] (Γ.map (·.1)) = true) aK) (hR : autoParam (offB [x] (R.map (·.1)) = true) aK)
  (hm : behindInMarks .Is (.Constant .none k np) = false := by with_unfolding_all rfl) :
  Ex1 K A s0 E Γ R Δ (.If (.Compare (.NamedExpr (.Name x px) e npos) [.Is] [.Constant .none k np] cpos) body orelse pos) O := by
 have e1 : Γ.filter (fun p => p.1 != x) = Γ := filter_off fun p hp e => off_of hΓ p hp (e ▸ .head _)
 exact Ex1.iteW h hf (of_decide_eq_true hx) (neR hR) (by rw [e1]; exact h1) (by rw [e1]; exact h2) hm
theorem Ex1.assignDN (dk : DKey K.c.w κ) {x : Str} {o i e : Expr} {px tpos pos : Pos} {D : Addr} {k : κ} {P : PyData -> AObs -> Prop} (he : EvX K A s0 E Γ R L Δ e P)
  (ho : ∀ d L', P d L' -> EvS K A s0 E Γ R (delA K.c L' ++ Δ) o (opq D)) (hi : ∀ d L', P d L' -> EvS K A s0 E Γ R (delA K.c L' ++ Δ) i (dk.enc k))
  (hD : ∀ d L', P d L' -> flat d = true /\ ∃ kvs : List (κ × PyData), (D, .data (dD dk.enc kvs)) ∈ L' /\ kvs.length <= 10 ^ 6 /\ k ∉ kvs.map (·.1))
  (hx : autoParam (decide (x ∈ K.xs) = true) aK) (hΓ : autoParam (offB [x] (Γ.map (·.1)) = true) aK) (hR : autoParam (offB [x] (R.map (·.1)) = true) aK)
  (he2 : autoParam ((assignEach [Expr.Subscript o i tpos, Expr.Name x px] K.env).map (·.2) = [PySem.assign (Expr.Subscript o i tpos) K.env, PySem.assign (Expr.Name x px) K.env]) aR)
  (hw : autoParam (swappedStores [Expr.Subscript o i tpos, Expr.Name x px] e K.env = pure none) aR) :
  Ex1 K A s0 E Γ R (delA K.c L ++ Δ) (.Assign [Expr.Subscript o i tpos, Expr.Name x px] e pos) (fun q => ∃ d L' kvs, P d L' /\ (D, .data (dD dk.enc kvs)) ∈ L' /\ q = .next ((x, d) :: Γ) R (delA K.c (updA L' D (.data (dD dk.enc (kvs ++ [(k, d)])))) ++ Δ)) := by
 have e1 : Γ.filter (fun p => p.1 != x) = Γ := filter_off fun p hp e => off_of hΓ p hp (e ▸ .head _)
 have := Ex1.assignDX dk (pos := pos) (px := px) (tpos := tpos) he (of_decide_eq_true hx) (neR hR) ho hi hD he2 hw
 rw [e1] at this
 exact this
theorem EvX.know {φ : PyData -> AObs -> Prop} {e : Expr} {P : PyData -> AObs -> Prop} (h : EvX K A s0 E Γ R L Δ e P) (k : ∀ d L' s X, P d L' -> Sat K X Γ R (delA K.c L' ++ Δ) A s0 s -> φ d L') : EvX K A s0 E Γ R L Δ e (fun d L' => P d L' /\ φ d L') := fun s X S =>
 wK (h s X S) (fun v s1 q => let ⟨X', d, L', hP, S', r⟩ := q; ⟨X', d, L', ⟨hP, k d L' s1 X' hP S'⟩, S', r⟩)
theorem EvX.of {e : Expr} {P Q : PyData -> AObs -> Prop} (h : EvX K A s0 E Γ R L Δ e P) (k : ∀ d L', P d L' -> Q d L') : EvX K A s0 E Γ R L Δ e Q := fun s X S =>
 wK (h s X S) (fun v s1 q => let ⟨X', d, L', hP, S', r⟩ := q; ⟨X', d, L', k d L' hP, S', r⟩)
end
section
variable {κ : Type} [DecidableEq κ]
theorem kget_nodes {st : St κ} {k : κ} : (k ∉ st.keys /\ (kget (st.nds.map fun n => (n.k, opq n.x)) k).getD .none = .none) \/ ∃ n ∈ st.nds, n.k = k /\ (kget (st.nds.map fun n => (n.k, opq n.x)) k).getD .none = opq n.x := by
 unfold kget
 cases e : (st.nds.map fun n => (n.k, opq n.x)).find? fun p => p.1 = k with
 | none =>
  refine .inl ⟨fun hk => ?_, rfl⟩
  obtain ⟨n, hn⟩ := mem_mapI hk
  have := List.find?_eq_none.mp e _ (lM (f := fun n : Nd κ => (n.k, opq n.x)) hn)
  simp at this
 | some p =>
  have h1 := List.mem_of_find?_eq_some e
  have h2 := List.find?_some e
  obtain ⟨n, hn⟩ := mem_mapI h1
  exact .inr ⟨n, hn, by simpa using h2, rfl⟩
end
end
section
noncomputable def resRaw (c : Cfg) (q : Addr) (o : Obj) : Res c where
 fp := [q]
 P := fun X h => h.get? q = some o
 alive := fun X h e a ha => by rw [lS ha]; exact ⟨_, e⟩
 keep := fun X h h' Y e x hF hy => x.exact (fun z => (hy _ z).2 (.head _)) (fun z => (hF _ z).2 (.head _)) e
 wide := fun X X' h e _ => e
noncomputable def okB (F : Frag) (C : Addr) (name : Str) (f : Addr) : Bool :=
 plainGet F C name && hasDictIn F C && findIn F (.ref C) name == some (some (.ref f)) && isFn F (.ref f) && specialIn F (.ref f) "__get__" == some (some (.builtin "function.__get__")) && takesIn F (.ref f) == some false && !(copiedNames.contains name) && fnIn F f
inductive OkBI (F : Frag) (C : Addr) (name : Str) (f : Addr) : Prop
 | mk (k1 : plainGet F C name = true) (k2 : hasDictIn F C = true) (k3 : findIn F (.ref C) name = some (some (.ref f))) (k4 : isFn F (.ref f) = true) (k5 : specialIn F (.ref f) "__get__" = some (some (.builtin "function.__get__"))) (k6 : takesIn F (.ref f) = some false) (k7 : copiedNames.contains name = false)
theorem okB_inv {F : Frag} {C : Addr} {name : Str} {f : Addr} (h : okB F C name f = true) : OkBI F C name f := by
 unfold okB at h
 simp only [Bool.and_eq_true, beq_iff_eq, Bool.not_eq_true'] at h
 obtain ⟨⟨⟨⟨⟨⟨⟨k1, k2⟩, k3⟩, k4⟩, k5⟩, k6⟩, k7⟩, _⟩ := h
 exact ⟨k1, k2, k3, k4, k5, k6, k7⟩
section
variable {K : Act} {A : Around} {s0 : Shared} {E : Err} {X : List Addr} {Γ Γ' : Gam} {R R' : Ros} {Δ Δ' : Del K} {ss : List Stmt} {O O' : Out K -> Prop} {s s' : Shared} {L : AObs} {F : Frag}
theorem Sat.takeRaw (S : Sat K X Γ R Δ A s0 s) {s' : Shared} (p : Pst K.c s s') {D : Addr} {o : Obj} (hD : s.heap.get? D = none) (ho : s'.heap.get? D = some o) : Sat K (D :: X) Γ R (resRaw K.c D o :: Δ) A s0 s' := by
 have fq := S.off hD
 obtain ⟨h', tk, q⟩ := p
 have S' : Sat K (D :: X) Γ R Δ A s0 { s with heap := h', toks := tk } := S.grow (fun a ha => (lC ha).elim (fun e => .inr (e ▸ hD)) .inl) (fun a ha => .tail _ ha) q fun a ha => (lC ha).elim (fun e => e ▸ ⟨_, ho⟩) fun z => q.alive (fun z => nomatch z) (S.good.bas.alloc a z)
 exact S'.add (resRaw K.c D o) ho (fun a ha => by rw [lS ha]; exact ⟨.head _, fq.2.1, fq.2.2.1, fq.2.2.2.1⟩) fun r hr a ha => by rw [lS ha]; exact fq.2.2.2.2 r hr
theorem getBound {name : Str} {a C dx f : Addr} {ns : List Str} {fs : List (Str × PyData)} {gs : List (Nat × PyData)} {Q : Value -> Shared -> Prop} (hF : F.In K.c.base) (S : Sat K X Γ R (delA K.c L ++ Δ) A s0 s) (h : (a, .inst C dx ns fs gs) ∈ L) (hk : okB F C name f = true) (hns : name ∉ ns)
  (k : ∀ q s', Sat K (q :: X) Γ R (resRaw K.c q (methodObj (.ref f) (.ref a)) :: (delA K.c L ++ Δ)) A s0 s' -> Q (.ref q) s') : wpAny K.c.M A (getAttr (.ref a) name true) Q E s := by
 obtain ⟨sl, es, n, e1, e2, hn, f', g⟩ := S.obj h
 obtain ⟨k1, k2, k3, k4, k5, k6, k7⟩ := okB_inv hk
 have hX : F.In s.heap := S.frag hF
 refine get_bind hX (inst_at e1 e2) (plainGet_of k1).1 (findObj_fn k2 k3 k5 k6 k7 (by show lookIn name (dictOf es n) = _; rw [lookIn_dict, getL_no hn hns])) (plainGet_of k1).2
  (wpAny_call (fn_get (s := { s with toks := s.toks + 1 }) hX (beq_iff_eq.mp k4) (handed_on rfl (k s.heap.objs.size _ (S.takeRaw (o := methodObj (.ref f) (.ref a)) ?_ (fresh_ge (Nat.le_refl _)) ?_)))))
 ·exact ⟨_, s.toks + 1, .push _ _⟩
 ·exact hP _ rfl
theorem EvX.methS {o : Expr} {name : Str} {apos pos : Pos} {a C dx f : Addr} {ns : List Str} {fs : List (Str × PyData)} {gs : List (Nat × PyData)} {args : List Expr} {ds : List PyData} {P : PyData -> AObs -> Prop} (hF : F.In K.c.base) (ho : EvS K A s0 E Γ R (delA K.c L ++ Δ) o (opq a)) (h : (a, .inst C dx ns fs gs) ∈ L) (hk : okB F C name f = true) (hns : name ∉ ns)
  (hm : FnA K.c K.l f (opq a :: ds) L P) (ha : ∀ q Δ, EvAS K A s0 E Γ R Δ (.ref q) pos args ds)
  (hbase : autoParam (attributeBase o name K.env (eval o K.env) = eval o K.env) aR)
  (hfew : autoParam (methodCallForm (args.length + ([] : List Keyword).length) (backTo pos (starEach args K.env)) (backToKw pos (keywordEach [] K.env)) = false) aR)
  (hst : autoParam ((backTo pos (starEach args K.env)).any (·.1) = true) aR) : EvX K A s0 E Γ R L Δ (.Call (.Attribute o name apos) args [] pos) P := fun s X S => by
 have k8 : fnIn F f = true := (Bool.and_eq_true_iff.mp hk).2
 rw [arm_eval_Call, hbase]
 refine wB (ho.ref S fun s1 S1 => ?_)
 refine wB (wpAny_standAt ?_)
 unfold methodCall
 rw [hfew]
 refine wB (wpAny_holding ?_)
 show wpAny K.c.M A (getAttr (.ref a) name true >>= fun v => pure (v, [])) _ _ s1
 refine wB (getBound hF S1 h hk hns fun q s2 S2 => wP ?_)
 show wpAny K.c.M A (pure pos >>= fun callPos => callWith callPos (.ref q) [] (backTo pos (starEach args K.env)) []) _ _ s2
 refine wB (wP ?_)
 refine ks_call (P := fun h => h.get? q = some (methodObj (.ref f) (.ref a)) /\ F.In h) hst (fun h hP => keeps_M k8 h hP) (ha q _ _ _ _ S2 fun vs s3 X3 hX3 S3 r3 => ?_)
 have hq : s3.heap.get? q = some (methodObj (.ref f) (.ref a)) := S3.res (resRaw K.c q (methodObj (.ref f) (.ref a))) (.head _)
 refine ⟨⟨hq, S3.frag hF⟩, ?_⟩
 have S4 : Sat K X3 Γ R (delA K.c L ++ Δ) A s0 s3 := S3.weak (fun _ h => h) (fun _ h => h) (List.sublist_cons_self ..)
 refine wpAny_call (method_call hq (codeAny_mono (hm A X3 s3 (.ref a :: vs) S4.lev S4.good.bas (.cons (.opq a) r3) S4.lentA) fun r s' hr => ?_))
 rcases r with e | fl
 ·exact hr.elim
 ·cases fl with
  | ret v =>
   obtain ⟨L', d, X', hP, S5, rv⟩ := S4.backA hr
   exact ⟨X', d, L', hP, S5, rv⟩
  | _ => exact hr.elim
noncomputable def isRow : PyData -> Option (List PyData)
 | .list ds => some ds
 | .tuple ds => some ds
 | _ => none
theorem row_inv {d : PyData} {ds : List PyData} (h : isRow d = some ds) : d = .list ds \/ d = .tuple ds := by
 cases d with
 | list => exact .inl (congrArg _ (Option.some.inj h))
 | tuple => exact .inr (congrArg _ (Option.some.inj h))
 | _ => cases h
theorem star_rd {c : Cfg} {v : Value} {d : PyData} {ds : List PyData} {Q : List Value -> Shared -> Prop} (r : Rd c.w X s.heap v d) (hd : isRow d = some ds) (hz : ds.length <= 10 ^ 6) (hfr : ∀ a ∈ c.fr, a ∈ X) (h : ∀ vs s', Pst c s s' -> RdL c.w X s'.heap vs ds -> Q vs s') : StarOf c.M A E v Q s := by
 have main : ∀ (a : Addr) (T : String) (vs : List Value) (n : Nat) (o : Obj), s.heap.get? a = some o -> o.cls = .type T -> o.data = .seq vs.toArray n -> (T = "list" \/ T = "tuple") -> RdL c.w X s.heap vs ds -> StarOf c.M A E (.ref a) Q s := fun a T vs n o e hc hdat hT q => by
  have hT' : s.TypeIs (.ref a) T := ⟨o, e, hc⟩
  have z : wpAny c.M A (collect (.ref a)) Q E s := by
   refine wpAny_collect_seq a hT e hc hdat (fun h' hk => ?_) (by rw [List.size_toArray, q.length, sizeLine_eq]; omega)
   have x : HX c [] s.heap h' := .keep0 hk
   have := h vs { s with heap := h' } ⟨h', s.toks, x⟩ (q.hx0 x hfr)
   simpa using this
  unfold StarOf notIterableAtAll
  rcases hT with rfl | rfl
  ·exact wB (wpAny_specialOf hT' PySem.F.slot_list_iter.lookup (wP ⟨rfl, z⟩))
  ·exact wB (wpAny_specialOf hT' PySem.F.slot_tuple_iter.lookup (wP ⟨rfl, z⟩))
 rcases row_inv hd with rfl | rfl
 ·obtain ⟨a, vs, n, ha, e, q⟩ := r.list_inv; exact main a "list" vs n _ e rfl rfl (.inl rfl) q
 ·obtain ⟨a, vs, n, ha, e, q⟩ := r.tuple_inv; exact main a "tuple" vs n _ e rfl rfl (.inr rfl) q
theorem EvAS.oneStar {f : Value} {pos p : Pos} {e0 e : Expr} {d0 d : PyData} {ds : List PyData} (h0 : EvS K A s0 E Γ R Δ e0 d0) (h : EvS K A s0 E Γ R Δ e d) (hf : flat d0 = true) (hd : isRow d = some ds) (hz : ds.length <= 10 ^ 6)
  (he : autoParam (starEach [e0, .Starred e p] K.env = (false, eval e0 K.env) :: starEach [.Starred e p] K.env) aR) (he2 : autoParam (starEach [.Starred e p] K.env = (true, eval e K.env) :: starEach [] K.env) aR) : EvAS K A s0 E Γ R Δ f pos [e0, .Starred e p] (d0 :: ds) := fun s X Q S k => by
 rw [he]
 refine evalArgs_plain (Calls.spliced_cons (h0.go S fun v0 s1 S1 r1 => items_star (h.go S1 fun v s2 S2 r2 => star_rd r2 hd hz S2.good.bas.frs fun vs s3 p3 r3 => Calls.spliced_nil ?_) he2))
 rw [List.append_nil]
 exact k (v0 :: vs) s3 X (fun _ h => h) (S2.pst p3) (.cons (r1.flat hf) r3)
theorem bindStar2 {fd : FuncData} {p q r : Str} {c : Cfg} {d1 d2 : PyData} {ds : List PyData} (hz : ds.length <= 10 ^ 6) (h : ∀ a b (vs : List Value), bindArgs fd ⟨a :: b :: vs, []⟩ = (do let t <- newTuple vs; pure [(p, a), (q, b), (r, t)])) (A : Around) (X : List Addr) (s : Shared) (vs : List Value) (B : Bas c A X s.heap) (rr : RdL c.w X s.heap vs (d1 :: d2 :: ds)) :
  wpAny c.M A.in1 (bindArgs fd ⟨vs, []⟩) (fun binds s1 => Pst c s s1 /\ ∃ us, binds = [p, q, r].zip us /\ RdL c.w X s1.heap us [d1, d2, .tuple ds]) NoE s := by
 have hz := rr.cons_inv; clear rr; obtain ⟨_, _, r1, rr⟩ := hz
 have hz := rr.cons_inv; clear rr; obtain ⟨_, _, r2, r3⟩ := hz
 rw [h]
 have x : ∀ o, HX c [] s.heap (s.heap.push o) := fun o => .push _ _
 have hn : s.heap.get? s.heap.objs.size = none := fresh_ge (Nat.le_refl _)
 refine wB (wpAny_newTuple (wP ⟨.push', _, rfl, .cons (r1.hx0 (x _) B.frs) (.cons (r2.hx0 (x _) B.frs) (.cons (.tuple (fun z => ?_) (hP _ rfl) (r3.hx0 (x _) B.frs)) .nil))⟩) (by rw [r3.length, sizeLine_eq]; omega))
 obtain ⟨o, e⟩ := B.alloc _ z
 rw [hn] at e; cases e
theorem bindStar1 {fd : FuncData} {p r : Str} {c : Cfg} {d1 : PyData} {ds : List PyData} (hz : ds.length <= 10 ^ 6) (h : ∀ a (vs : List Value), bindArgs fd ⟨a :: vs, []⟩ = (do let t <- newTuple vs; pure [(p, a), (r, t)])) (A : Around) (X : List Addr) (s : Shared) (vs : List Value) (B : Bas c A X s.heap) (rr : RdL c.w X s.heap vs (d1 :: ds)) :
  wpAny c.M A.in1 (bindArgs fd ⟨vs, []⟩) (fun binds s1 => Pst c s s1 /\ ∃ us, binds = [p, r].zip us /\ RdL c.w X s1.heap us [d1, .tuple ds]) NoE s := by
 have hz := rr.cons_inv; clear rr; obtain ⟨_, _, r1, r3⟩ := hz
 rw [h]
 have x : ∀ o, HX c [] s.heap (s.heap.push o) := fun o => .push _ _
 have hn : s.heap.get? s.heap.objs.size = none := fresh_ge (Nat.le_refl _)
 refine wB (wpAny_newTuple (wP ⟨.push', _, rfl, .cons (r1.hx0 (x _) B.frs) (.cons (.tuple (fun z => ?_) (hP _ rfl) (r3.hx0 (x _) B.frs)) .nil)⟩) (by rw [r3.length, sizeLine_eq]; omega))
 obtain ⟨o, e⟩ := B.alloc _ z
 rw [hn] at e; cases e
end
end
section
section
variable {c : Cfg} {l : Nat}
theorem P2.iaddI {a b : Int} : P2 c (inplaceOp .Add) (.int a) (.int b) (.int (a + b)) := .of_int fun l A X s ta tb _ _ => AutoIntOps.iadd_0 (by exact ⟨.tk, .int _ _⟩)
theorem P2.isubI {a b : Int} : P2 c (inplaceOp .Sub) (.int a) (.int b) (.int (a - b)) := .of_int fun l A X s ta tb _ _ => AutoIntOps.isub_0 (by exact ⟨.tk, .int _ _⟩)
theorem CallOk.lenT {ds : List PyData} (hz : ds.length <= 2 ^ 40) : CallOk c l (.builtin "len") [.tuple ds] (.int ds.length) := fun A X s vs L B r => by
 have hz := r.one_inv; clear r; obtain ⟨_, r⟩ := hz
 have hz := r.tuple_inv; clear r; obtain ⟨_, _, _, ha, e, q⟩ := hz
 refine len_tuple ⟨_, e, rfl, _, rfl⟩ (by simp [q.length]; omega) ?_
 refine ⟨.tk, ?_⟩
 simp only [List.size_toArray, q.length]
 exact .int _ _
theorem CallOk.listT {ds : List PyData} (hz : ds.length <= 10 ^ 6) : CallOk c l (.type "list") [.tuple ds] (.list ds) := fun A X s vs L B r => by
 have hz := r.one_inv; clear r; obtain ⟨_, r⟩ := hz
 have hz := r.tuple_inv; clear r; obtain ⟨a, vs, n, ha, ea, q⟩ := hz
 refine call_list_seq a (.inr rfl) ea rfl rfl (fun h' k hk e' => ?_) (by simp [q.length, sizeLine_eq]; omega)
 have q1 : HX c [] s.heap h' := .keep0 hk
 exact ⟨⟨h', s.toks, q1⟩, .list (notIn_alloc B.alloc) e' (q.hx0 q1 B.frs)⟩
theorem CallOk.tupleL {ds : List PyData} (hz : ds.length <= 10 ^ 6) : CallOk c l (.type "tuple") [.list ds] (.tuple ds) := fun A X s vs L B r => by
 have hz := r.one_inv; clear r; obtain ⟨_, r⟩ := hz
 have hz := r.list_inv; clear r; obtain ⟨a, vs, n, ha, ea, q⟩ := hz
 refine call_tuple_list ⟨_, ea, rfl, _, rfl⟩ (fun h' hk => ?_) (by simp [q.length, sizeLine_eq]; omega)
 have q1 : HX c [] s.heap h' := .keep0 hk
 have q2 : ∀ o, HX c [] s.heap (h'.push o) := fun o => q1.trans (.push _ _)
 have hn : s.heap.get? h'.objs.size = none := by
  cases e : s.heap.get? h'.objs.size with
  | none => rfl
  | some o => exact absurd (Heap.lt_size (hk _ _ e)) (Nat.lt_irrefl _)
 refine ⟨⟨_, s.toks, q2 _⟩, .tuple (fun z => ?_) (hP _ rfl) (q.hx0 (q2 _) B.frs)⟩
 obtain ⟨o, e⟩ := B.alloc _ z
 rw [hn] at e; cases e
end
end
section
section
variable {κ : Type} [DecidableEq κ]
noncomputable abbrev PN (κ : Type) := κ × Int × List κ
noncomputable def St.abs (st : St κ) : List (PN κ) := st.nds.map fun n => (n.k, n.np, n.su)
noncomputable def infoP (ns : List (PN κ)) (k : κ) : List (PN κ) := if k ∈ ns.map (·.1) then ns else ns ++ [(k, 0, [])]
noncomputable def upP (ns : List (PN κ)) (k : κ) (g : PN κ -> PN κ) : List (PN κ) := ns.map fun n => if n.1 = k then g n else n
noncomputable def predP (k : κ) (ns : List (PN κ)) (p : κ) : List (PN κ) := upP (infoP ns p) p fun n => (n.1, n.2.1, n.2.2 ++ [k])
noncomputable def add0 (ns : List (PN κ)) (k : κ) (m : Nat) : List (PN κ) := upP (infoP ns k) k fun n => (n.1, n.2.1 + m, n.2.2)
noncomputable def addP (ns : List (PN κ)) (k : κ) (ps : List κ) : List (PN κ) := ps.foldl (predP k) (add0 ns k ps.length)
noncomputable def limP (N : Nat) (ns : List (PN κ)) : Prop := ns.length <= N /\ ∀ n ∈ ns, n.2.2.length <= N
theorem limP.mono {N M : Nat} {ns : List (PN κ)} (h : limP N ns) (hm : N <= M) : limP M ns := ⟨Nat.le_trans h.1 hm, fun n hn => Nat.le_trans (h.2 n hn) hm⟩
theorem limP.info {N : Nat} {ns : List (PN κ)} {k : κ} (h : limP N ns) : limP (N + 1) (infoP ns k) := by
 unfold infoP
 split
 ·exact h.mono (Nat.le_succ _)
 ·refine ⟨by rw [List.length_append]; have := h.1; simp; omega, fun n hn => ?_⟩
  rcases lA hn with hn | hn
  ·have := h.2 n hn; omega
  ·rw [lS hn]; simp
theorem mem_upP {ns : List (PN κ)} {k : κ} {g : PN κ -> PN κ} {n : PN κ} (h : n ∈ upP ns k g) : ∃ m ∈ ns, n = if m.1 = k then g m else m := by
 obtain ⟨m, hm, e⟩ := List.mem_map.mp h
 exact ⟨m, hm, e.symm⟩
theorem info_len {ns : List (PN κ)} {k : κ} : ∀ n ∈ infoP ns k, n ∈ ns \/ n = (k, 0, []) := fun n hn => by
 unfold infoP at hn
 split at hn
 ·exact .inl hn
 ·rcases lA hn with hn | hn
  ·exact .inl hn
  ·exact .inr (lS hn)
theorem limP.pred {N : Nat} {ns : List (PN κ)} {k p : κ} (h : limP N ns) : limP (N + 1) (predP k ns p) := by
 have hi := h.info (k := p)
 refine ⟨by unfold predP upP; rw [List.length_map]; exact hi.1, fun n hn => ?_⟩
 obtain ⟨m, hm, rfl⟩ := mem_upP hn
 have hm' : m.2.2.length <= N := by
  rcases info_len m hm with h' | rfl
  ·exact h.2 m h'
  ·simp
 split
 ·simp; omega
 ·omega
theorem limP.add0 {N m : Nat} {ns : List (PN κ)} {k : κ} (h : limP N ns) : limP (N + 1) (add0 ns k m) := by
 have hi := h.info (k := k)
 refine ⟨by unfold Mine.add0 upP; rw [List.length_map]; exact hi.1, fun n hn => ?_⟩
 obtain ⟨m, hm, rfl⟩ := mem_upP hn
 have hm' := hi.2 m hm
 split <;> exact hm'
theorem limP.fold {k : κ} : ∀ {ps : List κ} {N : Nat} {ns : List (PN κ)}, limP N ns -> limP (N + ps.length) (ps.foldl (predP k) ns)
 | [], _, _, h => h
 | p :: ps, N, ns, h => by
  have := limP.fold (k := k) (ps := ps) (h.pred (k := k) (p := p))
  rw [List.foldl_cons, List.length_cons]
  exact this.mono (by omega)
theorem limP.addP {N : Nat} {ns : List (PN κ)} {k : κ} {ps : List κ} (h : limP N ns) : limP (N + 1 + ps.length) (addP ns k ps) := (h.add0).fold
theorem abs_len {st : St κ} : st.abs.length = st.nds.length := List.length_map _
theorem abs_keys {st : St κ} : st.abs.map (·.1) = st.keys := by unfold St.abs St.keys; rw [List.map_map]; rfl
theorem abs_upK {st : St κ} {k : κ} {g : Nd κ -> Nd κ} {g' : PN κ -> PN κ} (h : ∀ n, ((g n).k, (g n).np, (g n).su) = g' (n.k, n.np, n.su)) : (Srt.upK st k g).abs = upP st.abs k g' := by
 unfold Srt.upK St.abs upP
 simp only [List.map_map]
 refine List.map_congr_left fun n _ => ?_
 simp only [Function.comp]
 split
 ·exact h n
 ·rfl
end
end
section
section
variable {K : Act} {A : Around} {s0 : Shared} {E : Err} {X : List Addr} {Γ Γ' : Gam} {R R' : Ros} {Δ Δ' : Del K} {ss : List Stmt} {O O' : Out K -> Prop} {s s' : Shared} {L : AObs} {F : Frag}
theorem Ex.newX {x : Str} {px pos : Pos} {e : Expr} {P : PyData -> AObs -> Prop} (h : EvX K A s0 E Γ R L Δ e P) (k : ∀ d L', P d L' -> Ex K A s0 E ((x, d) :: Γ) R (delA K.c L' ++ Δ) ss O)
  (hx : autoParam (decide (x ∈ K.xs) = true) aK) (hΓ : autoParam (offB [x] (Γ.map (·.1)) = true) aK) (hR : autoParam (offB [x] (R.map (·.1)) = true) aK) (hs : autoParam (swapsWith e (some (.Name x px)) pos.line K.env = pure false) aR) :
  Ex K A s0 E Γ R (delA K.c L ++ Δ) (.Assign [.Name x px] e pos :: ss) O := by
 have e1 : Γ.filter (fun p => p.1 != x) = Γ := filter_off fun p hp e => off_of hΓ p hp (e ▸ .head _)
 refine Ex.seqX (Ex1.assignX h (of_decide_eq_true hx) (neR hR) hs) ?_
 rintro _ ⟨d, L', hP, rfl⟩
 refine ⟨_, _, _, rfl, ?_⟩
 rw [e1]
 exact k d L' hP
theorem perm_loop {r : Res K.c} {D Δ : Del K} : List.Perm (r :: (D ++ Δ)) (D ++ r :: Δ) := List.perm_middle.symm
end
end
section
section
variable {c : Cfg} {l : Nat} {X : List Addr} {env : Env} {Γ : Gam} {A : Around} {s : Shared}
variable {K : Type} [DecidableEq K]
inductive StM (c : Cfg) (dk : DKey c.w K) (I d : Addr) (ks : List K) (ds : List PyData) (X : List Addr) (i : Nat) (h : Heap) : Prop
 | mk (vs : List Value) (ep : Nat) (ok ov : Value) (it : IsItemIter h I d i (ks.zip vs).length ep ok ov) (off : d ∉ X) (at_ : h.DictAt (dk.knd c.prog) d (ks.zip vs) ep) (len : ks.length = vs.length) (r : RdL c.w X h vs ds)
noncomputable def itemD (enc : K -> PyData) (ks : List K) (ds : List PyData) : List PyData := (ks.zip ds).map fun p => .tuple [enc p.1, p.2]
theorem DictAt.hx {c : Cfg} {Y X : List Addr} {h h' : Heap} {d ep} {kvs : List (K × Value)} {knd : PySem.KeyKind c.prog c.w K} (q : HX c Y h h') (h2 : d ∉ X) (hy : ∀ y ∈ Y, y ∈ X) (hF : ∀ a ∈ c.fr, a ∈ X) (x : h.DictAt knd d kvs ep) : h'.DictAt knd d kvs ep := by
 obtain ⟨o2, es, e2, r2⟩ := x
 exact ⟨o2, es, q.exact (fun z => h2 (hy _ z)) (fun z => h2 (hF _ z)) e2, r2⟩
theorem ent_itemiter : entryFor table "dict_itemiterator.__iter__" = some Builtin.«dict_keyiterator.__iter__» := entryFor_alias (id' := "dict_keyiterator.__iter__") (by kernel_rfl) rfl (by decide +kernel) (by kernel_rfl)
theorem its_items {dk : DKey c.w K} {I d : Addr} {ks : List K} {ds : List PyData} (hl : ks.length = ds.length) : ItS c true I [I] (itemD dk.enc ks ds) (StM c dk I d ks ds) where
 alive := fun X i h st a ha => by
  obtain ⟨vs, ep, ok, ov, e, _⟩ := st
  rw [lS ha]
  exact ⟨_, e⟩
 keep := fun X i h h' Y st q hF hy => by
  obtain ⟨vs, ep, ok, ov, e, h2, h3, h4, h5⟩ := st
  exact ⟨vs, ep, ok, ov, q.exact (fun z => (hy _ z).2 (.head _)) (fun z => (hF _ z).2 (.head _)) e, h2, DictAt.hx q h2 (fun y z => (hy y z).1) (fun a z => (hF a z).1) h3, h4, h5.hx q (fun a z => (hF a z).1) fun y z => (hy y z).1⟩
 wide := fun X X' i h st hy => by
  obtain ⟨vs, ep, ok, ov, h1, h2, h3, h4, h5⟩ := st
  obtain ⟨o2, es, e2, r2⟩ := id h3
  exact ⟨vs, ep, ok, ov, h1, fun z => (hy _ z).elim h2 fun e => (by rw [e] at e2; cases e2), h3, h4, h5.wide hy⟩
 item := fun A s X i dd tg hh ht st hf hF hd => by
  obtain ⟨vs, ep, ok, ov, h1, h2, h3, h4, h5⟩ := st
  obtain ⟨⟨k0, d0⟩, hk⟩ := map_get hd
  obtain ⟨hk1, hk2⟩ := List.getElem?_zip_eq_some.mp hk
  obtain ⟨v, hv, rv⟩ := h5.get _ hk2
  have hz : (ks.zip vs)[i]? = some (k0, v) := List.getElem?_zip_eq_some.mpr ⟨hk1, hv⟩
  obtain ⟨hI, hIb, hIf⟩ := hf I (.head _)
  obtain ⟨es, k, p⟩ := tg_tuple ht
  refine wpAny_pyNext_items_item h1 h3 hz fun key h' hkey hit' htup hsz hs' => ⟨_, rfl, wpAny_letOwnedTupleGo_items hit' fun h'' b1 b2 => ?_⟩
  have q1 : HX c [I] s.heap h' := .of_keep (fun b o hb eb => hs' b o (fun z => hb (z ▸ .head _)) eb) (fun y hy => (hf y hy).2.1) fun y hy => (hf y hy).2.2
  have q2 : HX c [I] h' h'' := .sameBut b2 hIb hIf
  have q : HX c [I] s.heap h'' := q1.trans q2
  have hY : ∀ y ∈ [I], y ∈ X := fun y hy => lS hy ▸ hI
  have hT : s.heap.objs.size ≠ I := Nat.ne_of_gt (Heap.lt_size h1)
  have hT' : h''.get? s.heap.objs.size = some { cls := .type "tuple", data := .seq #[key, v] } := (b2.2 _ hT).trans htup
  refine ⟨h'', s.toks, q, ⟨vs, ep, _, _, b1, h2, DictAt.hx q h2 hY hF h3, h4, h5.hx q hF hY⟩, ?_⟩
  exact ⟨s.heap.objs.size, [key, v], _, ⟨_, hT', rfl, _, rfl⟩, .cons (dk.rd c.prog k0 key hkey X h'') (.cons (rv.hx q hF hY) .nil)⟩
 done := fun A s X hh st hf => by
  obtain ⟨vs, ep, ok, ov, h1, h2, h3, h4, h5⟩ := st
  refine wpAny_pyNext_items_end hh h1 h3 (by simp [itemD, h4, <- h5.length, hl]) fun h' he' => ⟨h', s.toks, ItS.off hf he'⟩
 self := fun A s X i st => by
  obtain ⟨vs, ep, ok, ov, h1, _⟩ := st
  have hT : s.TypeIs (.ref I) "dict_itemiterator" := ⟨_, h1, rfl⟩
  refine wpAny_pyIter_slot hT PySem.F.slot_dict_itemiterator_iter (wpAny_call_entry PySem.F.slot_dict_itemiterator_iter hT ent_itemiter ?_ (PySem.F.args_dict_itemiterator_iter_1 _))
  show wpAny _ _ (ret (.ref I)) _ _ s
  exact wP ⟨_, rfl, "dict_itemiterator", _, hT, PySem.F.slot_dict_itemiterator_next.lookup, rfl, rfl⟩
theorem EvI.ofItems (dk : DKey c.w K) {o : Expr} {apos pos : Pos} {ks : List K} {ds : List PyData} (hsys : sysModules ∈ c.fr) (hl : ks.length = ds.length) (h : Ev c l X env Γ o (.dict ((ks.map dk.enc).zip ds)))
  (hbase : autoParam (attributeBase o "items" env (eval o env) = eval o env) aR) (hline : autoParam ((apos.endLine == pos.line) = true) aR) : EvI c l X env Γ true (.Call (.Attribute o "items" apos) [] [] pos) (itemD dk.enc ks ds) := fun A s L G => by
 refine mcall0 PySem.F.plainAttrs_dict PySem.F.slot_dict_items PySem.F.type_dict_items (h.use L G fun v s1 p1 r1 G1 => ?_) hbase hline
 obtain ⟨a, vs, ha, hd, q, e⟩ := r1.toDict dk hl
 have hne : (a == sysModules) = false := by
  have : a ≠ sysModules := fun z => ha (z ▸ G1.bas.frs _ hsys)
  simpa using this
 refine ⟨hd.typeIs, fun a' ha' => by cases ha'; exact hd.mapOf.noDict _ rfl, ?_⟩
 refine call_meetsIn PySem.F.slot_dict_items hd.typeIs PySem.F.entry_dict_items (PySem.F.args_dict_items_1 _) (meets_dict_items (dk.knd c.prog) a hne) ⟨⟨_, hd⟩, ?_⟩
 obtain ⟨ep, hd⟩ := hd.dictAt
 have hd1 := hd.push { cls := .type "dict_items", data := .fields #[.ref a] }
 refine wpAny_pyIter_items (v := s1.heap.objs.size) ⟨_, hP _ rfl, rfl, rfl⟩ hd1 ?_
 obtain ⟨o2, es, e2, r2⟩ := id hd
 have q1 : ∀ o1 o2, HX c [] s1.heap ((s1.heap.push o1).push o2) := fun o1 o2 => (HX.push _ _).trans (HX.push _ _)
 refine ⟨p1.trans ⟨_, s1.toks, q1 _ _⟩, _, [_], StM c dk _ a ks ds, its_items hl, ⟨vs, ep, .none, .none, hP _ rfl, ?_, hd1.push _, e.symm, ?_⟩, ?_⟩
 ·exact off_fresh (by rw [Heap.size_push]; omega) ha e2
 ·refine (q.wide fun b hb => ?_).hx0 (q1 _ _) fun b hb => lR _ (G1.bas.frs b hb)
  rcases lA hb with z | z
  ·rw [lS z]
   exact .inr (fresh_ge (by rw [Heap.size_push]; omega))
  ·exact .inl z
 ·intro b hb
  rw [lS hb]
  exact p1.hx.none_of (fun z => nomatch z) (fresh_ge (by show _ <= _; rw [Heap.size_push]; omega))
inductive StV (c : Cfg) (dk : DKey c.w K) (I d : Addr) (ks : List K) (ds : List PyData) (X : List Addr) (i : Nat) (h : Heap) : Prop
 | mk (vs : List Value) (ep : Nat) (it : h.IsValIter I d i (ks.zip vs).length ep) (off : d ∉ X) (at_ : h.DictAt (dk.knd c.prog) d (ks.zip vs) ep) (len : ks.length = vs.length) (r : RdL c.w X h vs ds)
theorem its_vals {dk : DKey c.w K} {I d : Addr} {ks : List K} {ds : List PyData} (hl : ks.length = ds.length) : ItS c false I [I] ds (StV c dk I d ks ds) where
 alive := fun X i h st a ha => by
  obtain ⟨vs, ep, ⟨o, e, _⟩, _⟩ := st
  rw [lS ha]
  exact ⟨_, e⟩
 keep := fun X i h h' Y st q hF hy => by
  obtain ⟨vs, ep, ⟨o, e, r⟩, h2, h3, h4, h5⟩ := st
  obtain ⟨o', e', cl', _, d'⟩ := q.get (fun z => (hy _ z).2 (.head _)) e
  exact ⟨vs, ep, ⟨o', e', cl'.trans r.1, d'.trans r.2⟩, h2, DictAt.hx q h2 (fun y z => (hy y z).1) (fun a z => (hF a z).1) h3, h4, h5.hx q (fun a z => (hF a z).1) fun y z => (hy y z).1⟩
 wide := fun X X' i h st hy => by
  obtain ⟨vs, ep, h1, h2, h3, h4, h5⟩ := st
  obtain ⟨o2, es, e2, r2⟩ := id h3
  exact ⟨vs, ep, h1, fun z => (hy _ z).elim h2 fun e => (by rw [e] at e2; cases e2), h3, h4, h5.wide hy⟩
 item := fun A s X i dd tg hh ht st hf hF hd => by
  obtain ⟨vs, ep, h1, h2, h3, h4, h5⟩ := st
  obtain ⟨v, hv, rv⟩ := h5.get _ hd
  have hi : i < ks.length := by rw [h4]; exact (List.getElem?_eq_some_iff.mp hv).1
  have hz : (ks.zip vs)[i]? = some (ks[i], v) := by rw [List.getElem?_zip_eq_some]; exact ⟨List.getElem?_eq_getElem hi, hv⟩
  obtain ⟨hI, hIb, hIf⟩ := hf I (.head _)
  obtain ⟨x, p⟩ := tg_name ht
  have hY : ∀ y ∈ [I], y ∈ X := fun y hy => lS hy ▸ hI
  refine wpAny_pyNext_values_item h1 h3 hz fun h' hit' hs' => ⟨v, rfl, go_name ?_⟩
  have q : HX c [I] s.heap h' := .sameBut hs' hIb hIf
  exact ⟨h', s.toks, q, ⟨vs, ep, hit', h2, DictAt.hx q h2 hY hF h3, h4, h5.hx q hF hY⟩, rv.hx q hF hY⟩
 done := fun A s X hh st hf => by
  obtain ⟨vs, ep, h1, h2, h3, h4, h5⟩ := st
  refine wpAny_pyNext_values_end hh h1 h3 (by simp [h4, <- h5.length]) fun h' he' => ⟨h', s.toks, ItS.off hf he'⟩
 self := fun A s X i st => by
  obtain ⟨vs, ep, h1, _⟩ := st
  exact wpAny_pyIter_valiter h1 ⟨rfl, rfl⟩
theorem EvI.ofVals (dk : DKey c.w K) {o : Expr} {apos pos : Pos} {ks : List K} {ds : List PyData} (hsys : sysModules ∈ c.fr) (hl : ks.length = ds.length) (h : Ev c l X env Γ o (.dict ((ks.map dk.enc).zip ds)))
  (hbase : autoParam (attributeBase o "values" env (eval o env) = eval o env) aR) (hline : autoParam ((apos.endLine == pos.line) = true) aR) : EvI c l X env Γ false (.Call (.Attribute o "values" apos) [] [] pos) ds := fun A s L G => by
 refine mcall0 PySem.F.plainAttrs_dict PySem.F.slot_dict_values PySem.F.type_dict_values (h.use L G fun v s1 p1 r1 G1 => ?_) hbase hline
 obtain ⟨a, vs, ha, hd, q, e⟩ := r1.toDict dk hl
 have hne : (a == sysModules) = false := by
  have : a ≠ sysModules := fun z => ha (z ▸ G1.bas.frs _ hsys)
  simpa using this
 refine ⟨hd.typeIs, fun a' ha' => by cases ha'; exact hd.mapOf.noDict _ rfl, ?_⟩
 refine call_meetsIn PySem.F.slot_dict_values hd.typeIs PySem.F.entry_dict_values (PySem.F.args_dict_values_1 _) (meets_dict_values (dk.knd c.prog) a hne) ⟨⟨_, hd⟩, ?_⟩
 obtain ⟨ep, hd⟩ := hd.dictAt
 have hd1 := hd.push { cls := .type "dict_values", data := .fields #[.ref a] }
 refine wpAny_pyIter_values (v := s1.heap.objs.size) ⟨_, hP _ rfl, rfl, rfl⟩ hd1 ?_
 obtain ⟨o2, es, e2, r2⟩ := id hd
 have q1 : ∀ o1 o2, HX c [] s1.heap ((s1.heap.push o1).push o2) := fun o1 o2 => (HX.push _ _).trans (HX.push _ _)
 refine ⟨p1.trans ⟨_, s1.toks, q1 _ _⟩, _, [_], StV c dk _ a ks ds, its_vals hl, ⟨vs, ep, ⟨_, hP _ rfl, rfl, rfl⟩, ?_, hd1.push _, e.symm, ?_⟩, ?_⟩
 ·exact off_fresh (by rw [Heap.size_push]; omega) ha e2
 ·refine (q.wide fun b hb => ?_).hx0 (q1 _ _) fun b hb => lR _ (G1.bas.frs b hb)
  rcases lA hb with z | z
  ·rw [lS z]
   exact .inr (fresh_ge (by rw [Heap.size_push]; omega))
  ·exact .inl z
 ·intro b hb
  rw [lS hb]
  exact p1.hx.none_of (fun z => nomatch z) (fresh_ge (by show _ <= _; rw [Heap.size_push]; omega))
end
end
section
section
variable {K : Act} {A : Around} {s0 : Shared} {E : Err} {X : List Addr} {Γ Γ' : Gam} {R R' : Ros} {Δ Δ' : Del K} {ss : List Stmt} {O O' : Out K -> Prop} {s s' : Shared} {L : AObs} {F : Frag} {κ : Type} [DecidableEq κ]
theorem memRes {a : Addr} {D : Desc} (h : (a, D) ∈ L) : resA K.c a D ∈ delA K.c L ++ Δ := lL _ (lM (f := fun p => resA K.c p.1 p.2) h)
theorem Ev.g {c : Cfg} {l : Nat} {env : Env} {x : Str} {pos : Pos} {v : Value} {d : PyData} (hg : Glb c x v) (r : ∀ h, Rd c.w X h v d) (hf : autoParam (env.kindOf x = some .globalImplicit) aR) (hd : autoParam ((x == ("__debug__" : Str)) = false) aK) : Ev c l X env Γ (.Name x pos) d := fun A s L G =>
 wpAny_Name (hg A _ s env _ G.bas.stays G.globals G.builtins G.kind hf ⟨.refl, r _⟩) hd
theorem EvS.callV {f : Str} {np pos : Pos} {e : Expr} {D : Addr} {d1 d : PyData} (h : Fn K.c K.l f [d1] d) (ha : EvS K A s0 E Γ R (delA K.c L ++ Δ) e (opq D)) (hD : (D, .data d1) ∈ L) (hsafe : safeD d = true) (hf : autoParam (K.env.kindOf f = some .globalImplicit) aR)
  (hd : autoParam ((f == ("__debug__" : Str)) = false) aK) (he : autoParam (starEach [e] K.env = (false, eval e K.env) :: starEach [] K.env) aR) : EvS K A s0 E Γ R (delA K.c L ++ Δ) (.Call (.Name f np) [e] [] pos) d := fun s X S => by
 obtain ⟨v, g, k, h⟩ := h
 refine wpAny_Call_ofName (wpAny_Name (g A _ s K.env _ S.good.bas.stays S.good.globals S.good.builtins S.good.kind hf ?_) hd)
 show wpAny K.c.M A (callWith pos v [] (backTo pos (starEach [e] K.env)) []) _ _ s
 rw [he]
 refine callWith_of (P := fun h => K.c.base.StaysIn h) rfl k (evalArgs_plain (Calls.spliced_cons (ha.ref S fun s1 S1 => Calls.spliced_nil ⟨S1.good.bas.stays, ?_⟩)))
 have hR := S1.res _ (memRes hD)
 have fq := S1.fps _ (memRes hD) D (.head _)
 have hF : ∀ a ∈ K.c.fr, a ∈ X.filter (· ≠ D) := fun a ha => in_without (S1.good.bas.frs a ha) fun e => fq.2.2.2 (e ▸ ha)
 have B1 : Bas K.c A (X.filter (· ≠ D)) s1.heap := { S1.good.bas with alloc := fun a ha => S1.good.bas.alloc a (without a ha), frs := hF }
 refine noE_any (wK (h A (X.filter (· ≠ D)) s1 [.ref D] S1.lev B1 (.cons (Own1.rd hR not_without without) .nil)) (fun w s2 r => ?_))
 have S2 := S1.pst r.1
 refine ⟨S2, r.2.safe hsafe fun a vs n e ha => in_without ha fun z => ?_⟩
 exact offTup (c := K.c) (p := (D, .data d1)) (S2.res _ (memRes hD)) (b := D) (.head _) (z ▸ e)
theorem EvS.dsub (dk : DKey K.c.w κ) {o e : Expr} {pos : Pos} {D : Addr} {kvs : List (κ × PyData)} {k : κ} {d : PyData} (ho : EvS K A s0 E Γ R (delA K.c L ++ Δ) o (opq D)) (he : EvS K A s0 E Γ R (delA K.c L ++ Δ) e (dk.enc k)) (hD : (D, .data (dD dk.enc kvs)) ∈ L) (hk : kget kvs k = some d)
  (hs : ∀ o i, subscripted e false o i = operate [o, i] (getItem o i) := by intro _ _; with_unfolding_all rfl) :
  EvS K A s0 E Γ R (delA K.c L ++ Δ) (.Subscript o e pos) d := fun s X S => by
 refine Subscript_ (ho.ref S fun s1 S1 => ?_)
 refine he.go S1 fun v s2 S2 r2 => ?_
 obtain ⟨vs, dd, r, _⟩ := S2.dct dk hD
 obtain ⟨u, hz, g⟩ := (kget_rd (k := k) r).two.2.2 _ hk
 exact tail_any dd.typeIs slot_dict_getitem.lookup (wpAny_getItem_of (dk.dr K.c.prog k _ _ _ r2) dd.mapOf hz ⟨S2.pst .tk, g⟩) (hs _ _)
theorem Ex1.clearF {o : Expr} {apos cpos pos : Pos} {D : Addr} {ds : List PyData} (ho : EvS K A s0 E Γ R (delA K.c L ++ Δ) o (opq D)) (hD : (D, .data (.list ds)) ∈ L) (hz : ds.length <= 10 ^ 6)
  (hline : autoParam ((apos.endLine == cpos.line) = true) aR) (hi : autoParam (interactive K.env = false) aR) (hsw : autoParam (swapsWith (.Call (.Attribute o "clear" apos) [] [] cpos) none pos.line K.env = pure false) aR)
  (hbase : autoParam (attributeBase o "clear" K.env (eval o K.env) = eval o K.env) aR) :
  Ex1 K A s0 E Γ R (delA K.c L ++ Δ) (.Expr (.Call (.Attribute o "clear" apos) [] [] cpos) pos) (nextO Γ R (delA K.c (updA L D (.data (.list []))) ++ Δ)) := fun s X S => by
 refine wpAny_Expr ?_ hi hsw
 refine mcall0 PySem.F.plainAttrs_list PySem.F.slot_list_clear PySem.F.type_list_clear (ho.ref S fun s1 S1 => ?_) hbase hline
 obtain ⟨vs, n, e1, r⟩ := S1.lst hD
 refine ⟨⟨_, e1, rfl⟩, fun a ha => ⟨_, (by cases ha; exact e1), rfl⟩, ?_⟩
 have fq := S1.fps _ (memRes hD) D (.head _)
 have hT : s1.TypeIs (.ref D) "list" := ⟨_, e1, rfl⟩
 refine call_meets PySem.F.slot_list_clear hT PySem.F.entry_list_clear (PySem.F.args_list_clear_1 _) (AutoSeq1.list_clear_list_0 D vs.toArray n (by rw [List.size_toArray, r.length, sizeLine_eq]; omega)) ⟨e1, ?_⟩
 have hs' : Heap.SameBut D s1.heap (s1.heap.update D (Obj.mapSeq fun _ => #[])) := Heap.SameBut.update ..
 have e' := Heap.get?_update_self (Obj.mapSeq fun _ => #[]) e1 rfl
 have q : HX K.c [D] s1.heap (s1.heap.update D (Obj.mapSeq fun _ => #[])) := .sameBut hs' (S1.base D fq.2.1) fq.2.2.2
 exact ⟨X, _, _, _, rfl, S1.updA (tk := s1.toks) hD (Y := [D]) rfl (fun y hy => lS hy ▸ .head _) q ⟨[], _, e', .nil⟩⟩
end
end
section
noncomputable def resIt (c : Cfg) (I D : Addr) (i : Nat) : Res c where
 fp := [I]
 P := fun X h => h.IsListIter I D i
 alive := fun X h e a ha => by
  obtain ⟨o, e, _⟩ := e
  rw [lS ha]; exact ⟨_, e⟩
 keep := fun X h h' Y e x hF hy => x.listIter (fun z => (hy _ z).2 (.head _)) e
 wide := fun X X' h e _ => e
section
variable {K : Act} {A : Around} {s0 : Shared} {E : Err} {X : List Addr} {Γ Γ' : Gam} {R R' : Ros} {Δ Δ' : Del K} {ss : List Stmt} {O O' : Out K -> Prop} {s s' : Shared} {L : AObs} {F : Frag}
theorem Sat.takeIt (S : Sat K X Γ R Δ A s0 s) {s' : Shared} (p : Pst K.c s s') {I D : Addr} {i : Nat} (hD : s.heap.get? I = none) (ho : s'.heap.IsListIter I D i) : Sat K (I :: X) Γ R (resIt K.c I D i :: Δ) A s0 s' := by
 have fq := S.off hD
 obtain ⟨h', tk, q⟩ := p
 have S' : Sat K (I :: X) Γ R Δ A s0 { s with heap := h', toks := tk } := S.grow (fun a ha => (lC ha).elim (fun e => .inr (e ▸ hD)) .inl) (fun a ha => .tail _ ha) q fun a ha => (lC ha).elim (fun e => e ▸ (let ⟨o, e, _⟩ := ho; ⟨o, e⟩)) fun z => q.alive (fun z => nomatch z) (S.good.bas.alloc a z)
 exact S'.add (resIt K.c I D i) ho (fun a ha => by rw [lS ha]; exact ⟨.head _, fq.2.1, fq.2.2.1, fq.2.2.2.1⟩) fun r hr a ha => by rw [lS ha]; exact fq.2.2.2.2 r hr
inductive ForDI (K : Act) (A : Around) (s0 : Shared) (I D : Addr) (Δ : Del K) (Inv : Nat -> Gam -> Ros -> AObs -> Prop) (N n : Nat) (s : Shared) : Prop
 | mk (i : Nat) (X : List Addr) (Γ : Gam) (R : Ros) (L : AObs) (hn : n + i = N) (inv : Inv i Γ R L) (S : Sat K X Γ R (resIt K.c I D i :: (delA K.c L ++ Δ)) A s0 s)
theorem turnD {K : Act} {o : Out K} {Inv : Gam -> Ros -> AObs -> Prop} {r : Res K.c} {Δ : Del K} (h : ∃ Γ' R' L', (o = .next Γ' R' (delA K.c L' ++ r :: Δ) \/ o = .cont Γ' R' (delA K.c L' ++ r :: Δ)) /\ Inv Γ' R' L') : match o with
  | .next Γ R D => ∃ L', D = delA K.c L' ++ r :: Δ /\ Inv Γ R L'
  | .cont Γ R D => ∃ L', D = delA K.c L' ++ r :: Δ /\ Inv Γ R L'
  | _ => False := by
 obtain ⟨_, _, L', rfl | rfl, h⟩ := h
 ·exact ⟨L', rfl, h⟩
 ·exact ⟨L', rfl, h⟩
theorem Ex1.forD {x : Str} {p pos : Pos} {iter : Expr} {body : List Stmt} {ds : List PyData} {D : Addr} (Inv : Nat -> Gam -> Ros -> AObs -> Prop) (O : Out K -> Prop)
  (hI : EvS K A s0 E Γ R (delA K.c L ++ Δ) iter (opq D)) (hfl : ∀ d ∈ ds, flat d = true) (h0 : Inv 0 Γ' R' L) (hg : ∀ p ∈ Γ', p ∈ Γ) (hr : ∀ p ∈ R', p ∈ R) (hx0 : X0ok K s0)
  (hoff : ∀ i Γ R L, Inv i Γ R L -> offN [x] Γ /\ (∀ p ∈ R, p.1 ∉ [x]) /\ (D, .data (.list ds)) ∈ L)
  (hb : ∀ i d Γ R L (r : Res K.c), ds[i]? = some d -> Inv i Γ R L -> Ex K A s0 E ((x, d) :: Γ) R (delA K.c L ++ r :: Δ) body fun o => ∃ Γ' R' L', (o = .next Γ' R' (delA K.c L' ++ r :: Δ) \/ o = .cont Γ' R' (delA K.c L' ++ r :: Δ)) /\ Inv (i + 1) Γ' R' L')
  (hend : ∀ Γ R L, Inv ds.length Γ R L -> O (.next Γ R (delA K.c L ++ Δ)))
  (hsub : autoParam (subB [x] K.xs = true) aK) (hdb : autoParam ((x == ("__debug__" : Str)) = false) aK) (hfold : ∀ x, foldedSetIterable iter K.env x = pure x := by intro _; rfl) (hE : PassesOwn K.c.M A K.env E := by exact fun _ _ f => f.elim) :
  Ex1 K A s0 E Γ R (delA K.c L ++ Δ) (.For (.Name x p) iter body [] pos) O := fun s X S => by
 refine wpAny_For (hI.ref S fun s1 S1 => ?_) hfold
 obtain ⟨vs1, n1, e1, q1⟩ := S1.lst (hoff _ _ _ _ h0).2.2
 refine wpAny_pyIter_list ⟨_, e1, rfl, _, rfl⟩ ?_
 have hIn : s1.heap.get? s1.heap.objs.size = none := fresh_ge (Nat.le_refl _)
 have S2 : Sat K (s1.heap.objs.size :: X) Γ R (resIt K.c s1.heap.objs.size D 0 :: (delA K.c L ++ Δ)) A s0 { s1 with heap := s1.heap.push { cls := .type "list_iterator", data := .fields #[.ref D, .int 0 0] } } := S1.takeIt .push' hIn ⟨_, hP _ rfl, rfl, rfl⟩
 generalize s1.heap.objs.size = I at S2
 refine loopG rfl (fun n s' => ForDI K A s0 I D Δ Inv ds.length n s') (fun n s' Q hI' hn hd' hc => ?_) ds.length ⟨0, _, Γ', R', L, rfl, h0, S2.weak hg hr (List.Sublist.refl _)⟩
 obtain ⟨i, X4, Γ4, R4, L4, hni, inv, S4⟩ := hI'
 show wpAny K.c.M A ((forTurn (.Name x p) (.ref I) body [] K.env).onRaise (fun x => do noteFrame x K.env; theTreesLotGoes x)) _ _ s'
 refine wpAny_noted ?_
 simp only [forTurn]
 have hf4 := S4.fps _ (.head _) I (.head _)
 obtain ⟨o1, o2, o3⟩ := hoff _ _ _ _ inv
 have st4 : s'.heap.IsListIter I D i := S4.res _ (.head _)
 have S4' : Sat K X4 Γ4 R4 (delA K.c L4 ++ resIt K.c I D i :: Δ) A s0 s' := S4.perm perm_loop
 obtain ⟨vs, n4, e4, q4⟩ := S4'.lst o3
 have hL : s'.heap.IsList D vs.toArray := ⟨_, e4, rfl, _, rfl⟩
 refine wB (wpAny_standAt (wB (wpAny_onRaise ?_)))
 cases hd : ds[i]? with
 | none =>
  have hi : i = ds.length := by
   have := List.getElem?_eq_none_iff.mp hd
   omega
  subst hi
  refine wpAny_pyNext_list_end S4.good.bas.handled st4 hL (by simp [q4.length]) fun h' he' => ?_
  refine wP (hc _ _ rfl (codeAny_block (wpAny_execs_nil ⟨_, _, _, _, hend _ _ _ inv, S4.drop (tk := s'.toks) hx0 (.of_keep (fun b o hb e => he' b o (fun z => hb (z ▸ .head _)) e) (fun y hy => ?_) fun y hy => ?_)⟩)))
  ·rw [lS hy]; exact S4.base I hf4.2.1
  ·rw [lS hy]; exact hf4.2.2.2
 | some d =>
  have hi : i < ds.length := by
   cases Nat.lt_or_ge i ds.length with
   | inl h => exact h
   | inr h => rw [List.getElem?_eq_none h] at hd; cases hd
  have hdm : d ∈ ds := lG hd
  obtain ⟨v, hv, rv⟩ := q4.get _ hd
  refine wpAny_pyNext_list_item st4 hL (x := v) (by simpa using hv) fun h' hit' hs' => ?_
  dsimp only
  refine wB (go_name ?_)
  have q : HX K.c [I] s'.heap h' := .sameBut hs' (S4.base I hf4.2.1) hf4.2.2.2
  have S5 : Sat K X4 Γ4 R4 (resIt K.c I D (i + 1) :: (delA K.c L4 ++ Δ)) A s0 { s' with heap := h' } := S4.change (r := resIt K.c I D i) (r' := resIt K.c I D (i + 1)) (tk := s'.toks) rfl q hit'
  refine wB (wK (S5.bind (pair := false) (.name hdb) (rv.flat (hfl d hdm)) (sub_of hsub) o1 o2) (fun _ s3 S6 => ?_))
  refine wB (wK (wpAny_passesOwn hE (hb i d _ _ _ _ hd inv s3 X4 (S6.perm perm_loop))) (fun f s4 hp => ?_))
  have next : ∀ {X Γ R L s}, Inv (i + 1) Γ R L -> Sat K X Γ R (delA K.c L ++ resIt K.c I D (i + 1) :: Δ) A s0 s -> Q (.again _) s := fun h S => hn (n - 1) _ (by omega) ⟨i + 1, _, _, _, _, by omega, h, S.perm perm_loop.symm⟩
  cases f with
  | next =>
   obtain ⟨X, Γ, R, Δ, o, S'⟩ := hp
   obtain ⟨L', rfl, inv'⟩ := turnD o
   exact wP (next inv' S')
  | cont =>
   obtain ⟨X, Γ, R, Δ, o, S'⟩ := hp
   obtain ⟨L', rfl, inv'⟩ := turnD o
   exact wP (next inv' S')
  | brk =>
   obtain ⟨X, Γ, R, Δ, o, S'⟩ := hp
   exact (turnD o).elim
  | ret v =>
   obtain ⟨d, o, S'⟩ := hp
   exact (turnD o).elim
end
end
section
section
variable {κ : Type} [DecidableEq κ]
noncomputable def npP (v : Int) (n : PN κ) : PN κ := (n.1, v, n.2.2)
noncomputable def outP (ks : List κ) (ns : List (PN κ)) : List (PN κ) := ks.foldl (fun ns k => upP ns k (npP (-1))) ns
noncomputable def npOf (ns : List (PN κ)) (k : κ) : Int := ((ns.find? fun n => n.1 = k).map (·.2.1)).getD 0
noncomputable def suOf (ns : List (PN κ)) (k : κ) : List κ := ((ns.find? fun n => n.1 = k).map (·.2.2)).getD []
noncomputable def sucP (sr : List (PN κ) × List κ) (s : κ) : List (PN κ) × List κ := (upP sr.1 s (npP (npOf sr.1 s - 1)), if npOf sr.1 s - 1 = 0 then sr.2 ++ [s] else sr.2)
noncomputable def doneP1 (sr : List (PN κ) × List κ) (k : κ) : List (PN κ) × List κ := (suOf sr.1 k).foldl sucP (upP sr.1 k (npP (-2)), sr.2)
noncomputable def doneP (ks : List κ) (sr : List (PN κ) × List κ) : List (PN κ) × List κ := ks.foldl doneP1 sr
theorem find_of {ns : List (PN κ)} (hn : (ns.map (·.1)).Nodup) {n : PN κ} (h : n ∈ ns) : ns.find? (fun m => m.1 = n.1) = some n := by
 cases e : ns.find? fun m => m.1 = n.1 with
 | none =>
  have := List.find?_eq_none.mp e n h
  simp at this
 | some m =>
  have h1 := List.mem_of_find?_eq_some e
  have h2 := List.find?_some e
  simp at h2
  rw [injM hn m h1 n h h2]
theorem mem_abs {st : St κ} {n : Nd κ} (h : n ∈ st.nds) : (n.k, n.np, n.su) ∈ st.abs := lM (f := fun n : Nd κ => (n.k, n.np, n.su)) h
theorem npOf_at {st : St κ} (hn : st.keys.Nodup) {n : Nd κ} (h : n ∈ st.nds) : npOf st.abs n.k = n.np := by
 unfold npOf
 rw [find_of (n := (n.k, n.np, n.su)) (by rw [abs_keys]; exact hn) (mem_abs h)]
 rfl
theorem suOf_at {st : St κ} (hn : st.keys.Nodup) {n : Nd κ} (h : n ∈ st.nds) : suOf st.abs n.k = n.su := by
 unfold suOf
 rw [find_of (n := (n.k, n.np, n.su)) (by rw [abs_keys]; exact hn) (mem_abs h)]
 rfl
noncomputable def St.shp (st : St κ) : List (κ × Addr × Addr × List κ) := st.nds.map fun n => (n.k, n.x, n.li, n.su)
theorem shp_upK {st : St κ} {k : κ} {v : Int} : (Srt.upK st k fun m => { m with np := v }).shp = st.shp := Srt.upK_map (g := fun m => { m with np := v }) (fun n => (n.k, n.x, n.li, n.su)) fun _ => rfl
theorem shp_mem {st st' : St κ} (h : st'.shp = st.shp) {n : Nd κ} (hn : n ∈ st.nds) : ∃ m ∈ st'.nds, m.k = n.k /\ m.x = n.x /\ m.li = n.li /\ m.su = n.su := by
 have := lM (f := fun n : Nd κ => (n.k, n.x, n.li, n.su)) hn
 unfold St.shp at h
 rw [<- h] at this
 obtain ⟨m, hm, e⟩ := List.mem_map.mp this
 simp only [Prod.mk.injEq] at e
 exact ⟨m, hm, e⟩
theorem shp_keys {st st' : St κ} (h : st'.shp = st.shp) : st'.keys = st.keys := by
 have := congrArg (List.map (fun p : κ × Addr × Addr × List κ => p.1)) h
 unfold St.shp at this
 rw [List.map_map, List.map_map] at this
 exact this
end
end
section
theorem key_none0 {w : World} {es : List DictEntry} {ks : List PyData} (hk : KeysAre w es (.none :: ks)) : False := by
 cases hk with | cons q _ => exact q.elim
theorem instD_inj {C C' : Addr} {ns ns' : List Str} {is is' : List Nat} {ks ks' ds ds' : List PyData} (e : instD C ns is ks ds = instD C' ns' is' ks' ds') : C = C' /\ ns = ns' /\ is = is' /\ ks = ks' /\ ds = ds' := by
 have e := List.cons.inj (PyData.list.inj (Prod.mk.inj (List.cons.inj (PyData.dict.inj e)).1).2)
 have e2 := List.cons.inj e.2
 have e3 := List.cons.inj e2.2
 have e4 := List.cons.inj e3.2
 have e5 := List.cons.inj e4.2
 exact ⟨Int.ofNat.inj (PyData.int.inj e.1), (List.map_inj_right fun _ _ e => PyData.str.inj e).mp (PyData.list.inj e2.1), (List.map_inj_right fun _ _ e => Int.ofNat.inj (PyData.int.inj e)).mp (PyData.list.inj e3.1), PyData.list.inj e4.1, PyData.list.inj e5.1⟩
inductive InsI (w : World) (X : List Addr) (h : Heap) (C : Addr) (ns : List Str) (is : List Nat) (ks ds : List PyData) : Value -> Prop
 | mk (a dx : Addr) (sl : Array (Option Value)) (es : List DictEntry) (n : Nat) (us ws : List Value) (e1 : h.get? a = some (instO C dx sl)) (e2 : h.get? dx = some (dictOf es n)) (k1 : ∀ p ∈ ns.zip us, getL p.1 es = some (some p.2)) (k2 : ∀ p ∈ is.zip ws, (sl[p.1]?).join = some p.2) (q1 : RdL w X h us ks) (q2 : RdL w X h ws ds) : InsI w X h C ns is ks ds (.ref a)
theorem rd_inst {w : World} {X : List Addr} {h : Heap} {v : Value} {C : Addr} {ns : List Str} {is : List Nat} {ks ds : List PyData} (r : Rd w X h v (instD C ns is ks ds)) : InsI w X h C ns is ks ds v := by
 have hz : RdD w X h _ v := r.inv
 cases hz with
 | dict _ _ _ _ _ k => exact (key_none0 k).elim
 | opq b e => exact nomatch (Prod.mk.inj (List.cons.inj e).1).2
 | tys e => exact nomatch (Prod.mk.inj (List.cons.inj e).1).2
 | inst a C' dx sl es n us ws ks' ds' ns' is' e ha hx e1 e2 k q1 q2 =>
  obtain ⟨rfl, rfl, rfl, rfl, rfl⟩ := instD_inj (congrArg PyData.dict e)
  exact ⟨a, dx, sl, es, n, us, ws, e1, e2, k.1, k.2, q1, q2⟩
theorem zip_get {α β : Type} {as : List α} {bs : List β} {i : Nat} {a : α} {b : β} (h1 : as[i]? = some a) (h2 : bs[i]? = some b) : (a, b) ∈ as.zip bs := lG (List.getElem?_zip_eq_some.mpr ⟨h1, h2⟩)
section
variable {c : Cfg} {l : Nat} {X : List Addr} {env : Env} {Γ : Gam} {F : Frag}
theorem Ev.fldI {e : Expr} {name : Str} {pos : Pos} {C : Addr} {ns : List Str} {is : List Nat} {ks ds : List PyData} {d : PyData} (j : Nat) (hF : F.In c.base) (h : Ev c l X env Γ e (instD C ns is ks ds)) (hj : ns[j]? = some name) (hd : ks[j]? = some d) (hk : okA F C name = true)
  (hn : AttrOk env e name pos := by with_unfolding_all rfl) : Ev c l X env Γ (.Attribute e name pos) d := fun A s L G =>
 Attribute_any_ (h.use L G fun v s1 p1 r1 G1 => by
  have hz := rd_inst r1; clear r1; obtain ⟨a, dx, sl, es, n, us, ws, e1, e2, k1, k2, q1, q2⟩ := hz
  obtain ⟨v, hv, r⟩ := q1.get j hd
  obtain ⟨o1, o2, o3, o4, o5, o6⟩ := okA_inv hk
  have hX : F.In s1.heap := fun a o e => G1.bas.inBase (hF a o e)
  exact getA hX (inst_at e1 e2) o1 o2 o3 rfl (k1 _ (zip_get hj hv)) (handed_rd r) ⟨p1.trans .tk, r⟩) hn
theorem Ev.sltI {e : Expr} {name : Str} {pos : Pos} {C p : Addr} {i : Nat} {ns : List Str} {is : List Nat} {ks ds : List PyData} {d : PyData} (j : Nat) (hF : F.In c.base) (h : Ev c l X env Γ e (instD C ns is ks ds)) (hj : is[j]? = some i) (hd : ds[j]? = some d) (hk : okSl F C name p i = true)
  (hn : AttrOk env e name pos := by with_unfolding_all rfl) : Ev c l X env Γ (.Attribute e name pos) d := fun A s L G =>
 Attribute_any_ (h.use L G fun v s1 p1 r1 G1 => by
  have hz := rd_inst r1; clear r1; obtain ⟨a, dx, sl, es, n, us, ws, e1, e2, k1, k2, q1, q2⟩ := hz
  obtain ⟨v, hv, r⟩ := q2.get j hd
  obtain ⟨o1, o2, o3, o4, o5, o6, o7, o8, o9, o10, o11⟩ := okSl_inv hk
  have hX : F.In s1.heap := fun a o e => G1.bas.inBase (hF a o e)
  exact getS hX (inst_at e1 e2) o1 o2 o3 o4 o5 o6 (k2 _ (zip_get hj hv)) (handed_rd r) ⟨p1.trans .tk, r⟩) hn
theorem Ev.dsubD {κ : Type} [DecidableEq κ] (dk : DKey c.w κ) {o e : Expr} {pos : Pos} {kvs : List (κ × PyData)} {k : κ} {d : PyData} (ho : Ev c l X env Γ o (dD dk.enc kvs)) (he : Ev c l X env Γ e (dk.enc k)) (hk : kget kvs k = some d)
  (hs : ∀ o i, subscripted e false o i = operate [o, i] (getItem o i) := by intro _ _; with_unfolding_all rfl) : Ev c l X env Γ (.Subscript o e pos) d := fun A s L G =>
 Subscript_ (ho.use L G fun v s1 p1 r1 G1 => he.use L G1 fun u s2 p2 r2 G2 => by
  have r1' := r1.hx0 p2.hx G.bas.frs
  rw [dD_eq] at r1'
  obtain ⟨a, vs, ha, dd, r, e⟩ := r1'.toDict dk (by simp)
  obtain ⟨v, hz, g⟩ := (kget_rd (k := k) r).two.2.2 _ hk
  exact tail_any dd.typeIs slot_dict_getitem.lookup (wpAny_getItem_of (dk.dr c.prog k _ _ _ r2) dd.mapOf hz ⟨(p1.trans p2).trans .tk, g⟩) (hs _ _))
end
theorem fnC_ok {c : Cfg} {l : Nat} {a : Addr} {fd : FuncData} {body : List Stmt} {ps : List Str} {ds : List PyData} {d : PyData} (F : FnAt c a fd body) (hok : fnOk fd.scope ps = true) (hlen : ps.length = ds.length) (hl : l < 60) (hbind : ∀ vs : List Value, vs.length = ps.length -> bindArgs fd ⟨vs, []⟩ = pure (ps.zip vs))
  (h : ∀ (A : Around) (s0 : Shared) (L : Addr) (X : List Addr), X0ok (fnAct c l fd L a X) s0 -> (∃ outer, A.frames = some ((fnAct c l fd L a X).env :: outer)) -> Ex (fnAct c l fd L a X) A s0 NoE (ps.zip ds) [] [] body fun o => o = .ret d \/ (d = .none /\ ∃ Γ R Δ, o = .next Γ R Δ)) :
  ∀ A X s vs, Lev l A -> Bas c A X s.heap -> RdL c.w X s.heap vs ds -> codeAny c.M A (.call (.ref a) ⟨vs, []⟩) (retR (Yield c X s d)) s := fun A X s vs LA B r => by
 have hvl : vs.length = ps.length := by rw [r.length, hlen]
 refine fn_all (args := ⟨vs, []⟩) F hok LA B ?_
 rw [hbind vs hvl]
 refine wP ⟨.refl, vs, rfl, hvl, fun s2 x => ?_⟩
 have S := enter F hok hlen hl LA B r x
 refine wK (h _ s s.heap.objs.size X B.alloc (let ⟨o, b, _⟩ := B.below; ⟨o, Around.frames_deeper b.stack⟩) s2 _ S) (fun f s' hp => ?_)
 have hLn : s.heap.get? s.heap.objs.size = none := fresh_ge (Nat.le_refl _)
 cases f with
 | next =>
  obtain ⟨X', Γ, R, Δ, o, S'⟩ := hp
  rcases o with o | ⟨rfl, _⟩
  ·cases o
  ·obtain ⟨h', tk⟩ := S'.same
   exact ⟨⟨h', tk, S'.hx.pop hLn⟩, .none⟩
 | brk => obtain ⟨X', Γ, R, Δ, o, S'⟩ := hp; rcases o with o | ⟨_, Γ, R, Δ, o⟩ <;> cases o
 | cont => obtain ⟨X', Γ, R, Δ, o, S'⟩ := hp; rcases o with o | ⟨_, Γ, R, Δ, o⟩ <;> cases o
 | ret v =>
  obtain ⟨d', o, ⟨X', Δ', S', _⟩, rv⟩ := hp
  rcases o with o | ⟨_, Γ, R, Δ, o⟩
  ·cases o
   obtain ⟨h', tk⟩ := S'.same
   exact ⟨⟨h', tk, S'.hx.pop hLn⟩, rv⟩
  ·cases o
theorem filter_fp {X fp : List Addr} : ∀ a ∈ X.filter (· ∉ fp), a ∈ X /\ a ∉ fp := fun a ha => ⟨(List.mem_filter.mp ha).1, by simpa using (List.mem_filter.mp ha).2⟩
theorem FnA.ofC {c : Cfg} {l : Nat} {f S : Addr} {d0 r : PyData} {L : AObs} (hr : flat r = true) (hc : ∀ A X s vs, Lev l A -> Bas c A X s.heap -> RdL c.w X s.heap vs [d0] -> codeAny c.M A (.call (.ref f) ⟨vs, []⟩) (retR (Yield c X s r)) s)
  (hv : ∀ X h, (∀ a ∈ c.fr, a ∈ X) -> LentA c X h L -> Rd c.w (X.filter (· ∉ fpA L)) h (.ref S) d0) : FnA c l f [opq S] L (fun d L' => d = r /\ L' = L) := fun A X s vs LA B r1 Ln => by
 have hz := r1.one_inv; clear r1; obtain ⟨_, r1⟩ := hz
 rw [rd_opq r1]
 have hF : ∀ a ∈ c.fr, a ∈ X.filter (· ∉ fpA L) := fun a ha => List.mem_filter.mpr ⟨B.frs a ha, by simpa using fun z => (Ln.off a z).2.2 ha⟩
 have B1 : Bas c A (X.filter (· ∉ fpA L)) s.heap := ⟨B.handled, B.below, fun a ha => B.alloc a (filter_fp a ha).1, hF⟩
 refine codeAny_mono (hc A _ s [.ref S] LA B1 (.cons (hv X s.heap B.frs Ln) .nil)) fun res s' hres => ?_
 rcases res with e | fl
 ·exact hres.elim
 ·cases fl with
  | ret v =>
   obtain ⟨⟨h', tk, q⟩, rv⟩ := hres
   have hsub : ∀ a ∈ fpA L ++ X, a ∈ X := fun a ha => (lA ha).elim (fun z => (Ln.off a z).1) id
   refine ⟨h', tk, r, L, rfl, ⟨rfl, rfl⟩, q.mono (fun _ z => nomatch z), fun rr hrr => ?_, fun a ha => .inl ha, fun a ha => ha, Ln.apart, rv.flat hr⟩
   have h1 := Ln.at_ rr hrr
   have hoff : ∀ a ∈ c.fr, a ∈ X /\ a ∉ rr.fp := fun a ha => ⟨B.frs a ha, fun z => (Ln.off a (mem_fpA.mpr ⟨rr, hrr, z⟩)).2.2 ha⟩
   exact rr.wide _ _ _ (rr.keep _ _ _ [] h1 q hoff (fun _ z => nomatch z)) fun a ha => .inl (hsub a ha)
  | _ => exact hres.elim
end
section
namespace LI
theorem lookup_next : typeLookup (.type "list_iterator") "__next__" = pure (some (.builtin "list_iterator.__next__")) := by rw [typeLookup_type, builtinLookup_eq_fast]; kernel_rfl
theorem type_next : typeOf (.builtin "list_iterator.__next__") = pure (.type "wrapper_descriptor") := by show builtinType _ = _; rw [builtinType_eq_fast]; kernel_rfl
theorem slot_get : Slot "wrapper_descriptor" "__get__" "wrapper_descriptor.__get__" :=
 .of (owner := "wrapper_descriptor") (n := "__get__") (by rw [typeLookup_type, builtinLookup_eq_fast]; kernel_rfl) (by decide +kernel) (by decide +kernel) (by decide +kernel)
  (by first | exact .inl (by decide +kernel) | exact .inr (by decide +kernel)) (by rw [isSubtype_type]; kernel_rfl)
theorem entry_get : entryFor table "wrapper_descriptor.__get__" = some Builtin.«wrapper_descriptor.__get__» := entryFor_of_tree (by kernel_rfl)
theorem args_get (a b c : Value) : argsOk "wrapper_descriptor.__get__" ⟨[a, b, c], []⟩ := by unfold argsOk; kernel_rfl
theorem lookup_set : typeLookup (.type "wrapper_descriptor") "__set__" = pure none := by rw [typeLookup_type, builtinLookup_eq_fast]; kernel_rfl
theorem lookup_delete : typeLookup (.type "wrapper_descriptor") "__delete__" = pure none := by rw [typeLookup_type, builtinLookup_eq_fast]; kernel_rfl
end LI
theorem owner_next : (kfb_private% "ownerAndName") "list_iterator.__next__" = ("list_iterator", "__next__") := by first | decide +kernel | kernel_rfl
theorem sub_li : isSubtype (.type "list_iterator") (.type "list_iterator") = pure true := by rw [isSubtype_type]; kernel_rfl
theorem slot_ga : Slot "list_iterator" "__getattribute__" "object.__getattribute__" :=
 .of (owner := "object") (n := "__getattribute__") (by rw [typeLookup_type, builtinLookup_eq_fast]; kernel_rfl) (by decide +kernel) (by decide +kernel) (by decide +kernel)
  (by first | exact .inl (by decide +kernel) | exact .inr (by decide +kernel)) (by rw [isSubtype_type]; kernel_rfl)
theorem tga_none : typeLookup (.type "list_iterator") "__getattr__" = pure none := by rw [typeLookup_type, builtinLookup_eq_fast]; kernel_rfl
noncomputable abbrev liO (D : Addr) (i : Int) : Obj := { cls := .type "list_iterator", data := .fields #[.ref D, .int i 0] }
noncomputable abbrev mwO (I : Addr) : Obj := { cls := .type "method-wrapper", data := .fields #[.builtin "list_iterator.__next__", .ref I] }
theorem tree_wget {prog : Program} {w : World} {A : Around} {E : Value -> Shared -> Prop} {s : Shared} {P : Fin -> Shared -> Prop} {I D : Addr} {i : Int} (e : s.heap.get? I = some (liO D i)) (h : P (.done (.ret (.ref s.heap.objs.size))) { s with heap := s.heap.push (mwO I) }) :
  wpAny (model prog w) A (Builtin.«wrapper_descriptor.__get__» ⟨[.builtin "list_iterator.__next__", .ref I, .type "list_iterator"], []⟩) P E s := by
  have hT : s.TypeIs (.ref I) "list_iterator" := ⟨_, e, rfl⟩
  unfold Builtin.«wrapper_descriptor.__get__»
  refine wB (wpAny_of_eq (a := (.builtin "list_iterator.__next__", some (.ref I), some (.type "list_iterator"))) (by first | rfl | kernel_rfl) ?_)
  have f1 := sub_li
  have f2 := owner_next
  show wpAny _ _ ((kfb_private% "checkInstance") (.builtin "list_iterator.__next__") (.ref I) >>= fun _ => newFields "method-wrapper" [.builtin "list_iterator.__next__", .ref I] >>= fun v => ret v) _ _ _
  refine wB ?_
  have e1 : (kfb_private% "nameAndClass") (.builtin "list_iterator.__next__") = pure ((Str.ofString "__next__" : Str), Value.type "list_iterator") := by
   first
    | (show (match (kfb_private% "ownerAndName") "list_iterator.__next__" with | (owner, name) => pure ((Str.ofString name : Str), Value.type owner)) = _; rw [owner_next])
    | rfl
  show wpAny _ _ ((kfb_private% "nameAndClass") (.builtin "list_iterator.__next__") >>= _) _ _ _
  rw [e1]
  refine wB (wP ?_)
  show wpAny _ _ (isInstance (.ref I) (.type "list_iterator") >>= _) _ _ _
  refine wB (wpAny_isInstance hT f1 ?_)
  refine wP ?_
  refine wB ?_
  exact wpAny_newObj_type (wP h)
theorem meets_ga (I D : Addr) (i : Int) (u : Tok) : Meets (Builtin.«object.__getattribute__» ⟨[.ref I, .str "__next__" u], []⟩) (fun A R s => s.heap.get? I = some (liO D i) /\ R (.ok (.ret (.ref s.heap.objs.size))) { s with heap := s.heap.push (mwO I) }) :=
 Meets.of_wp fun prog w A R s hs => by
  obtain ⟨hp, g, d, tk, os⟩ := s
  obtain ⟨e, h⟩ := hs
  have hT : Shared.TypeIs ⟨hp, g, d, tk, os⟩ (.ref I) "list_iterator" := ⟨_, e, rfl⟩
  have f1 := LI.lookup_next
  have f2 := LI.type_next
  have f3 := LI.slot_get.lookup
  have f4 := LI.lookup_set
  have f5 := LI.lookup_delete
  unfold Builtin.«object.__getattribute__»
  repeat (any_goals (first | assumption | wp_step))
  refine codeAny_call_builtin LI.slot_get.plain LI.entry_get (LI.slot_get.check _ _ _ _ _ _ _ _ (show Shared.TypeIs _ (.builtin "list_iterator.__next__") "wrapper_descriptor" from LI.type_next) (LI.args_get _ _ _) ?_)
  refine tree_wget e ?_
  exact wP ⟨_, rfl, h⟩
theorem getAttr_next {prog : Program} {w : World} {A : Around} {E : Value -> Shared -> Prop} {s : Shared} {I D : Addr} {i : Int} {Q : Value -> Shared -> Prop} (e : s.heap.get? I = some (liO D i))
  (h : Q (.ref s.heap.objs.size) { s with heap := s.heap.push (mwO I), toks := s.toks + 1 }) : wpAny (model prog w) A (getAttr (.ref I) "__next__" true) Q E s := by
 obtain ⟨hp, g, d, tk, os⟩ := s
 have hT : ∀ tk, Shared.TypeIs ⟨hp, g, d, tk, os⟩ (.ref I) "list_iterator" := fun _ => ⟨_, e, rfl⟩
 have f3 := slot_ga.lookup
 have f4 := slot_ga.bind (.ref I)
 have f5 := tga_none
 unfold getAttr getAttrBy
 repeat (any_goals (first | assumption | exact hT _ | ((with_reducible show wpAny _ _ (call (Value.builtin "object.__getattribute__") _ _) _ _ _); refine call_meets slot_ga (hT _) PySem.F.entry_object_getattribute (PySem.F.args_object_getattribute_2 _ _) (meets_ga I D i _) ⟨e, ?_⟩) | wp_step))
 all_goals exact handed_on rfl h
section
variable {prog : Program} {w : World} {A : Around} {E : Value -> Shared -> Prop} {s : Shared}
theorem call_iter_list {l : Addr} {items : Array Value} {Q : Value -> Shared -> Prop} (hl : s.heap.IsList l items)
  (h : Q (.ref s.heap.objs.size) { s with heap := s.heap.push (liO l 0) }) : wpAny (model prog w) A (call (.builtin "iter") [.ref l]) Q E s := by
 refine call_function_entry (by decide +kernel) (by decide +kernel) kdk_entry_iter (kdk_args_iter _) ?_
 unfold Builtin.«iter»
 refine wB (m := someArgs "iter" 1 2 _) (wpAny_of_eq (a := [Value.ref l]) (by first | rfl | kernel_rfl) ?_)
 show wpAny _ _ (pyIter (.ref l) >>= _) _ _ _
 refine wB (wpAny_pyIter_list hl ?_)
 exact wP ⟨_, rfl, h⟩
theorem check_next (I : Addr) : checkBoundCall "list_iterator.__next__" ⟨[.ref I], []⟩ = pure () := by first | kernel_rfl | rfl
theorem quiet_next {as : Args} : (Code.builtin "list_iterator.__next__" as).quiet = true := Code.quiet_builtin _ (by decide +kernel)
theorem callWith_mw {pos : Pos} {m I : Addr} {Q : Value -> Shared -> Prop} (ho : s.heap.get? m = some (mwO I)) (h : wpAny (model prog w) A (call (.ref m) []) Q E s) : wpAny (model prog w) A (callWith pos (.ref m) [] [] []) Q E s := by
 refine callWith_of (P := fun h => h.get? m = some (mwO I)) rfl (fun h hP => ?_) (PySem.evalArgs_none ⟨ho, h⟩)
 refine ⟨.machine, .inr (.inl rfl), (Looks.ld (part := none) hP).andThen ?_⟩
 exact .now
theorem call_mw {m I : Addr} {Q : Value -> Shared -> Prop} (ho : s.heap.get? m = some (mwO I))
  (h : codeAny (model prog w) A (.builtin "list_iterator.__next__" ⟨[.ref I], []⟩) (fun r s' => match r with | .ok (.ret v) => Q v s' | .ok _ => False | .error e => E e s') s) : wpAny (model prog w) A (call (.ref m) []) Q E s := by
 refine wpAny_call (codeAny_of_tree ?_)
 show wpAny _ A.in1 (callAny (.ref m) ⟨[], []⟩) _ _ s
 simp only [callAny]
 refine wB (wpAny_load ho ?_)
 simp only [show (Value.type "method-wrapper" == Value.type "method" || Value.type "method-wrapper" == Value.type "builtin_function_or_method" || Value.type "method-wrapper" == Value.type "method-wrapper") = true by decide, if_true]
 refine KFB.if_so (by decide) ?_
 refine wB (wpAny_of_eq (a := ()) (check_next I) ?_)
 exact wB (wP (wP ⟨quiet_next, h⟩))
theorem mw_item {m I l : Addr} {i : Nat} {items : Array Value} {x : Value} {Q : Value -> Shared -> Prop} (ho : s.heap.get? m = some (mwO I)) (hit : s.heap.IsListIter I l i) (hl : s.heap.IsList l items) (hx : items[i]? = some x)
  (hQ : ∀ h', h'.IsListIter I l (i + 1) -> Heap.SameBut I s.heap h' -> Q x { s with heap := h' }) : wpAny (model prog w) A (call (.ref m) []) Q E s := by
 obtain ⟨o, hio, hc, hd⟩ := id hit
 obtain ⟨ol, hol, _, nl, hdl⟩ := hl
 refine call_mw ho (codeAny_builtin entry_listiter_next ?_)
 show wpAny _ _ (field (.ref I) 0 >>= _) _ _ s
 refine wB (wpAny_field hio hd (x := .ref l) rfl ?_)
 show wpAny _ _ (if (Value.ref l == Value.none) = true then _ else _) _ _ s
 rw [if_neg (show ¬ ((Value.ref l == Value.none) = true) from Bool.false_ne_true)]
 show wpAny _ _ (field (.ref I) 1 >>= _) _ _ s
 refine wB (wpAny_field hio hd (x := .int i 0) rfl ?_)
 show wpAny _ _ (seqItems? (.ref l) >>= _) _ _ s
 refine wB (wpAny_seqItems hol hdl ?_)
 simp only [Int.toNat_natCast, hx]
 refine wB (wpAny_setField hio hd (by simp) (wP (hQ _ ?_ (Heap.SameBut.update ..))))
 exact ⟨_, Heap.get?_update_self _ hio (Obj.isFreed_of_fields (Obj.data_mapFields hd _)), (Obj.cls_mapFields ..).trans hc, by
  rw [Obj.data_mapFields hd]; simp [rawInt]⟩
theorem mw_end {m I l : Addr} {i : Nat} {items : Array Value} {Q : Value -> Shared -> Prop} (hh : A.handled = none) (ho : s.heap.get? m = some (mwO I)) (hit : s.heap.IsListIter I l i) (hl : s.heap.IsList l items) (hx : items[i]? = none)
  (hQ : ∀ h1 h' e, Heap.SameBut I s.heap h1 -> (∀ b o, h1.get? b = some o -> h'.get? b = some o) -> h1.get? e = none -> (∃ ob vs t, h'.get? e = some ob /\ ob.cls = .type "StopIteration" /\ ob.data = .fields vs /\ vs[0]? = some t /\ vs[1]? = some Value.none) -> E (.ref e) { s with heap := h' }) : wpAny (model prog w) A (call (.ref m) []) Q E s := by
 obtain ⟨o, hio, hc, hd⟩ := id hit
 obtain ⟨ol, hol, _, nl, hdl⟩ := hl
 refine call_mw ho (codeAny_builtin entry_listiter_next ?_)
 show wpAny _ _ (field (.ref I) 0 >>= _) _ _ s
 refine wB (wpAny_field hio hd (x := .ref l) rfl ?_)
 show wpAny _ _ (if (Value.ref l == Value.none) = true then _ else _) _ _ s
 rw [if_neg (show ¬ ((Value.ref l == Value.none) = true) from Bool.false_ne_true)]
 show wpAny _ _ (field (.ref I) 1 >>= _) _ _ s
 refine wB (wpAny_field hio hd (x := .int i 0) rfl ?_)
 show wpAny _ _ (seqItems? (.ref l) >>= _) _ _ s
 refine wB (wpAny_seqItems hol hdl ?_)
 simp only [Int.toNat_natCast, hx]
 refine wB (wpAny_rule (wB (wpAny_setField hio hd (by simp) ?_)))
 show wpAny _ _ (newExc (.type "StopIteration") [] >>= _) _ _ _
 refine wB ?_
 simp only [newExc, newTuple]
 refine wB (wpAny_newObj_type ?_ (by size_fits))
 refine wB (m := firstArgMember _ _) (wpAny_of_eq (a := Value.none) (by first | rfl | (simp only [firstArgMember]; rfl)) ?_)
 refine wpAny_newObj_type ?_ (by size_fits)
 simp only [raiseNew]
 refine wB (wpAny_handled ?_)
 rw [show (A.under (Code.builtin "list_iterator.__next__" ⟨[.ref I], []⟩)).handled = none from hh]
 refine wB (wP (wpAny_throw ?_))
 refine hQ (s.heap.update I (Obj.mapFields fun x => x.setIfInBounds 0 Value.none)) _ _ (Heap.SameBut.update ..) (fun b o hb => ?_) ?_ ?_
 ·exact Heap.get?_push_of_some _ (Heap.get?_push_of_some _ hb)
 ·exact Heap.get?_none_of_le (by simp)
 ·exact ⟨_, _, _, hP _ rfl, rfl, rfl, by rfl, by rfl⟩
end
end
section
section
variable {κ : Type} [DecidableEq κ]
noncomputable def resSet (c : Cfg) (dk : DKey c.w κ) (D : Addr) (ks : List κ) : Res c where
 fp := [D]
 P := fun X h => h.SetOf (dk.knd c.prog) D (fun k => decide (k ∈ ks)) ks.length
 alive := fun X h e a ha => by
  obtain ⟨o, es, ep, t, e, _⟩ := e
  rw [lS ha]; exact ⟨_, e⟩
 keep := fun X h h' Y e x hF hy => by
  obtain ⟨o, es, ep, t, e, r⟩ := e
  exact ⟨o, es, ep, t, x.exact (fun z => (hy _ z).2 (.head _)) (fun z => (hF _ z).2 (.head _)) e, r⟩
 wide := fun X X' h e _ => e
noncomputable def resNx (c : Cfg) (m I : Addr) (ds : List PyData) (i : Nat) : Res c where
 fp := [m, I]
 P := fun X h => h.get? m = some (mwO I) /\ ∃ ax, StL c I ax ds X i h
 alive := fun X h e a ha => by
  obtain ⟨e1, ax, ⟨o, e2, _⟩, _⟩ := e
  rcases lC ha with rfl | ha
  ·exact ⟨_, e1⟩
  ·rw [lS ha]; exact ⟨_, e2⟩
 keep := fun X h h' Y e x hF hy => by
  obtain ⟨e1, ax, st⟩ := e
  refine ⟨x.exact (fun z => (hy _ z).2 (.head _)) (fun z => (hF _ z).2 (.head _)) e1, ax, st.keep x (fun a ha => ⟨(hF a ha).1, fun z => (hF a ha).2 (.tail _ z)⟩) fun y hy' => ⟨(hy y hy').1, fun z => (hy y hy').2 (.tail _ z)⟩⟩
 wide := fun X X' h e hy => let ⟨e1, ax, st⟩ := e; ⟨e1, ax, st.wide hy⟩
end
section
variable {K : Act} {A A2 : Around} {s0 : Shared} {E : Err} {X : List Addr} {Γ Γ' : Gam} {R R' : Ros} {Δ Δ' : Del K} {ss : List Stmt} {O O' : Out K -> Prop} {s s' : Shared} {L : AObs} {F : Frag} {κ : Type} [DecidableEq κ]
theorem Sat.takeR (S : Sat K X Γ R Δ A s0 s) {s' : Shared} (p : Pst K.c s s') (r : Res K.c) (hD : ∀ a ∈ r.fp, s.heap.get? a = none) (ho : r.P (r.fp ++ X) s'.heap) : Sat K (r.fp ++ X) Γ R (r :: Δ) A s0 s' := by
 obtain ⟨h', tk, q⟩ := p
 have S' : Sat K (r.fp ++ X) Γ R Δ A s0 { s with heap := h', toks := tk } := S.grow (fun a ha => (lA ha).elim (fun e => .inr (hD a e)) .inl) (fun a ha => lR _ ha) q fun a ha => (lA ha).elim (r.alive _ _ ho a) fun z => q.alive (fun z => nomatch z) (S.good.bas.alloc a z)
 refine S'.add r ho (fun a ha => ?_) fun r' hr a ha => (S.off (hD a ha)).2.2.2.2 r' hr
 have fq := S.off (hD a ha)
 exact ⟨lL _ ha, fq.2.1, fq.2.2.1, fq.2.2.2.1⟩
theorem Ex.newF {x : Str} {px pos : Pos} {e : Expr} {d : PyData} (h : ∀ X, EvF K.c K.l X K.env Γ e d) (k : ∀ D, (∀ p ∈ L, p.1 ≠ D) -> Ex K A s0 E ((x, opq D) :: Γ) R (delA K.c ((D, .data d) :: L) ++ Δ) ss O)
  (hx : autoParam (decide (x ∈ K.xs) = true) aK) (hΓ : autoParam (offB [x] (Γ.map (·.1)) = true) aK) (hR : autoParam (offB [x] (R.map (·.1)) = true) aK) (hs : autoParam (swapsWith e (some (.Name x px)) pos.line K.env = pure false) aR) :
  Ex K A s0 E Γ R (delA K.c L ++ Δ) (.Assign [.Name x px] e pos :: ss) O := fun s X S => by
 have e1 : Γ.filter (fun p => p.1 != x) = Γ := filter_off fun p hp e => off_of hΓ p hp (e ▸ .head _)
 refine wpAny_execs_cons (wpAny_Assign_Name (noE_any (wK (h X A s S.lev S.good) (fun v s1 q => ?_))) hs)
 obtain ⟨p, D, hD, o⟩ := q
 have S1 : Sat K (D :: X) Γ R (delA K.c ((D, .data d) :: L) ++ Δ) A s0 s1 := S.take p hD o
 refine S1.assign (of_decide_eq_true hx) (neR hR) (.opq D) fun s2 S2 => ?_
 rw [e1] at S2
 exact k D S1.headNe s2 _ S2
inductive RsP (K : Act) (A : Around) (s0 : Shared) (Γ : Gam) (R : Ros) (Δ : Del K) (mk : Addr -> Res K.c -> Prop) (v : Value) (s' : Shared) : Prop
 | mk (D : Addr) (r : Res K.c) (X' : List Addr) (h : mk D r) (e : v = .ref D) (S : Sat K X' Γ R (r :: Δ) A s0 s')
noncomputable def EvR (K : Act) (A : Around) (s0 : Shared) (E : Err) (Γ : Gam) (R : Ros) (Δ : Del K) (e : Expr) (mk : Addr -> Res K.c -> Prop) : Prop :=
 ∀ s X, Sat K X Γ R Δ A s0 s -> wpAny K.c.M A (eval e K.env) (RsP K A s0 Γ R Δ mk) E s
theorem Ex.newRes {x : Str} {px pos : Pos} {e : Expr} {mk : Addr -> Res K.c -> Prop} (h : EvR K A s0 E Γ R Δ e mk) (k : ∀ D r, mk D r -> Ex K A s0 E ((x, opq D) :: Γ) R (r :: Δ) ss O)
  (hx : autoParam (decide (x ∈ K.xs) = true) aK) (hΓ : autoParam (offB [x] (Γ.map (·.1)) = true) aK) (hR : autoParam (offB [x] (R.map (·.1)) = true) aK) (hs : autoParam (swapsWith e (some (.Name x px)) pos.line K.env = pure false) aR) :
  Ex K A s0 E Γ R Δ (.Assign [.Name x px] e pos :: ss) O := fun s X S => by
 have e1 : Γ.filter (fun p => p.1 != x) = Γ := filter_off fun p hp e => off_of hΓ p hp (e ▸ .head _)
 refine wpAny_execs_cons (wpAny_Assign_Name (wK (h s X S) (fun v s1 q => ?_)) hs)
 obtain ⟨D, r, X', hm, rfl, S1⟩ := q
 refine S1.assign (of_decide_eq_true hx) (neR hR) (.opq D) fun s2 S2 => ?_
 rw [e1] at S2
 exact k D r hm s2 _ S2
theorem EvR.set (dk : DKey K.c.w κ) {np pos : Pos} (g : Glb K.c "set" (.type "set")) (hf : autoParam (K.env.kindOf "set" = some .globalImplicit) aR) : EvR K A s0 E Γ R Δ (.Call (.Name "set" np) [] [] pos) (fun D r => r = resSet K.c dk D []) := fun s X S => by
 refine wpAny_Call_ofName (wpAny_Name (g A _ s K.env _ S.good.bas.stays S.good.globals S.good.builtins S.good.kind hf ?_) (by kernel_rfl))
 refine callWith_of (P := fun h => K.c.base.StaysIn h) rfl keep_type (PySem.evalArgs_none ⟨S.good.bas.stays, call_set_0 fun led => ?_⟩)
 have hn : s.heap.get? s.heap.objs.size = none := fresh_ge (Nat.le_refl _)
 have hS : (s.heap.push { cls := .type "set", dict := none, data := .set #[] 0 (.fresh 0 0 led) }).SetOf (dk.knd K.c.prog) s.heap.objs.size (fun _ => false) 0 := (setObjOf_fresh (knd := dk.knd K.c.prog) led).setOf (hP _ rfl) (by decide)
 refine ⟨s.heap.objs.size, resSet K.c dk s.heap.objs.size [], _, rfl, rfl, S.takeR .push' (resSet K.c dk s.heap.objs.size []) (fun a ha => by rw [lS ha]; exact hn) ?_⟩
 have e : (fun k : κ => decide (k ∈ ([] : List κ))) = fun _ => false := by funext k; simp
 show Heap.SetOf _ _ _ (fun k : κ => decide (k ∈ ([] : List κ))) 0
 rw [e]
 exact hS
noncomputable abbrev Scan {w : World} (dk : DKey w κ) : Prop := ∀ k v X h, Rd w X h v (dk.enc k) -> v.scannable = true
theorem EtS.inSet (dk : DKey K.c.w κ) (hsc : Scan dk) {e1 e2 : Expr} {pos : Pos} {D : Addr} {k : κ} {ks : List κ} (h1 : EvS K A s0 E Γ R Δ e1 (dk.enc k)) (h2 : EvS K A s0 E Γ R Δ e2 (opq D)) (hD : resSet K.c dk D ks ∈ Δ) (hm : behindInMarks .In e2 = false := by with_unfolding_all rfl) :
  EtS K A s0 E Γ R Δ (.Compare e1 [.In] [e2] pos) (decide (k ∈ ks)) := fun s X S =>
 wpAny_isTrue_Compare1 (h1.go S fun v1 s1 S1 q1 => h2.ref S1 fun s2 S2 => by
  have hS : s2.heap.SetOf (dk.knd K.c.prog) D (fun k => decide (k ∈ ks)) ks.length := S2.res _ hD
  have r1 : Rd K.c.w X s2.heap v1 (dk.enc k) := q1.flat (dk.flat k)
  exact wpAny_inSet_of (dk.dr K.c.prog k _ _ _ r1) (hsc k _ _ _ r1) hS (wpAny_truthy_bool ⟨rfl, S2.pst .tk⟩)) hm
theorem EtS.inDct (dk : DKey K.c.w κ) (hsys : sysModules ∈ K.c.fr) {e1 e2 : Expr} {pos : Pos} {D : Addr} {k : κ} {kvs : List (κ × PyData)} (h1 : EvS K A s0 E Γ R (delA K.c L ++ Δ) e1 (dk.enc k)) (h2 : EvS K A s0 E Γ R (delA K.c L ++ Δ) e2 (opq D)) (hD : (D, .data (dD dk.enc kvs)) ∈ L) (hm : behindInMarks .In e2 = false := by with_unfolding_all rfl) :
  EtS K A s0 E Γ R (delA K.c L ++ Δ) (.Compare e1 [.In] [e2] pos) (kget kvs k).isSome := fun s X S =>
 wpAny_isTrue_Compare1 (h1.go S fun v1 s1 S1 q1 => h2.ref S1 fun s2 S2 => by
  obtain ⟨vs, dd, r, _⟩ := S2.dct dk hD
  have r1 : Rd K.c.w X s2.heap v1 (dk.enc k) := q1.flat (dk.flat k)
  have e := (kget_rd (k := k) r).two.1
  exact wpAny_in_of (dk.dr K.c.prog k _ _ _ r1) (S2.offSys hsys hD) dd.mapOf (wpAny_truthy_bool ⟨e, S2.pst .tk⟩)) hm
theorem Ex1.addSet (dk : DKey K.c.w κ) (hsc : Scan dk) {o e : Expr} {apos cpos pos : Pos} {D : Addr} {k : κ} {ks : List κ} (ho : EvS K A s0 E Γ R (resSet K.c dk D ks :: Δ) o (opq D)) (h : EvS K A s0 E Γ R (resSet K.c dk D ks :: Δ) e (dk.enc k)) (hk : k ∉ ks) (hz : ks.length <= 4000)
  (hline : autoParam ((apos.endLine == cpos.line) = true) aR) (hs : autoParam (starEach [e] K.env = [(false, eval e K.env)]) aR) (hi : autoParam (interactive K.env = false) aR) (hsw : autoParam (swapsWith (.Call (.Attribute o "add" apos) [e] [] cpos) none pos.line K.env = pure false) aR)
  (hbase : autoParam (attributeBase o "add" K.env (eval o K.env) = eval o K.env) aR) :
  Ex1 K A s0 E Γ R (resSet K.c dk D ks :: Δ) (.Expr (.Call (.Attribute o "add" apos) [e] [] cpos) pos) (nextO Γ R (resSet K.c dk D (ks ++ [k]) :: Δ)) := fun s X S => by
 refine wpAny_Expr ?_ hi hsw
 refine mcall1 PySem.F.plainAttrs_set PySem.F.slot_set_add PySem.F.type_set_add (ho.ref S fun s1 S1 => ?_) hbase hline hs
 have hS1 : s1.heap.SetOf (dk.knd K.c.prog) D (fun k => decide (k ∈ ks)) ks.length := S1.res _ (.head _)
 refine ⟨hS1.typeIs, hS1.noDict, h.go S1 fun v s2 S2 r2 => ?_⟩
 have hS2 : s2.heap.SetOf (dk.knd K.c.prog) D (fun k => decide (k ∈ ks)) ks.length := S2.res _ (.head _)
 refine call_set_add (dk.dr K.c.prog k _ _ _ r2) (hsc k _ _ _ r2) hS2 (by show ks.length + 1 < 4096; omega) fun h' hs' hS' => ?_
 have fq := S2.fps _ (.head _) D (.head _)
 have q : HX K.c [D] s2.heap h' := .sameBut hs' (S2.base D fq.2.1) fq.2.2.2
 refine ⟨X, _, _, _, rfl, S2.change (r := resSet K.c dk D ks) (r' := resSet K.c dk D (ks ++ [k])) rfl q ?_⟩
 show h'.SetOf _ D (fun k' => decide (k' ∈ ks ++ [k])) (ks ++ [k]).length
 have e1 : (fun k' => decide (k' ∈ ks ++ [k])) = fun k' => decide (k' ∈ ks) || decide (k' = k) := by funext k'; simp
 rw [e1, List.length_append]
 rw [if_neg (by simpa using hk)] at hS'
 exact hS'
theorem EvR.next {e : Expr} {np ipos apos : Pos} {ds : List PyData} (g : Glb K.c "iter" (.builtin "iter")) (h : ∀ X, Ev K.c K.l X K.env Γ e (.list ds)) (hf : autoParam (K.env.kindOf "iter" = some .globalImplicit) aR)
  (he : autoParam (starEach [e] K.env = (false, eval e K.env) :: starEach [] K.env) aR) (hn : AttrOk K.env (.Call (.Name "iter" np) [e] [] ipos) "__next__" apos := by with_unfolding_all rfl) :
  EvR K A s0 E Γ R Δ (.Attribute (.Call (.Name "iter" np) [e] [] ipos) "__next__" apos) (fun D r => ∃ I, r = resNx K.c D I ds 0) := fun s X S => by
 refine Attribute_any_ ?_ hn
 refine wpAny_Call_ofName (wpAny_Name (g A _ s K.env _ S.good.bas.stays S.good.globals S.good.builtins S.good.kind hf ?_) (by kernel_rfl))
 show wpAny K.c.M A (callWith ipos (.builtin "iter") [] (backTo ipos (starEach [e] K.env)) []) _ _ s
 rw [he]
 refine callWith_of (P := fun h => K.c.base.StaysIn h) rfl keep_builtin (evalArgs_plain (Calls.spliced_cons ((h X).use S.lev S.good fun u s1 p1 r1 G1 => Calls.spliced_nil ⟨G1.bas.stays, ?_⟩)))
 have S1 := S.pst p1
 have hz := r1.list_inv; clear r1; obtain ⟨ax, vs, n, ha, ea, q⟩ := hz
 refine call_iter_list (l := ax) ⟨_, ea, rfl, _, rfl⟩ ?_
 refine getAttr_next (D := ax) (i := 0) (hP _ rfl) ?_
 have hI : s1.heap.get? s1.heap.objs.size = none := fresh_ge (Nat.le_refl _)
 have hm : s1.heap.get? (s1.heap.push (liO ax 0)).objs.size = none := fresh_ge (by rw [Heap.size_push]; omega)
 have q1 : HX K.c [] s1.heap ((s1.heap.push (liO ax 0)).push (mwO s1.heap.objs.size)) := (HX.push _ _).trans (HX.push _ _)
 have hfp : ∀ a ∈ (resNx K.c (s1.heap.push (liO ax 0)).objs.size s1.heap.objs.size ds 0).fp, s1.heap.get? a = none := fun a ha => by
  rcases lC ha with rfl | ha
  ·exact hm
  ·rw [lS ha]; exact hI
 refine ⟨(s1.heap.push (liO ax 0)).objs.size, resNx K.c (s1.heap.push (liO ax 0)).objs.size s1.heap.objs.size ds 0, _, ⟨_, rfl⟩, rfl, S1.takeR ⟨_, _, q1⟩ _ hfp ⟨hP _ rfl, ax, ⟨_, Heap.get?_push_of_some _ (hP _ rfl), rfl, rfl⟩, fun z => ?_, vs, n, Heap.get?_push_of_some _ (Heap.get?_push_of_some _ ea), ?_⟩⟩
 ·rcases lA z with z | z
  ·rw [hfp ax z] at ea; cases ea
  ·exact ha z
 ·exact (q.wide fun a ha => (lA ha).elim (fun z => .inr (hfp a z)) .inl).hx0 q1 fun a ha => lR _ (G1.bas.frs a ha)
theorem Ex1.appendR {o e : Expr} {apos cpos pos : Pos} {D : Addr} {ds : List PyData} {mk : Addr -> Res K.c -> Prop} (ho : EvS K A s0 E Γ R (delA K.c L ++ Δ) o (opq D)) (h : EvR K A s0 E Γ R (delA K.c L ++ Δ) e mk) (hD : (D, .data (.list ds)) ∈ L) (hz : ds.length <= 10 ^ 6)
  (hline : autoParam ((apos.endLine == cpos.line) = true) aR) (hs : autoParam (starEach [e] K.env = [(false, eval e K.env)]) aR) (hi : autoParam (interactive K.env = false) aR) (hsw : autoParam (swapsWith (.Call (.Attribute o "append" apos) [e] [] cpos) none pos.line K.env = pure false) aR)
  (hbase : autoParam (attributeBase o "append" K.env (eval o K.env) = eval o K.env) aR) :
  Ex1 K A s0 E Γ R (delA K.c L ++ Δ) (.Expr (.Call (.Attribute o "append" apos) [e] [] cpos) pos) (fun q => ∃ m r, mk m r /\ q = .next Γ R (delA K.c (updA L D (.data (.list (ds ++ [opq m])))) ++ r :: Δ)) := fun s X S => by
 refine wpAny_Expr ?_ hi hsw
 refine mcall1 PySem.F.plainAttrs_list slot_list_append (by first | exact type_list_append | rfl) (ho.ref S fun s1 S1 => ?_) hbase hline hs
 obtain ⟨vs0, n0, e0, r0⟩ := S1.lst hD
 refine ⟨⟨_, e0, rfl⟩, fun a ha => ⟨_, (by cases ha; exact e0), rfl⟩, wK (h s1 X S1) (fun v s2 q => ?_)⟩
 obtain ⟨m, r, X2, hm, rfl, S2'⟩ := q
 have S2 : Sat K X2 Γ R (delA K.c L ++ r :: Δ) A s0 s2 := S2'.perm perm_loop
 obtain ⟨vs, n, e1, rr⟩ := S2.lst hD
 have fq := S2.fps _ (memRes hD) D (.head _)
 refine append_at e1 (fun h' hs' e' => ?_) (by simp [rr.length, sizeLine_eq]; omega)
 have q : HX K.c [D] s2.heap h' := .sameBut hs' (S2.base D fq.2.1) fq.2.2.2
 have hY : ∀ y ∈ [D], y ∈ X2 := fun y hy => lS hy ▸ fq.1
 exact ⟨X2, _, _, _, ⟨m, r, hm, rfl⟩, S2.updA (tk := s2.toks) hD (Y := [D]) rfl (fun y hy => lS hy ▸ .head _) q ⟨vs ++ [.ref m], n + 1, by rw [e']; simp [lstO], (rr.hx q S2.good.bas.frs hY).append (.cons (.opq m) .nil)⟩⟩
theorem Ex1.dstF (dk : DKey K.c.w κ) {o i e : Expr} {tpos pos : Pos} {D : Addr} {k : κ} {d : PyData} {kvs : List (κ × PyData)} (he : EvS K A s0 E Γ R (delA K.c L ++ Δ) e d) (ho : EvS K A s0 E Γ R (delA K.c L ++ Δ) o (opq D)) (hi : EvS K A s0 E Γ R (delA K.c L ++ Δ) i (dk.enc k))
  (hf : flat d = true) (hD : (D, .data (dD dk.enc kvs)) ∈ L) (hz : kvs.length <= 10 ^ 6) (hn : k ∉ kvs.map (·.1)) (hs : autoParam (swapsWith e (some (.Subscript o i tpos)) pos.line K.env = pure false) aR) :
  Ex1 K A s0 E Γ R (delA K.c L ++ Δ) (.Assign [.Subscript o i tpos] e pos) (nextO Γ R (delA K.c (updA L D (.data (dD dk.enc (kvs ++ [(k, d)])))) ++ Δ)) := fun s X S => by
 refine wpAny_Assign_Subscript (he.go S fun v s1 S1 r1 => ho.ref S1 fun s2 S2 => hi.go S2 fun iv s3 S3 r3 => dset_ok dk S3 hD r3 (r1.flat hf) hz hn fun s4 S4 => ⟨X, _, _, _, rfl, S4⟩) hs
theorem EtS.truV {e : Expr} {D : Addr} {d : PyData} {b : Bool} (h : EvS K A s0 E Γ R (delA K.c L ++ Δ) e (opq D)) (hD : (D, .data d) ∈ L) (t : Tru K.c d b) (he : ∀ whole, isTrue e K.env whole = (do let v <- whole; standAt e.pos; holding [v] (truthy v)) := by intro _; rfl) : EtS K A s0 E Γ R (delA K.c L ++ Δ) e b := fun s X S =>
 wpAny_isTrue_value (h.ref S fun s1 S1 => by
  have hR := S1.res _ (memRes hD)
  have fq := S1.fps _ (memRes hD) D (.head _)
  have hF : ∀ a ∈ K.c.fr, a ∈ X.filter (· ≠ D) := fun a ha => in_without (S1.good.bas.frs a ha) fun e => fq.2.2.2 (e ▸ ha)
  have B1 : Bas K.c A (X.filter (· ≠ D)) s1.heap := { S1.good.bas with alloc := fun a ha => S1.good.bas.alloc a (without a ha), frs := hF }
  exact noE_any (wK (t K.l A (X.filter (· ≠ D)) s1 (.ref D) S1.lev B1 (Own1.rd hR not_without without)) (fun r s2 q2 => ⟨q2.1, S1.pst q2.2⟩))) (he _)
theorem Ex1.whileElse {test : Expr} {body orelse : List Stmt} {pos : Pos} (Inv : Nat -> Gam -> Ros -> Del K -> Prop) (O : Out K -> Prop)
  (h : ∀ n Γ R Δ, Inv n Γ R Δ -> ∃ b, EtS K A s0 E Γ R Δ test b /\ (b = true -> Ex K A s0 E Γ R Δ body fun o => (∃ m Γ' R' Δ', m < n /\ (o = .next Γ' R' Δ' \/ o = .cont Γ' R' Δ') /\ Inv m Γ' R' Δ') \/ (∃ Γ' R' Δ', o = .brk Γ' R' Δ' /\ O (.next Γ' R' Δ')) \/ ∃ d, o = .ret d /\ O (.ret d)) /\ (b = false -> Ex K A s0 E Γ R Δ orelse O))
  (n : Nat) (h0 : Inv n Γ R Δ) (hE : PassesOwn K.c.M A K.env E := by exact fun _ _ f => f.elim) : Ex1 K A s0 E Γ R Δ (.While test body orelse pos) O := by
 refine Ex1.whileG Inv O (fun n Γ R Δ hi => ?_) n h0 hE
 obtain ⟨b, h1, h2⟩ := h n Γ R Δ hi
 exact ⟨b, fun s X S => wK (h1 s X S) (fun _ _ q => ⟨q.1, X, q.2⟩), h2⟩
end
end
section
section
variable {K : Act} {A A2 : Around} {s0 : Shared} {E : Err} {X : List Addr} {Γ Γ' : Gam} {R R' : Ros} {Δ Δ' : Del K} {ss : List Stmt} {O O' : Out K -> Prop} {s s' : Shared} {L : AObs} {F : Frag} {κ : Type} [DecidableEq κ]
inductive SnoI (w : World) (X : List Addr) (h : Heap) (ds : List PyData) (d : PyData) : List Value -> Prop
 | mk (us : List Value) (v : Value) (r : RdL w X h us ds) (a : Rd w X h v d) : SnoI w X h ds d (us ++ [v])
theorem RdL.snoc {w : World} {h : Heap} {ds : List PyData} {d : PyData} : ∀ {vs : List Value}, RdL w X h vs (ds ++ [d]) -> SnoI w X h ds d vs := by
 induction ds with
 | nil =>
  intro vs r
  obtain ⟨v, a⟩ := (show RdL w X h vs [d] from r).one_inv
  exact .mk [] v .nil a
 | cons x ds ih =>
  intro vs r
  obtain ⟨v, us, a, q⟩ := RdL.cons_inv r
  obtain ⟨us, u, r1, r2⟩ := ih q
  exact .mk (v :: us) u (.cons a r1) r2
theorem EvS.last {o : Expr} {k : Nat} {p1 p2 pos : Pos} {D : Addr} {ds : List PyData} {d : PyData} (ho : EvS K A s0 E Γ R (delA K.c L ++ Δ) o (opq D)) (hD : (D, .data (.list (ds ++ [d]))) ∈ L) (hz : ds.length <= 10 ^ 6)
  (hs : ∀ ov i, subscripted (.UnaryOp .USub (.Constant (.int 1) k p1) p2) false ov i = operate [ov, i] (getItem ov i) := by intro _ _; with_unfolding_all rfl) :
  EvS K A s0 E Γ R (delA K.c L ++ Δ) (.Subscript o (.UnaryOp .USub (.Constant (.int 1) k p1) p2) pos) d := fun s X S => by
 refine Subscript_ (ho.ref S fun s1 S1 => ?_)
 refine wpAny_UnaryOp (wpAny_Constant_int (P.neg_int ?_))
 have S2 : Sat K X Γ R (delA K.c L ++ Δ) A s0 { s1 with toks := s1.toks + 1 + 1 } := S1.pst ⟨s1.heap, _, .refl _⟩
 obtain ⟨vs, n, e, rr⟩ := S2.lst hD
 obtain ⟨us, v, r2, r3⟩ := RdL.snoc rr
 have hL : s1.heap.IsList D (us ++ [v]).toArray := ⟨_, e, rfl, _, rfl⟩
 have hT : Shared.TypeIs { s1 with toks := s1.toks + 1 + 1 } (.ref D) "list" := ⟨_, e, rfl⟩
 refine tail_any hT slot_list_getitem.lookup (wpAny_getItem_list_neg (s := { s1 with toks := s1.toks + 1 + 1 }) hL (by decide) (by simp; omega) (by decide) (x := v) ?_ ⟨S2, r3⟩) (hs _ _)
 have : ((-1 : Int) + ((us ++ [v]).toArray.size : Nat)).toNat = us.length := by simp; omega
 rw [this]
 simp
theorem Sat.flies (S : Sat K X Γ R Δ A s0 s) {cls : String} {P : Gam -> Ros -> Del K -> Prop} {h' : Heap} {e : Addr} (hst : ∃ outer, A.frames = some (K.env :: outer)) (hL : ∃ Lc, K.env.frame = some Lc) (hP : P Γ R Δ) (hk : ∀ b o, s.heap.get? b = some o -> h'.get? b = some o) (hn : s.heap.get? e = none)
  (hx : ∃ ob vs t, h'.get? e = some ob /\ ob.cls = .type cls /\ ob.data = .fields vs /\ vs[0]? = some t /\ vs[1]? = some Value.none) : Flies K A s0 cls P (.ref e) { s with heap := h' } := by
 obtain ⟨outer, hA⟩ := hst
 obtain ⟨Lc, hL⟩ := hL
 exact ⟨e, s, X, Γ, R, Δ, h', s.toks, hP, S, Fly.raised2 S.good.bas hA hL hk hn hx⟩
theorem Ex1.nextItem {x : Str} {px : Pos} {o : Expr} {cpos pos : Pos} {m I : Addr} {dn : List PyData} {i : Nat} {d : PyData} (ho : EvS K A s0 E Γ R (resNx K.c m I dn i :: Δ) o (opq m)) (hd : dn[i]? = some d) (hf : flat d = true) (hx : autoParam (decide (x ∈ K.xs) = true) aK) (hR : autoParam (offB [x] (R.map (·.1)) = true) aK)
  (hev : eval (.Call o [] [] cpos) K.env = (do callWith cpos (<- eval o K.env) [] [] []) := by with_unfolding_all rfl) (hs : autoParam (swapsWith (.Call o [] [] cpos) (some (.Name x px)) pos.line K.env = pure false) aR) :
  Ex1 K A s0 E Γ R (resNx K.c m I dn i :: Δ) (.Assign [.Name x px] (.Call o [] [] cpos) pos) (nextO ((x, d) :: Γ.filter fun p => p.1 != x) R (resNx K.c m I dn (i + 1) :: Δ)) := fun s X S => by
 refine wpAny_Assign_Name ?_ hs
 rw [hev]
 refine wB (ho.ref S fun s1 S1 => ?_)
 have st : s1.heap.get? m = some (mwO I) /\ ∃ ax, StL K.c I ax dn X i s1.heap := S1.res _ (.head _)
 obtain ⟨e1, ax, h1, h2, vs, n, h3, h4⟩ := st
 obtain ⟨v, hv, rv⟩ := h4.get _ hd
 refine callWith_mw e1 (mw_item e1 h1 (l := ax) (items := vs.toArray) ⟨_, h3, rfl, _, rfl⟩ (by simpa using hv) fun h' hit' hs' => ?_)
 have gq := S1.fps _ (.head _) I (.tail _ (.head _))
 have kq := S1.fps _ (.head _) m (.head _)
 have q : HX K.c [I] s1.heap h' := .sameBut hs' (S1.base I gq.2.1) gq.2.2.2
 have hmI : m ≠ I := fun z => by
  obtain ⟨o', e', cl, _⟩ := h1
  rw [<- z, e1] at e'
  cases e'
  simp at cl
 have hY : ∀ y ∈ [I], y ∈ X := fun y hy => lS hy ▸ gq.1
 have S2 : Sat K X Γ R (resNx K.c m I dn (i + 1) :: Δ) A s0 { s1 with heap := h' } := by
  refine S1.change (r := resNx K.c m I dn i) (r' := resNx K.c m I dn (i + 1)) (tk := s1.toks) rfl (q.mono fun y hy => .tail _ hy) ⟨(hs'.2 m hmI).trans e1, ax, hit', h2, vs, n, ?_, h4.hx q S1.good.bas.frs hY⟩
  exact q.exact (fun z => h2 (hY _ z)) (fun z => h2 (S1.good.bas.frs _ z)) h3
 exact S2.assign (of_decide_eq_true hx) (neR hR) (rv.flat hf) fun s3 S3 => ⟨X, _, _, _, rfl, S3⟩
theorem Ex1.nextEnd {x : Str} {px : Pos} {o : Expr} {cpos pos : Pos} {m I : Addr} {dn : List PyData} {i : Nat} {P : Gam -> Ros -> Del K -> Prop} (ho : EvS K A s0 (Flies K A s0 "StopIteration" P) Γ R (resNx K.c m I dn i :: Δ) o (opq m)) (hd : dn.length <= i) (hst : ∃ outer, A.frames = some (K.env :: outer)) (hLc : ∃ Lc, K.env.frame = some Lc) (hx0 : X0ok K s0) (hP : P Γ R Δ)
  (hev : eval (.Call o [] [] cpos) K.env = (do callWith cpos (<- eval o K.env) [] [] []) := by with_unfolding_all rfl) (hs : autoParam (swapsWith (.Call o [] [] cpos) (some (.Name x px)) pos.line K.env = pure false) aR) :
  Ex1 K A s0 (Flies K A s0 "StopIteration" P) Γ R (resNx K.c m I dn i :: Δ) (.Assign [.Name x px] (.Call o [] [] cpos) pos) O := fun s X S => by
 refine wpAny_Assign_Name ?_ hs
 rw [hev]
 refine wB (ho.ref S fun s1 S1 => ?_)
 have st : s1.heap.get? m = some (mwO I) /\ ∃ ax, StL K.c I ax dn X i s1.heap := S1.res _ (.head _)
 obtain ⟨e1, ax, h1, h2, vs, n, h3, h4⟩ := st
 have hnone : vs.toArray[i]? = none := by
  rw [List.getElem?_toArray]
  exact List.getElem?_eq_none (by rw [h4.length]; exact hd)
 refine callWith_mw e1 (mw_end S1.good.bas.handled e1 h1 (l := ax) (items := vs.toArray) ⟨_, h3, rfl, _, rfl⟩ hnone fun ha h' e hs' hk hn hx => ?_)
 have gq := S1.fps _ (.head _) I (.tail _ (.head _))
 have q : HX K.c [I] s1.heap ha := .sameBut hs' (S1.base I gq.2.1) gq.2.2.2
 have S2 := S1.drop (tk := s1.toks) hx0 (q.mono fun y hy => .tail _ hy)
 exact S2.flies hst hLc hP hk hn hx
theorem evalN {x : Str} {D : Addr} {pos : Pos} {Q : Value -> Shared -> Prop} (S : Sat K X Γ R Δ A s0 s) (hx : (x, opq D) ∈ Γ) (h : Q (.ref D) s) (hd : autoParam ((x == ("__debug__" : Str)) = false) aK) : wpAny K.c.M A2 (eval (.Name x pos) K.env) Q E s := by
 obtain ⟨v, H, r⟩ := S.good.vars _ hx
 rw [rd_opq r] at H
 exact wpAny_Name (H.load S.good.kind h) hd
theorem popAt {x : Str} {np apos pos : Pos} {D : Addr} {ds : List PyData} {d : PyData} {Q : Value -> Shared -> Prop} (S : Sat K X Γ R (delA K.c L ++ Δ) A s0 s) (hx : (x, opq D) ∈ Γ) (hD : (D, .data (.list (ds ++ [d]))) ∈ L) (hz : ds.length <= 10 ^ 5)
  (k : ∀ v s', Rd K.c.w X s'.heap v d -> Sat K X Γ R (delA K.c (updA L D (.data (.list ds))) ++ Δ) A s0 s' -> Q v s') (hdb : autoParam ((x == ("__debug__" : Str)) = false) aK) (hline : autoParam ((apos.endLine == pos.line) = true) aR)
  (hbase : autoParam (attributeBase (.Name x np) "pop" K.env (eval (.Name x np) K.env) = eval (.Name x np) K.env) aR) : wpAny K.c.M A2 (eval (.Call (.Attribute (.Name x np) "pop" apos) [] [] pos) K.env) Q E s := by
 refine mcall0 PySem.F.plainAttrs_list PySem.F.slot_list_pop PySem.F.type_list_pop (evalN S hx ?_ hdb) hbase hline
 obtain ⟨vs, n, e1, r⟩ := S.lst hD
 obtain ⟨us, v, r2, r3⟩ := RdL.snoc r
 refine ⟨⟨_, e1, rfl⟩, fun a ha => ⟨_, (by cases ha; exact e1), rfl⟩, ?_⟩
 have fq := S.fps _ (memRes hD) D (.head _)
 have hT : s.TypeIs (.ref D) "list" := ⟨_, e1, rfl⟩
 have hlast : (us ++ [v]).toArray[(us ++ [v]).toArray.size - 1]? = some v := by simp
 refine call_meets PySem.F.slot_list_pop hT PySem.F.entry_list_pop (PySem.F.args_list_pop_1 _) (MeetsSeq.list_pop_last D (us ++ [v]).toArray n v hlast (by rw [List.size_toArray, List.length_append, r2.length, sizeLine_eq]; simp; omega)) ⟨e1, ?_⟩
 have hs' : Heap.SameBut D s.heap (s.heap.update D (Obj.mapSeq fun xs => xs.eraseIdxIfInBounds ((us ++ [v]).toArray.size - 1))) := Heap.SameBut.update ..
 have e' := Heap.get?_update_self (Obj.mapSeq fun xs => xs.eraseIdxIfInBounds ((us ++ [v]).toArray.size - 1)) e1 rfl
 have hsz : (us ++ [v]).toArray.size - 1 = us.length := by simp
 have he : (us ++ [v]).eraseIdx us.length = us := by rw [List.eraseIdx_append_of_length_le (Nat.le_refl _)]; simp
 have q : HX K.c [D] s.heap (s.heap.update D (Obj.mapSeq fun xs => xs.eraseIdxIfInBounds ((us ++ [v]).toArray.size - 1))) := .sameBut hs' (S.base D fq.2.1) fq.2.2.2
 have hY : ∀ y ∈ [D], y ∈ X := fun y hy => lS hy ▸ fq.1
 refine k v _ (r3.hx q S.good.bas.frs hY) (S.updA (tk := s.toks) hD (Y := [D]) rfl (fun y hy => lS hy ▸ .head _) q ⟨us, n + 1, ?_, r2.hx q S.good.bas.frs hY⟩)
 rw [e', mapSeq_erase _ _ _ (by simp), hsz]
 show some (lstO ((us ++ [v]).eraseIdx us.length) (n + 1)) = _
 rw [he]
end
end
section
section
variable {K : Act} {A A2 : Around} {s0 : Shared} {E : Err} {X : List Addr} {Γ Γ' : Gam} {R R' : Ros} {Δ Δ' : Del K} {ss : List Stmt} {O O' : Out K -> Prop} {s s' : Shared} {L : AObs} {F : Frag} {κ : Type} [DecidableEq κ]
theorem delAt (dk : DKey K.c.w κ) {D : Addr} {kvs : List (κ × PyData)} {k : κ} {d : PyData} {kv : Value} {Q : Unit -> Shared -> Prop} (S : Sat K X Γ R (delA K.c L ++ Δ) A s0 s) (hD : (D, .data (dD dk.enc (kvs ++ [(k, d)]))) ∈ L) (rk : Rd K.c.w X s.heap kv (dk.enc k)) (hz : kvs.length <= 10 ^ 5) (hn : k ∉ kvs.map (·.1))
  (h : ∀ s', Sat K X Γ R (delA K.c (updA L D (.data (dD dk.enc kvs))) ++ Δ) A s0 s' -> Q () s') : wpAny K.c.M A2 (delItem (.ref D) kv) Q E s := by
 obtain ⟨vs, dd, r, hl⟩ := S.dct dk hD
 have fq := S.fps _ (memRes hD) D (.head _)
 rw [List.map_append] at r
 obtain ⟨us, u, r2, r3⟩ := RdL.snoc r
 have hul : us.length = (kvs.map (·.1)).length := by rw [r2.length]; simp
 have hzip : ((kvs ++ [(k, d)]).map (·.1)).zip (us ++ [u]) = (kvs.map (·.1)).zip us ++ [(k, u)] := by
  rw [List.map_append, List.zip_append hul.symm]; rfl
 rw [hzip] at dd
 have hno : k ∉ ((kvs.map (·.1)).zip us).map (·.1) := by rw [List.map_fst_zip (Nat.le_of_eq hul.symm)]; exact hn
 have hw : PySem.without ((kvs.map (·.1)).zip us ++ [(k, u)]) k = (kvs.map (·.1)).zip us := by
  unfold PySem.without
  rw [List.filter_append]
  have e1 := without_of_not_mem _ k hno
  unfold PySem.without at e1
  rw [e1]
  simp
 have hva : (valueAt ((kvs.map (·.1)).zip us ++ [(k, u)]) k).isSome = true := by
  unfold valueAt
  rw [Option.isSome_map, List.find?_isSome]
  exact ⟨(k, u), lR _ (.head _), by simp⟩
 refine wpAny_delItem_slot dd.typeIs (by decide) PySem.F.slot_dict_delitem ?_
 refine call_meetsIn PySem.F.slot_dict_delitem dd.typeIs PySem.F.entry_dict_delitem (PySem.F.args_dict_delitem_2 _ _) (meets_dict_delitem_pairs (dk.knd K.c.prog) D (dk.dr K.c.prog k _ _ _ rk)) ⟨_, dd, ?_, hva, fun h' d' hs' => ?_⟩
 ·rw [List.length_append, List.length_zip, hul, sizeLine_eq]; simp; omega
 ·rw [hw] at d'
  have q : HX K.c [D] s.heap h' := .sameBut hs' (S.base D fq.2.1) fq.2.2.2
  have hY : ∀ y ∈ [D], y ∈ X := fun y hy => lS hy ▸ fq.1
  exact h _ (S.updA hD (Y := [D]) rfl (fun y hy => lS hy ▸ .head _) q (Own1.ofD dk d' (r2.hx q S.good.bas.frs hY)))
theorem execDelPop (dk : DKey K.c.w κ) {x y : Str} {np yp apos cpos tpos pos : Pos} {D1 D2 : Addr} {ds : List PyData} {kvs : List (κ × PyData)} {k : κ} {d : PyData} (S : Sat K X Γ R (delA K.c L ++ Δ) A s0 s) (hx : (x, opq D1) ∈ Γ) (hy : (y, opq D2) ∈ Γ) (h1 : (D1, .data (.list (ds ++ [dk.enc k]))) ∈ L) (h2 : (D2, .data (dD dk.enc (kvs ++ [(k, d)]))) ∈ L) (hne : D2 ≠ D1)
  (hz1 : ds.length <= 10 ^ 5) (hz2 : kvs.length <= 10 ^ 5) (hn : k ∉ kvs.map (·.1)) (hdx : autoParam ((x == ("__debug__" : Str)) = false) aK) (hdy : autoParam ((y == ("__debug__" : Str)) = false) aK) (hline : autoParam ((apos.endLine == cpos.line) = true) aR)
  (hbase : autoParam (attributeBase (.Name x np) "pop" K.env (eval (.Name x np) K.env) = eval (.Name x np) K.env) aR) :
  wpAny K.c.M A2 (exec (.Delete [.Subscript (.Name y yp) (.Call (.Attribute (.Name x np) "pop" apos) [] [] cpos) tpos] pos) K.env) (fun f s' => f = .next /\ Sat K X Γ R (delA K.c (updA (updA L D1 (.data (.list ds))) D2 (.data (dD dk.enc kvs))) ++ Δ) A s0 s') E s := by
 refine wpAny_Delete (wpAny_deleteEach_cons ?_)
 rw [arm_delete_Subscript]
 refine wB (evalN S hy ?_ hdy)
 refine wB (wpAny_holding (popAt S hx h1 hz1 (fun v s1 rv S1 => ?_) hdx hline hbase))
 refine wB (wpAny_standAt ?_)
 refine wB (wpAny_holding (delAt dk S1 (updA_other h2 hne) rv hz2 hn fun s2 S2 => ?_))
 exact wpAny_release (wpAny_deleteEach_nil ⟨rfl, S2⟩)
theorem execPop {x : Str} {np apos cpos pos : Pos} {D : Addr} {ds : List PyData} {d : PyData} (S : Sat K X Γ R (delA K.c L ++ Δ) A s0 s) (hx : (x, opq D) ∈ Γ) (hD : (D, .data (.list (ds ++ [d]))) ∈ L) (hz : ds.length <= 10 ^ 5)
  (hdb : autoParam ((x == ("__debug__" : Str)) = false) aK) (hline : autoParam ((apos.endLine == cpos.line) = true) aR)
  (hbase : autoParam (attributeBase (.Name x np) "pop" K.env (eval (.Name x np) K.env) = eval (.Name x np) K.env) aR) (hi : autoParam (interactive K.env = false) aR) (hsw : autoParam (swapsWith (.Call (.Attribute (.Name x np) "pop" apos) [] [] cpos) none pos.line K.env = pure false) aR) :
  wpAny K.c.M A2 (exec (.Expr (.Call (.Attribute (.Name x np) "pop" apos) [] [] cpos) pos) K.env) (fun f s' => f = .next /\ Sat K X Γ R (delA K.c (updA L D (.data (.list ds))) ++ Δ) A s0 s') E s :=
 wpAny_Expr_any (popAt S hx hD hz (fun v s1 rv S1 => ⟨rfl, S1⟩) hdb hline hbase) hi hsw
end
end
section
structure Frm (κ : Type) where
 k : κ
 su : List κ
 m : Addr
 I : Addr
 i : Nat
section
variable {κ : Type} [DecidableEq κ]
noncomputable def muF (keys : List κ) (su : κ -> List κ) (sk : List κ) (stk : List (Frm κ)) : Nat := ((keys.filter fun u => decide (u ∉ sk)).map fun u => 1 + (su u).length).sum + (stk.map fun f => f.su.length - f.i).sum
theorem sum_filter {keys : List κ} (g : κ -> Nat) {sk : List κ} {k : κ} (hk : k ∈ keys) (hn : k ∉ sk) : ((keys.filter fun u => decide (u ∉ sk ++ [k])).map g).sum + g k <= ((keys.filter fun u => decide (u ∉ sk)).map g).sum := by
 induction keys with
 | nil => cases hk
 | cons u keys ih =>
  have mono : ∀ l : List κ, ((l.filter fun u => decide (u ∉ sk ++ [k])).map g).sum <= ((l.filter fun u => decide (u ∉ sk)).map g).sum := by
   intro l
   induction l with
   | nil => simp
   | cons x l ih =>
    by_cases h1 : x ∈ sk
    ·have h2 : x ∈ sk ++ [k] := lL _ h1
     simp only [List.filter_cons, h1, h2, not_true, decide_false, Bool.false_eq_true, if_false]
     exact ih
    ·by_cases h2 : x = k
     ·have h3 : x ∈ sk ++ [k] := by simp [h2]
      simp only [List.filter_cons, h1, h3, not_true, not_false_eq_true, decide_true, decide_false, Bool.false_eq_true, if_false, if_true, List.map_cons, List.sum_cons]
      omega
     ·have h3 : x ∉ sk ++ [k] := by simp [h1, h2]
      simp only [List.filter_cons, h1, h3, not_false_eq_true, decide_true, if_true, List.map_cons, List.sum_cons]
      omega
  by_cases h : u = k
  ·have h3 : u ∈ sk ++ [k] := by simp [h]
   have h1 : u ∉ sk := h ▸ hn
   simp only [List.filter_cons, h1, h3, not_true, not_false_eq_true, decide_true, decide_false, Bool.false_eq_true, if_false, if_true, List.map_cons, List.sum_cons]
   have := mono keys
   rw [h]
   omega
  ·have hk' : k ∈ keys := (lC hk).resolve_left fun e => h e.symm
   have := ih hk'
   by_cases h1 : u ∈ sk
   ·have h2 : u ∈ sk ++ [k] := lL _ h1
    simp only [List.filter_cons, h1, h2, not_true, decide_false, Bool.false_eq_true, if_false]
    exact this
   ·have h3 : u ∉ sk ++ [k] := by simp [h1, h]
    simp only [List.filter_cons, h1, h3, not_false_eq_true, decide_true, if_true, List.map_cons, List.sum_cons]
    omega
noncomputable def cntF (keys sk : List κ) : Prop := sk.length + (keys.filter fun u => decide (u ∉ sk)).length <= keys.length
theorem cntF.push {keys sk : List κ} {k : κ} (h : cntF keys sk) (hk : k ∈ keys) (hn : k ∉ sk) : cntF keys (sk ++ [k]) := by
 have e : ∀ l : List κ, (l.map fun _ => 1).sum = l.length := fun l => by induction l <;> simp_all; omega
 have := sum_filter (fun _ => 1) hk hn
 rw [e, e] at this
 unfold cntF at h ⊢
 rw [List.length_append]
 simp only [List.length_cons, List.length_nil]
 omega
theorem cntF.nil {keys : List κ} : cntF keys [] := by unfold cntF; rw [List.length_nil, Nat.zero_add]; exact List.length_filter_le _ _
structure GoodF (keys : List κ) (su : κ -> List κ) (rk : κ -> Nat) (sk : List κ) (stk : List (Frm κ)) : Prop where
 seen : ∀ f ∈ stk, f.k ∈ sk
 suc : ∀ f ∈ stk, f.su = su f.k
 desc : stk.Pairwise fun f g => rk f.k < rk g.k
theorem GoodF.push {keys : List κ} {su : κ -> List κ} {rk : κ -> Nat} {sk : List κ} {stk : List (Frm κ)} (h : GoodF keys su rk sk stk) {f : Frm κ} (hs : f.su = su f.k) (hr : ∀ g ∈ stk.head?, rk f.k < rk g.k) : GoodF keys su rk (sk ++ [f.k]) (f :: stk) := by
 refine ⟨fun g hg => ?_, fun g hg => ?_, ?_⟩
 ·rcases lC hg with rfl | hg
  ·simp
  ·exact lL _ (h.seen g hg)
 ·rcases lC hg with rfl | hg
  ·exact hs
  ·exact h.suc g hg
 ·refine List.pairwise_cons.mpr ⟨fun g hg => ?_, h.desc⟩
  cases stk with
  | nil => cases hg
  | cons t r =>
   have h0 := hr t rfl
   rcases lC hg with rfl | hg
   ·exact h0
   ·exact Nat.lt_trans h0 ((List.pairwise_cons.mp h.desc).1 g hg)
theorem GoodF.pop {keys : List κ} {su : κ -> List κ} {rk : κ -> Nat} {sk : List κ} {stk : List (Frm κ)} {f : Frm κ} (h : GoodF keys su rk sk (f :: stk)) : GoodF keys su rk sk stk := ⟨fun g hg => h.seen g (.tail _ hg), fun g hg => h.suc g (.tail _ hg), (List.pairwise_cons.mp h.desc).2⟩
theorem GoodF.step {keys : List κ} {su : κ -> List κ} {rk : κ -> Nat} {sk : List κ} {stk : List (Frm κ)} {f : Frm κ} (h : GoodF keys su rk sk (f :: stk)) : GoodF keys su rk sk ({ f with i := f.i + 1 } :: stk) :=
 ⟨fun g hg => (lC hg).elim (fun e => e ▸ h.seen f (.head _)) fun hg => h.seen g (.tail _ hg), fun g hg => (lC hg).elim (fun e => e ▸ h.suc f (.head _)) fun hg => h.suc g (.tail _ hg), List.pairwise_cons.mpr ⟨(List.pairwise_cons.mp h.desc).1, (List.pairwise_cons.mp h.desc).2⟩⟩
theorem GoodF.fresh {keys : List κ} {su : κ -> List κ} {rk : κ -> Nat} {sk : List κ} {stk : List (Frm κ)} (h : GoodF keys su rk sk stk) {k : κ} (hr : ∀ g ∈ stk.head?, rk k < rk g.k) : ∀ f ∈ stk, f.k ≠ k := fun f hf e => by
 cases stk with
 | nil => cases hf
 | cons t r =>
  have h0 := hr t rfl
  rcases lC hf with rfl | hf
  ·rw [e] at h0; exact Nat.lt_irrefl _ h0
  ·have := (List.pairwise_cons.mp h.desc).1 f hf
   rw [e] at this
   omega
end
theorem permA {α : Type} {D M : List α} {x y : α} : List.Perm (D ++ x :: y :: M) (y :: (D ++ x :: M)) := by
 have h1 : List.Perm (D ++ x :: y :: M) (D ++ y :: x :: M) := List.Perm.append_left _ (List.Perm.swap ..)
 exact h1.trans List.perm_middle
end
section
section
variable {K : Act} {A A2 : Around} {s0 : Shared} {E : Err} {X : List Addr} {Γ Γ' : Gam} {R R' : Ros} {Δ Δ' : Del K} {ss : List Stmt} {O O' : Out K -> Prop} {s s' : Shared} {L : AObs} {F : Frag} {κ : Type} [DecidableEq κ]
theorem Sat.toR {x : Str} {D : Addr} (S : Sat K X Γ R Δ A s0 s) (hx : (x, opq D) ∈ Γ) : Sat K X Γ ((x, D) :: R) Δ A s0 s :=
 { S with names := fun p hp => (lC hp).elim (fun e => by
   obtain ⟨v, H, r⟩ := S.good.vars _ hx
   rw [rd_opq r] at H
   rw [e]; exact H) (S.names p) }
theorem Ex.toR {x : Str} {D : Addr} (hx : (x, opq D) ∈ Γ) (h : Ex K A s0 E Γ ((x, D) :: R) Δ ss O) : Ex K A s0 E Γ R Δ ss O := fun s X S => h s X (S.toR hx)
theorem Ex.two {x y : Str} {p1 p2 p3 q1 q2 q3 pos : Pos} {k1 k2 : Nat} (hx : autoParam (decide (x ∈ K.xs) = true) aK) (hy : autoParam (decide (y ∈ K.xs) = true) aK) (hΓ : autoParam (offB [x, y] (Γ.map (·.1)) = true) aK) (hR : autoParam (offB [x, y] (R.map (·.1)) = true) aK) (hxy : autoParam ((x != y) = true) aK)
  (hs : autoParam (swapsWithSole [.Tuple [.Name x p1, .Name y p2] k1 p3] (.Tuple [.List [] q1, .List [] q2] k2 q3) pos.line K.env = pure false) aR)
  (hw : autoParam (swappedStores [.Tuple [.Name x p1, .Name y p2] k1 p3] (.Tuple [.List [] q1, .List [] q2] k2 q3) K.env = pure (some [x, y])) aR)
  (he : autoParam (starEach [.List [] q1, .List [] q2] K.env = [(false, eval (.List [] q1) K.env), (false, eval (.List [] q2) K.env)]) aR)
  (k : ∀ D1 D2, D1 ≠ D2 -> Ex K A s0 E ((x, opq D1) :: (y, opq D2) :: Γ) R (delA K.c [(D2, .data (.list [])), (D1, .data (.list []))] ++ Δ) ss O) :
  Ex K A s0 E Γ R Δ (.Assign [.Tuple [.Name x p1, .Name y p2] k1 p3] (.Tuple [.List [] q1, .List [] q2] k2 q3) pos :: ss) O := fun s X S => by
 have eΓy : Γ.filter (fun p => p.1 != y) = Γ := filter_off fun p hp e => off_of hΓ p hp (e ▸ .tail _ (.head _))
 have eΓx : Γ.filter (fun p => p.1 != x) = Γ := filter_off fun p hp e => off_of hΓ p hp (e ▸ .head _)
 have hRx : ∀ p ∈ R, p.1 ≠ x := fun p hp e => offR_of hR p hp (e ▸ .head _)
 have hRy : ∀ p ∈ R, p.1 ≠ y := fun p hp e => offR_of hR p hp (e ▸ .tail _ (.head _))
 refine wpAny_execs_cons (Assign_Tuple_swapped ?_ hs hw)
 refine wpAny_Tuple ?_
 rw [he]
 refine Calls.spliced_cons (noE_any (wK (EvF.nil (c := K.c) (l := K.l) (Γ := Γ) A s S.lev S.good) (fun v1 s1 q1 => ?_)))
 obtain ⟨pp1, D1, hD1, o1⟩ := q1
 have S1 : Sat K (D1 :: X) Γ R (delA K.c [(D1, .data (.list []))] ++ Δ) A s0 s1 := S.take pp1 hD1 o1
 refine Calls.spliced_cons (noE_any (wK (EvF.nil (c := K.c) (l := K.l) (Γ := Γ) A s1 S1.lev S1.good) (fun v2 s2 q2 => ?_)))
 obtain ⟨pp2, D2, hD2, o2⟩ := q2
 have S2 : Sat K (D2 :: D1 :: X) Γ R (delA K.c [(D2, .data (.list [])), (D1, .data (.list []))] ++ Δ) A s0 s2 := S1.take pp2 hD2 o2
 have hne : D1 ≠ D2 := S2.headNe _ (.head _)
 refine Calls.spliced_nil ⟨by rw [sizeLine_eq]; simp, ?_⟩
 have S3 := S2.pst (Pst.push' (o := { cls := .type "tuple", data := .seq #[.ref D1, .ref D2] }))
 refine unpackItems_tuple (items := #[.ref D1, .ref D2]) S3.good.bas.handled ⟨_, hP _ rfl, rfl, _, rfl⟩ fun h' he' => ?_
 have q4 : HX K.c [] (s2.heap.push { cls := .type "tuple", data := .seq #[.ref D1, .ref D2] }) h' := .keep0 fun b o e => he' b o (Nat.ne_of_lt (Heap.lt_size e)) e
 have S4 := S3.pst ⟨h', s2.toks, q4⟩
 refine wpAny_assignInOrder_more (wpAny_bindName (S4.assign (of_decide_eq_true hy) hRy (.opq D2) fun s5 S5 => ?_))
 rw [eΓy] at S5
 refine wpAny_assignInOrder_more (wpAny_bindName (S5.assign (of_decide_eq_true hx) hRx (.opq D1) fun s6 S6 => ?_))
 have e3 : ((y, opq D2) :: Γ).filter (fun p => p.1 != x) = (y, opq D2) :: Γ := by
  rw [List.filter_cons_of_pos (by simpa using (by simpa using hxy : x ≠ y).symm), eΓx]
 rw [e3] at S6
 exact wpAny_assignInOrder_none (k D1 D2 hne s6 _ S6)
theorem EvX.call1 {f : Str} {np pos : Pos} {e : Expr} {v : Value} {P Q : PyData -> AObs -> Prop} (ha : EvX K A s0 E Γ R L Δ e P) (g : Glb K.c f v) (k : Keep0 K.c v) (h : ∀ d L', P d L' -> ∃ d', CallOk K.c K.l v [d] d' /\ Q d' L') (hf : autoParam (K.env.kindOf f = some .globalImplicit) aR)
  (hd : autoParam ((f == ("__debug__" : Str)) = false) aK) (he : autoParam (starEach [e] K.env = (false, eval e K.env) :: starEach [] K.env) aR) : EvX K A s0 E Γ R L Δ (.Call (.Name f np) [e] [] pos) Q := fun s X S => by
 refine wpAny_Call_ofName (wpAny_Name (g A _ s K.env _ S.good.bas.stays S.good.globals S.good.builtins S.good.kind hf ?_) hd)
 show wpAny K.c.M A (callWith pos v [] (backTo pos (starEach [e] K.env)) []) _ _ s
 rw [he]
 refine callWith_of (P := fun h => K.c.base.StaysIn h) rfl k (evalArgs_plain (Calls.spliced_cons (wK (ha s X S) (fun u s1 q => ?_))))
 obtain ⟨X', d, L', hP, S1, r1⟩ := q
 obtain ⟨d', hd', hQ⟩ := h d L' hP
 refine Calls.spliced_nil ⟨S1.good.bas.stays, ?_⟩
 exact noE_any (wK (hd' A X' s1 [u] S1.lev S1.good.bas (.cons r1 .nil)) (fun w s2 r => ⟨X', d', L', hQ, S1.pst r.1, r.2⟩))
theorem Ex1.extendX {x : Str} {px pos : Pos} {D : Addr} {ds : List PyData} {e : Expr} {P : PyData -> AObs -> Prop} (hx : (x, D) ∈ R) (h : EvX K A s0 E Γ R L (resO K.c D (.list ds) :: Δ) e P) (hP : ∀ d L', P d L' -> ∃ es, d = .list es /\ ds.length + es.length <= 10 ^ 6) (hxs : x ∈ K.xs) (hΓ : ∀ p ∈ Γ, p.1 ≠ x) (hR : ∀ p ∈ R, p.1 = x -> p.2 = D) :
  Ex1 K A s0 E Γ R (delA K.c L ++ resO K.c D (.list ds) :: Δ) (.AugAssign (.Name x px) .Add e pos) (fun o => ∃ es L', P (.list es) L' /\ o = .next Γ R (delA K.c L' ++ resO K.c D (.list (ds ++ es)) :: Δ)) := fun s X S => by
 refine wpAny_AugAssign_Name ((S.names _ hx).load S.good.kind (wK (h s X S) (fun v s1 q => ?_)))
 obtain ⟨X, d, L', hPd, S1', r1⟩ := q
 obtain ⟨es, rfl, hz⟩ := hP d L' hPd
 have S1 : Sat K X Γ R (resO K.c D (.list ds) :: (delA K.c L' ++ Δ)) A s0 s1 := S1'.perm perm_loop.symm
 have hl1 : LstI K.c.w X s1.heap D ds := S1.res _ (.head _)
 obtain ⟨vs, n, e1, r⟩ := hl1
 have fq := S1.fps _ (.head _) D (.head _)
 have hz := r1.list_inv; clear r1; obtain ⟨b, ws, n2, hb, eb, rb⟩ := hz
 refine inplace_list e1 eb (by rw [r.length, rb.length]; exact hz) fun h' k hs' e' => ?_
 have q : HX K.c [D] s1.heap h' := .sameBut hs' (S1.base D fq.2.1) fq.2.2.2
 have hY : ∀ y ∈ [D], y ∈ X := fun y hy => lS hy ▸ fq.1
 have S2 := S1.changed (tk := s1.toks) (d' := .list (ds ++ es)) hs' ⟨vs ++ ws, k, e', (r.hx q S1.good.bas.frs hY).append (rb.hx q S1.good.bas.frs hY)⟩
 refine S2.assignR hxs fun h2 tk t ht q2 S3 => ⟨X, _, _, _, ⟨es, L', hPd, rfl⟩, (S3.weak (fun p hp => List.mem_filter.mpr ⟨hp, by simpa using hΓ p hp⟩) (fun p hp => ?_) (List.Sublist.refl _)).perm perm_loop⟩
 by_cases hp1 : p.1 = x
 ·rw [show p = (x, D) from Prod.ext hp1 (hR p hp hp1)]; exact .head _
 ·exact .tail _ (List.mem_filter.mpr ⟨hp, by simpa using hp1⟩)
end
end
section
section
variable {K : Act} {A A2 : Around} {s0 : Shared} {E : Err} {X : List Addr} {Γ Γ' : Gam} {R R' : Ros} {Δ Δ' : Del K} {ss : List Stmt} {O O' : Out K -> Prop} {s s' : Shared} {L : AObs} {F : Frag} {κ : Type} [DecidableEq κ]
noncomputable def EtX (K : Act) (A : Around) (s0 : Shared) (E : Err) (Γ : Gam) (R : Ros) (Δ : Del K) (e : Expr) (b : Bool) : Prop :=
 ∀ s X, Sat K X Γ R Δ A s0 s -> wpAny K.c.M A (isTrue e K.env (eval e K.env)) (fun r s' => r = b /\ ∃ X', Sat K X' Γ R Δ A s0 s') E s
theorem EtX.of {e : Expr} {d : PyData} {b : Bool} (h : EvX K A s0 E Γ R L Δ e (fun d' L' => d' = d /\ L' = L)) (t : Tru K.c d b) (he : ∀ whole, isTrue e K.env whole = (do let v <- whole; standAt e.pos; holding [v] (truthy v)) := by intro _; rfl) : EtX K A s0 E Γ R (delA K.c L ++ Δ) e b := fun s X S =>
 wpAny_isTrue_value (wK (h s X S) (fun v s1 q => by
  obtain ⟨X', d', L', ⟨rfl, rfl⟩, S1, r1⟩ := q
  exact noE_any (wK (t K.l A X' s1 v S1.lev S1.good.bas r1) (fun r s2 q2 => ⟨q2.1, X', S1.pst q2.2⟩)))) (he _)
theorem Ex1.whileX {test : Expr} {body : List Stmt} {pos : Pos} (Inv : Nat -> Gam -> Ros -> Del K -> Prop) (O : Out K -> Prop)
  (h : ∀ n Γ R Δ, Inv n Γ R Δ -> ∃ b, EtX K A s0 E Γ R Δ test b /\ (b = true -> Ex K A s0 E Γ R Δ body fun o => (∃ m Γ' R' Δ', m < n /\ (o = .next Γ' R' Δ' \/ o = .cont Γ' R' Δ') /\ Inv m Γ' R' Δ') \/ (∃ Γ' R' Δ', o = .brk Γ' R' Δ' /\ O (.next Γ' R' Δ')) \/ ∃ d, o = .ret d /\ O (.ret d)) /\ (b = false -> O (.next Γ R Δ)))
  (n : Nat) (h0 : Inv n Γ R Δ) (hE : PassesOwn K.c.M A K.env E := by exact fun _ _ f => f.elim) : Ex1 K A s0 E Γ R Δ (.While test body [] pos) O := by
 refine Ex1.whileG Inv O (fun n Γ R Δ hi => ?_) n h0 hE
 obtain ⟨b, h1, h2, h3⟩ := h n Γ R Δ hi
 exact ⟨b, h1, h2, fun e => .nil (h3 e)⟩
end
end
section
section
variable {prog : Program} {w : World} {A : Around} {E : Value -> Shared -> Prop} {s : Shared}
theorem meta_str : typeOf (.type "str") = pure (.type "type") := by first | rfl | kernel_rfl
theorem sub_str_str : isSubtype (.type "str") (.type "str") = pure true := by rw [isSubtype_type]; kernel_rfl
theorem sub_tup_tup : isSubtype (.type "tuple") (.type "tuple") = pure true := by rw [isSubtype_type]; kernel_rfl
theorem nested_str {k : Value} {dep : Int} {tk : Tok} {Q : Fin -> Shared -> Prop} (hk : k = .int dep tk) (hq : Q (.done (.ret (.bool true))) s) : wpAny (model prog w) A (Builtin.«issubclass.nested» ⟨[.type "str", .type "str", k], []⟩) Q E s := by
 subst hk
 have hm := meta_str
 have hs := sub_str_str
 repeat (any_goals (first | assumption | wp_step))
theorem kind_isn : builtinKind "issubclass.nested" = none := by decide +kernel
theorem plain_isn : plainId "issubclass.nested" = true := by decide +kernel
theorem args_isn (a b c : Value) : argsOk "issubclass.nested" ⟨[a, b, c], []⟩ := by unfold argsOk; kernel_rfl
theorem call_nested {x k : Value} {tk : Tok} {dep : Int} {Q : Value -> Shared -> Prop} (hx : x = .type "str") (hk : k = .int dep tk) (hq : Q (.bool true) s) : wpAny (model prog w) A (call (.builtin "issubclass.nested") [.type "str", x, k]) Q E s := by
 subst hx
 exact call_function_entry kind_isn plain_isn PySem.F.entry_issubclass_nested (args_isn _ _ _) (nested_str hk ⟨_, rfl, hq⟩)
theorem nested_tup {T : Addr} {vs : List Value} {n : Nat} {k : Value} {tk : Tok} {Q : Fin -> Shared -> Prop} (hk : k = .int 0 tk) (hT : s.heap.get? T = some (tupO (.type "str" :: vs) n)) (hq : Q (.done (.ret (.bool true))) s) : wpAny (model prog w) A (Builtin.«issubclass.nested» ⟨[.type "str", .ref T, k], []⟩) Q E s := by
 subst hk
 have hTy : s.TypeIs (.ref T) "tuple" := ⟨_, hT, rfl⟩
 have hm := sub_tup_tup
 unfold Builtin.«issubclass.nested»
 repeat (any_goals (first | assumption | ((with_reducible show wpAny _ _ (call (Value.builtin "issubclass.nested") _ _) _ _ _); refine call_nested (by simp) (dep := 0 + 1) (tk := 0) rfl ?_) | wp_step))
theorem meets_sub {T : Addr} {vs : List Value} {n : Nat} : Meets (Builtin.«issubclass» ⟨[.type "str", .ref T], []⟩) (fun _ R s => s.heap.get? T = some (tupO (.type "str" :: vs) n) /\ R (.ok (.ret (.bool true))) s) :=
 fun _ _ _ _ _ hs => issubclass_outer (nested_tup rfl hs.1 hs.2)
end
section
variable {c : Cfg} {l : Nat}
theorem CallOk.typeS {x : Str} : CallOk c l (.type "type") [.str x] tyS := fun A X s vs L B r => by
 have hz := r.one_inv; clear r; obtain ⟨_, r⟩ := hz
 have hz := r.str_inv; clear r; obtain ⟨t⟩ := hz
 exact call_type_of (Tx := "str") rfl (by decide +kernel) ⟨.refl, .tys⟩
theorem rd_tyS {w : World} {X : List Addr} {h : Heap} {v : Value} (r : Rd w X h v tyS) : v = .type "str" := by
 have hz : RdD w X h [(.none, .bool true)] v := r.inv
 cases hz with
 | dict _ _ _ _ _ k => exact (key_none k rfl).elim
 | opq b e => exact nomatch (Prod.mk.inj (List.cons.inj e).1).2
 | tys e => rfl
 | inst _ _ _ _ _ _ _ _ _ _ _ _ e => exact nomatch (Prod.mk.inj (List.cons.inj e).1).2
variable {X : List Addr} {env : Env} {Γ : Gam}
theorem Et.subStr {e : Expr} {np p1 p2 p3 pos : Pos} {k : Nat} (h : Ev c l X env Γ e tyS) (g1 : Glb c "issubclass" (.builtin "issubclass")) (g2 : Glb c "str" (.type "str")) (g3 : Glb c "bytes" (.type "bytes")) (hf1 : autoParam (env.kindOf "issubclass" = some .globalImplicit) aR) (hf2 : autoParam (env.kindOf "str" = some .globalImplicit) aR) (hf3 : autoParam (env.kindOf "bytes" = some .globalImplicit) aR)
  (he : autoParam (starEach [e, .Tuple [.Name "str" p1, .Name "bytes" p2] k p3] env = (false, eval e env) :: (false, eval (.Tuple [.Name "str" p1, .Name "bytes" p2] k p3) env) :: starEach [] env) aR)
  (he2 : autoParam (starEach [.Name "str" p1, .Name "bytes" p2] env = (false, eval (.Name "str" p1) env) :: (false, eval (.Name "bytes" p2) env) :: starEach [] env) aR)
  (hb : ∀ whole, isTrue (.Call (.Name "issubclass" np) [e, .Tuple [.Name "str" p1, .Name "bytes" p2] k p3] [] pos) env whole = (do let v <- whole; standAt pos; holding [v] (truthy v)) := by intro _; rfl) :
  Et c l X env Γ (.Call (.Name "issubclass" np) [e, .Tuple [.Name "str" p1, .Name "bytes" p2] k p3] [] pos) true := fun A s L G => by
 refine wpAny_isTrue_value ?_ (hb _)
 refine wpAny_Call_ofName (wpAny_Name (g1 A _ s env _ G.bas.stays G.globals G.builtins G.kind hf1 ?_) (by kernel_rfl))
 show wpAny c.M A (callWith pos (.builtin "issubclass") [] (backTo pos (starEach [e, .Tuple [.Name "str" p1, .Name "bytes" p2] k p3] env)) []) _ _ s
 rw [he]
 refine callWith_of (P := fun _ => True) rfl keep_meth (evalArgs_plain (Calls.spliced_cons (h.use L G fun v1 s1 q1 r1 G1 => ?_)))
 rw [rd_tyS r1]
 refine Calls.spliced_cons (wpAny_Tuple (k := k) ?_)
 rw [he2]
 refine Calls.spliced_cons (wpAny_Name (g2 A _ s1 env _ G1.bas.stays G1.globals G1.builtins G1.kind hf2 ?_) (by kernel_rfl))
 refine Calls.spliced_cons (wpAny_Name (g3 A _ s1 env _ G1.bas.stays G1.globals G1.builtins G1.kind hf3 ?_) (by kernel_rfl))
 refine Calls.spliced_nil ⟨by rw [sizeLine_eq]; simp, Calls.spliced_nil ⟨trivial, ?_⟩⟩
 refine call_issubclass meets_sub ⟨hP _ rfl, ?_⟩
 exact wpAny_truthy_bool ⟨rfl, q1.trans .push'⟩
theorem Et.isBytes {e : Expr} {x : Str} {np p1 pos : Pos} (h : Ev c l X env Γ e (.str x)) (g1 : Glb c "isinstance" (.builtin "isinstance")) (g3 : Glb c "bytes" (.type "bytes")) (hf1 : autoParam (env.kindOf "isinstance" = some .globalImplicit) aR) (hf3 : autoParam (env.kindOf "bytes" = some .globalImplicit) aR)
  (he : autoParam (starEach [e, .Name "bytes" p1] env = (false, eval e env) :: (false, eval (.Name "bytes" p1) env) :: starEach [] env) aR)
  (hb : ∀ whole, isTrue (.Call (.Name "isinstance" np) [e, .Name "bytes" p1] [] pos) env whole = (do let v <- whole; standAt pos; holding [v] (truthy v)) := by intro _; rfl) :
  Et c l X env Γ (.Call (.Name "isinstance" np) [e, .Name "bytes" p1] [] pos) false := fun A s L G => by
 refine wpAny_isTrue_value ?_ (hb _)
 refine wpAny_Call_ofName (wpAny_Name (g1 A _ s env _ G.bas.stays G.globals G.builtins G.kind hf1 ?_) (by kernel_rfl))
 show wpAny c.M A (callWith pos (.builtin "isinstance") [] (backTo pos (starEach [e, .Name "bytes" p1] env)) []) _ _ s
 rw [he]
 refine callWith_of (P := fun _ => True) rfl keep_meth (evalArgs_plain (Calls.spliced_cons (h.use L G fun v1 s1 q1 r1 G1 => ?_)))
 refine Calls.spliced_cons (wpAny_Name (g3 A _ s1 env _ G1.bas.stays G1.globals G1.builtins G1.kind hf3 ?_) (by kernel_rfl))
 refine Calls.spliced_nil ⟨trivial, ?_⟩
 have hz := r1.str_inv; clear r1; obtain ⟨t⟩ := hz
 exact IsiPair.str_bytes (wpAny_truthy_bool ⟨rfl, q1.trans .tk⟩)
end
end
section
section
variable {c : Cfg} {l : Nat} {X : List Addr} {env : Env} {Γ : Gam}
theorem P2.of_str {t : Value -> Value -> Sem Value} {x y : Str} {d : PyData} (h : ∀ l A X s ta tb, Lev l A -> Bas c A X s.heap -> wpAny c.M A (t (.str x ta) (.str y tb)) (Yield c X s d) NoE s) : P2 c t (.str x) (.str y) d := fun l A X s v1 v2 L B r1 r2 => by
 have h1 := r1.str_inv; have h2 := r2.str_inv; clear r1 r2
 obtain ⟨ta⟩ := h1; obtain ⟨tb⟩ := h2
 exact h l A X s _ _ L B
theorem P2.addS {x y : Str} (hz : x.length + y.length <= 1000) : P2 c (binaryOp .Add) (.str x) (.str y) (.str (x ++ y)) := .of_str fun l A X s ta tb _ _ => PyProof.Rows.add_str (fun t' tk => ⟨⟨s.heap, tk, .refl _⟩, .str _ _⟩) (by rw [sizeLine_eq]; omega)
theorem P2.iaddS {x y : Str} (hz : x.length + y.length <= 1000) : P2 c (inplaceOp .Add) (.str x) (.str y) (.str (x ++ y)) := .of_str fun l A X s ta tb _ _ => PyProof.Rows.iadd_str (fun t' tk => ⟨⟨s.heap, tk, .refl _⟩, .str _ _⟩) (by rw [sizeLine_eq]; omega)
theorem Ev.startsW {o e : Expr} {apos pos : Pos} {x y : Str} (ho : Ev c l X env Γ o (.str x)) (he : Ev c l X env Γ e (.str y)) (hbase : autoParam (attributeBase o "startswith" env (eval o env) = eval o env) aR) (hline : autoParam ((apos.endLine == pos.line) = true) aR) (hs : autoParam (starEach [e] env = [(false, eval e env)]) aR) :
  Ev c l X env Γ (.Call (.Attribute o "startswith" apos) [e] [] pos) (.bool (Txt.startswith x y)) := fun A s L G =>
 Call_method1 hbase hs hline (ho.use L G fun ov s1 p1 r1 G1 => by
  have hz := r1.str_inv; clear r1; obtain ⟨t⟩ := hz
  exact SB.startswith (he.use L G1 fun v s2 p2 r2 G2 => by
   have hz := r2.str_inv; clear r2; obtain ⟨u⟩ := hz
   exact ⟨y, u, rfl, p1.trans p2, .bool _⟩))
theorem Ev.endsW {o e : Expr} {apos pos : Pos} {x y : Str} (ho : Ev c l X env Γ o (.str x)) (he : Ev c l X env Γ e (.str y)) (hbase : autoParam (attributeBase o "endswith" env (eval o env) = eval o env) aR) (hline : autoParam ((apos.endLine == pos.line) = true) aR) (hs : autoParam (starEach [e] env = [(false, eval e env)]) aR) :
  Ev c l X env Γ (.Call (.Attribute o "endswith" apos) [e] [] pos) (.bool (Txt.endswith x y)) := fun A s L G =>
 Call_method1 hbase hs hline (ho.use L G fun ov s1 p1 r1 G1 => by
  have hz := r1.str_inv; clear r1; obtain ⟨t⟩ := hz
  exact SB.endswith (he.use L G1 fun v s2 p2 r2 G2 => by
   have hz := r2.str_inv; clear r2; obtain ⟨u⟩ := hz
   exact ⟨y, u, rfl, p1.trans p2, .bool _⟩))
theorem Ev.countS {o e : Expr} {apos pos : Pos} {x y : Str} (ho : Ev c l X env Γ o (.str x)) (he : Ev c l X env Γ e (.str y)) (hbase : autoParam (attributeBase o "count" env (eval o env) = eval o env) aR) (hline : autoParam ((apos.endLine == pos.line) = true) aR) (hs : autoParam (starEach [e] env = [(false, eval e env)]) aR) :
  Ev c l X env Γ (.Call (.Attribute o "count" apos) [e] [] pos) (.int (Txt.count x y)) := fun A s L G =>
 Call_method1 hbase hs hline (ho.use L G fun ov s1 p1 r1 G1 => by
  have hz := r1.str_inv; clear r1; obtain ⟨t⟩ := hz
  exact SB.count (he.use L G1 fun v s2 p2 r2 G2 => by
   have hz := r2.str_inv; clear r2; obtain ⟨u⟩ := hz
   exact ⟨y, u, rfl, (p1.trans p2).trans .tk, .int _ _⟩))
theorem rdl_strs {w : World} {X : List Addr} {h : Heap} : ∀ l : List (Str × Tok), RdL w X h (strValues l) ((l.map (·.1)).map .str)
 | [] => .nil
 | (x, t) :: r => .cons (.str x t) (rdl_strs r)
theorem Ev.splitS {o e : Expr} {apos pos : Pos} {x y : Str} (ho : Ev c l X env Γ o (.str x)) (he : Ev c l X env Γ e (.str y)) (hy : (y.length == 0) = false) (hx : x.length <= 1000) (hn : (Builtin.Str.partsBetween x (Builtin.Str.occurrences x y 0 x.length (x.length + 1)) y.length).length <= 10000) (hbase : autoParam (attributeBase o "split" env (eval o env) = eval o env) aR) (hline : autoParam ((apos.endLine == pos.line) = true) aR) (hs : autoParam (starEach [e] env = [(false, eval e env)]) aR) :
  Ev c l X env Γ (.Call (.Attribute o "split" apos) [e] [] pos) (.list ((Txt.split x y).map .str)) := fun A s L G => by
 refine mcall1 PySem.F.plainAttrs_str PySem.F.slot_str_split PySem.F.type_str_split (ho.use L G fun ov s1 p1 r1 G1 => ?_) hbase hline hs
 have hz := r1.str_inv; clear r1; obtain ⟨t⟩ := hz
 refine ⟨typeIs_str _ _ _, (fun _ e => nomatch e), he.use L G1 fun v s2 p2 r2 G2 => ?_⟩
 have hz := r2.str_inv; clear r2; obtain ⟨u⟩ := hz
 have fin : ∀ (l : List (Str × Tok)) (k : Nat), l.map (·.1) = Txt.split x y -> Yield c X s (.list ((Txt.split x y).map .str)) (.ref s2.heap.objs.size) { s2 with toks := k, heap := s2.heap.push { cls := .type "list", data := .seq (strValues l).toArray } } := fun l k hl => by
  refine ⟨(p1.trans p2).trans ⟨_, k, .push _ _⟩, ?_⟩
  rw [<- hl]
  exact Rd.newList (c := c) (s := s2) G.bas.frs (fun a h => G2.bas.alloc a h) (rdl_strs l)
 cases h1 : (decide (x.length < y.length) || decide (Builtin.Str.strKind x < Builtin.Str.strKind y))
 ·cases hf : (Builtin.Str.occurrences x y 0 x.length (x.length + 1)).isEmpty
  ·refine call_meets PySem.F.slot_str_split (typeIs_str _ _ _) PySem.F.entry_str_split (PySem.F.args_str_split_2 _ _) (meets_str_split_sep x y t u h1 hy hf (by rw [sizeLine_eq]; omega) (by rw [sizeLine_eq]; omega)) ?_
   show Yield c X s _ _ _
   rw [strsFrom_eq]
   exact fin _ _ ((numbered_texts _ _).trans (((if_neg (ne_true_of_eq_false h1)).trans (if_neg (ne_true_of_eq_false hf))).symm))
  ·exact call_meets PySem.F.slot_str_split (typeIs_str _ _ _) PySem.F.entry_str_split (PySem.F.args_str_split_2 _ _) (meets_str_split_not_found x y t u h1 hy hf) (fin [(x, t)] s2.toks ((if_neg (ne_true_of_eq_false h1)).trans (if_pos hf)).symm)
 ·exact call_meets PySem.F.slot_str_split (typeIs_str _ _ _) PySem.F.entry_str_split (PySem.F.args_str_split_2 _ _) (meets_str_split_cannot_occur x y t u h1) (fin [(x, t)] s2.toks (if_pos h1).symm)
inductive StrI (xs : List Str) : List Value -> Prop
 | mk (l : List (Str × Tok)) (e : l.map (·.1) = xs) : StrI xs (strValues l)
theorem strs_of {w : World} {X : List Addr} {h : Heap} {xs : List Str} : ∀ {vs : List Value}, RdL w X h vs (xs.map .str) -> StrI xs vs := by
 induction xs with
 | nil => intro vs r; rw [r.nil_inv]; exact ⟨[], rfl⟩
 | cons x xs ih =>
  intro vs r
  obtain ⟨v, us, a, q⟩ := r.cons_inv
  obtain ⟨t⟩ := a.str_inv
  obtain ⟨l, e⟩ := ih q
  exact ⟨(x, t) :: l, congrArg (x :: ·) e⟩
theorem Ev.joinS {o e : Expr} {apos pos : Pos} {x : Str} {xs : List Str} (ho : Ev c l X env Γ o (.str x)) (he : Ev c l X env Γ e (.list (xs.map .str))) (hok : JoinOk x xs = true) (hbase : autoParam (attributeBase o "join" env (eval o env) = eval o env) aR) (hline : autoParam ((apos.endLine == pos.line) = true) aR) (hs : autoParam (starEach [e] env = [(false, eval e env)]) aR) :
  Ev c l X env Γ (.Call (.Attribute o "join" apos) [e] [] pos) (.str (Txt.join x xs)) := fun A s L G =>
 Call_method1 hbase hs hline (ho.use L G fun ov s1 p1 r1 G1 => by
  have hz := r1.str_inv; clear r1; obtain ⟨t⟩ := hz
  exact SB.join (he.use L G1 fun v s2 p2 r2 G2 => by
    have hz := r2.list_inv; clear r2; obtain ⟨a, vs, n, ha, e, q⟩ := hz
    obtain ⟨l, hl⟩ := strs_of q
    exact ⟨a, l, rfl, ⟨_, e, rfl, _, rfl⟩, xs, hl, hok, fun t' k => ⟨(p1.trans p2).trans ⟨_, k, .refl _⟩, .str _ _⟩⟩))
theorem Ev.callStar {f : Str} {np p pos : Pos} {e0 e : Expr} {d0 d1 d : PyData} {ds : List PyData} (h : Fn c l f (d0 :: ds) d) (h0 : Ev c l X env Γ e0 d0) (h1 : Ev c l X env Γ e d1) (hd : isRow d1 = some ds) (hz : ds.length <= 10 ^ 6) (hf : autoParam (env.kindOf f = some .globalImplicit) aR) (hdb : (f == ("__debug__" : Str)) = false := by decide)
  (he : autoParam (starEach [e0, .Starred e p] env = (false, eval e0 env) :: starEach [.Starred e p] env) aR) (he2 : autoParam (starEach [.Starred e p] env = (true, eval e env) :: starEach [] env) aR) (hst : autoParam ((backTo pos (starEach [e0, .Starred e p] env)).any (·.1) = true) aR) :
  Ev c l X env Γ (.Call (.Name f np) [e0, .Starred e p] [] pos) d := fun A s L G => by
 obtain ⟨v, hg, hk, hc⟩ := h
 refine wpAny_Call_ofName (wpAny_Name (hg A _ s env _ G.bas.stays G.globals G.builtins G.kind hf ?_) hdb)
 show wpAny c.M A (callWith pos v [] (backTo pos (starEach [e0, .Starred e p] env)) []) _ _ s
 refine ks_call (P := fun h => c.base.StaysIn h) hst hk ?_
 rw [he]
 refine evalArgs_plain (Calls.spliced_cons (h0.use L G fun v0 s1 p1 r1 G1 => ?_))
 refine items_star (h1.use L G1 fun v1 s2 p2 r2 G2 => star_rd r2 hd hz G2.bas.frs fun vs s3 p3 r3 => Calls.spliced_nil ?_) he2
 rw [List.append_nil]
 have G3 := G2.hx0 p3.hx
 exact ⟨G3.bas.stays, wK (hc A X s3 (v0 :: vs) L G3.bas (.cons (r1.hx0 (p2.trans p3).hx G.bas.frs) r3)) (fun v s4 q => ⟨((p1.trans p2).trans p3).trans q.1, q.2⟩)⟩
theorem CallOk.ofA {f : Addr} {ds : List PyData} {d : PyData} (h : FnA c l f ds [] fun d' L' => d' = d /\ L' = []) : CallOk c l (.ref f) ds d := fun A X s vs L B r => by
 refine wpAny_call (codeAny_mono (h A X s vs L B r ⟨(fun _ h => nomatch h), (fun _ h => nomatch h), .nil⟩) fun r s' hr => ?_)
 rcases r with e | fl
 ·exact hr.elim
 ·cases fl with
  | ret v =>
   obtain ⟨h', tk, d', L', rfl, ⟨rfl, rfl⟩, q, _, _, _, _, rv⟩ := hr
   exact ⟨⟨h', tk, q⟩, rv⟩
  | _ => exact hr.elim
end
section
variable {K : Act} {A : Around} {s0 : Shared} {E : Err} {Γ : Gam} {R : Ros} {Δ : Del K}
theorem Ex1.tryNo {O : Out K -> Prop} {h0 : ExceptHandler} {hs : List ExceptHandler} {pos : Pos} {body : List Stmt} (hbody : Ex K A s0 NoE Γ R Δ body O) : Ex1 K A s0 E Γ R Δ (.Try body (h0 :: hs) [] [] pos) O := fun s X S => by
 refine wpAny_Try_except (wM (hbody s X S) (fun f s1 hp => ?_) fun y s1 hp => hp.elim)
 cases f with
 | next => exact wpAny_execs_nil hp
 | brk => exact hp
 | cont => exact hp
 | ret v => exact hp
end
end
section
section
variable {K : Act} {A : Around} {s0 : Shared} {E : Err} {Γ Γ1 : Gam} {R : Ros} {Δ : Del K} {ss : List Stmt} {O : Out K -> Prop}
theorem Ex.set {x : Str} {px pos : Pos} {e : Expr} {d : PyData} (h : EvS K A s0 E Γ R Δ e d) (k : Ex K A s0 E ((x, d) :: Γ1) R Δ ss O) (hx : autoParam (decide (x ∈ K.xs) = true) aK) (hΓ : autoParam (Γ.filter (fun p => p.1 != x) = Γ1) aK) (hR : autoParam (offB [x] (R.map (·.1)) = true) aK) (hs : autoParam (swapsWith e (some (.Name x px)) pos.line K.env = pure false) aR) :
  Ex K A s0 E Γ R Δ (.Assign [.Name x px] e pos :: ss) O :=
 Ex.seq (Ex1.assign h (of_decide_eq_true hx) (fun p hp e => by
  have := List.all_eq_true.mp hR p.1 (lM (f := (·.1)) hp)
  simp [e] at this) hs) (hΓ ▸ k)
theorem Ex.aug {x : Str} {px pos : Pos} {op : Operator} {e : Expr} {d1 d2 d : PyData} (hx : (x, d1) ∈ Γ) (h : ∀ X, Ev K.c K.l X K.env Γ e d2) (hp : P2 K.c (inplaceOp op) d1 d2 d) (k : Ex K A s0 E ((x, d) :: Γ1) R Δ ss O) (hxs : autoParam (decide (x ∈ K.xs) = true) aK) (hΓ : autoParam (Γ.filter (fun p => p.1 != x) = Γ1) aK) (hR : autoParam (offB [x] (R.map (·.1)) = true) aK) :
  Ex K A s0 E Γ R Δ (.AugAssign (.Name x px) op e pos :: ss) O :=
 Ex.seq (Ex1.aug hx h hp (of_decide_eq_true hxs) (fun p hp e => by
  have := List.all_eq_true.mp hR p.1 (lM (f := (·.1)) hp)
  simp [e] at this)) (hΓ ▸ k)
end
end
section
noncomputable def hB (b : Bool) : Int := if b then 1 else 0
noncomputable def tabB (led b : Bool) : SetTable := (layNew (.fresh 0 0 led) #[] (hB b) (.bool b)).2.1
noncomputable abbrev setO (es : Array (Int × Value)) (ep : Nat) (t : SetTable) : Obj := { cls := .type "set", dict := none, data := .set es ep t, slots := #[] }
noncomputable abbrev setE (led : Bool) : Obj := setO #[] 0 (.fresh 0 0 led)
noncomputable abbrev set1 (led b : Bool) : Obj := setO #[(hB b, .bool b)] 1 (tabB led b)
theorem layB (led b : Bool) : layNew (.fresh 0 0 led) #[] (hB b) (.bool b) = (#[(hB b, .bool b)], tabB led b, false, false) := by cases led <;> cases b <;> kernel_rfl
theorem tab_fits (led b : Bool) : (tabB led b).fits 1 = true := by cases led <;> cases b <;> kernel_rfl
theorem tab_plain (led b : Bool) : (tabB led b).plain = true := by cases led <;> cases b <;> kernel_rfl
theorem tab_led (led b : Bool) : (tabB led b).led = led := by cases led <;> cases b <;> kernel_rfl
theorem tab_full (led b : Bool) : (tabB led b).tooFull = false := by cases led <;> cases b <;> kernel_rfl
theorem tab_place (led b : Bool) : (tabB led b).place = #[if b then 1 else 0] := by cases led <;> cases b <;> kernel_rfl
section
variable {prog : Program} {w : World} {A : Around} {E : Value -> Shared -> Prop} {s : Shared}
theorem pyHash_bool {b : Bool} {Q : Int -> Shared -> Prop} (h : Q (hB b) { s with toks := s.toks + 1 }) : wpAny (model prog w) A (pyHash (.bool b)) Q E s := by
 have hT : s.TypeIs (.bool b) "bool" := rfl
 have e : hB b = (if b then 1 else 0 : Int) := rfl
 unfold pyHash
 refine wB ?_
 rw [cRoomFor, if_neg (by rw [show [Value.bool b].any Value.onHeap = false from rfl]; exact Bool.false_ne_true)]; refine wP ?_
 refine wB (wpAny_specialOf hT PySem.F.slot_bool_hash.lookup ?_)
 show wpAny _ _ (if (some (Value.builtin "int.__hash__") == some Value.none) = true then _ else _) Q E s
 rw [if_neg (by rw [beq_builtin_none]; exact Bool.false_ne_true)]
 refine wB (wpAny_specialOf hT PySem.F.slot_bool_hash.lookup ?_)
 show wpAny _ _ (callSpecialIfBoundUnlessNone? (.bool b) "__hash__" _ >>= _) Q E s
 refine wB (wpAny_callSpecialIfBoundUnlessNone?_slot hT PySem.F.slot_bool_hash
  (wpAny_call_entry PySem.F.slot_bool_hash hT entry_int_hash
   (show wpAny _ _ (do ret (<- mkInt (rawHash (if b then 1 else 0)))) _ _ s from wpAny_ret_mkInt ?_) (args_int_hash _)))
 have e2 : rawHash (if b then 1 else 0) = hB b := by cases b <;> decide +kernel
 rw [e2]
 show wpAny _ _ (if (decide (-(2 : Int) ^ 63 <= hB b) && decide (hB b < 2 ^ 63)) = true then _ else _) Q E _
 rw [if_pos (by cases b <;> decide)]
 have e3 : (if hB b == -1 then -2 else hB b) = hB b := by cases b <;> decide
 first
  | exact wP h
  | (rw [e3]; exact wP h)
theorem call_add0 {a : Addr} {led b : Bool} {Q : Value -> Shared -> Prop} (ho : s.heap.get? a = some (setE led)) (h : ∀ h', Heap.SameBut a s.heap h' -> h'.get? a = some (set1 led b) -> Q .none { s with heap := h', toks := s.toks + 1 }) :
  wpAny (model prog w) A (call (.builtin "set.add") [.ref a, .bool b]) Q E s := by
 have hT : s.TypeIs (.ref a) "set" := ⟨_, ho, rfl⟩
 refine wpAny_call_entry PySem.F.slot_set_add hT PySem.F.entry_set_add ?_ (PySem.F.args_set_add_2 _ _)
 unfold Builtin.«set.add» Builtin.Frozenset.oneOther
 simp only [List.isEmpty_nil, bind_assoc]
 unfold Builtin.Frozenset.addrOf setAdd
 refine wB (wP ?_)
 try dsimp only
 refine wB (wP ?_)
 try dsimp only
 refine wB ?_
 refine wpAny_holding ?_
 refine wB (pyHash_bool ?_)
 unfold setAddHashed setAddHashedIn
 refine wpAny_holding (wB (wpAny_setState_of (s := { s with toks := s.toks + 1 }) ho rfl (by kernel_rfl) ?_))
 dsimp only
 rw [if_pos (show byScan (.bool b) #[] = true by cases b <;> decide +kernel)]
 unfold setAddByScan
 refine wB (wB (wpAny_rule ?_))
 refine wB (wP ?_)
 dsimp only
 refine wB (wP ?_)
 rw [layB]
 dsimp only
 rw [tab_plain]
 refine wB (wP ?_)
 simp only [↓reduceIte]
 refine wB (wpAny_storeSet_of ho rfl ?_ (by show 1 <= sizeLine; rw [sizeLine_eq]; omega))
 simp only [tab_full, Bool.not_false, Bool.and_false, Bool.false_eq_true, ↓reduceIte]
 refine wP (wP ?_)
 exact wP ⟨_, rfl, h _ (Heap.SameBut.update ..) (by
  have := Heap.get?_update_self (Obj.putSet #[(hB b, .bool b)] (tabB led b)) ho (by rfl)
  exact this)⟩
theorem eqBool_same {b : Bool} {Q : Bool -> Shared -> Prop} (h : Q true s) : wpAny (model prog w) A (eqBool (.bool b) (.bool b)) Q E s := by
 unfold eqBool
 show wpAny _ _ (if (Value.bool b == Value.bool b) = true then _ else _) Q E s
 rw [if_pos (by simp)]
 exact wB (wpAny_rule (wP h))
theorem call_add1 {a : Addr} {led b : Bool} {Q : Value -> Shared -> Prop} (ho : s.heap.get? a = some (set1 led b)) (h : Q .none { s with toks := s.toks + 1 }) :
  wpAny (model prog w) A (call (.builtin "set.add") [.ref a, .bool b]) Q E s := by
 have hT : s.TypeIs (.ref a) "set" := ⟨_, ho, rfl⟩
 refine wpAny_call_entry PySem.F.slot_set_add hT PySem.F.entry_set_add ?_ (PySem.F.args_set_add_2 _ _)
 unfold Builtin.«set.add» Builtin.Frozenset.oneOther
 simp only [List.isEmpty_nil, bind_assoc]
 unfold Builtin.Frozenset.addrOf setAdd
 refine wB (wP ?_)
 try dsimp only
 refine wB (wP ?_)
 try dsimp only
 refine wB ?_
 refine wpAny_holding ?_
 refine wB (pyHash_bool ?_)
 unfold setAddHashed setAddHashedIn
 refine wpAny_holding (wB (wpAny_setState_of (s := { s with toks := s.toks + 1 }) ho rfl (tab_fits led b) ?_))
 dsimp only
 rw [if_pos (show byScan (.bool b) #[(hB b, .bool b)] = true by cases b <;> decide +kernel)]
 unfold setAddByScan
 refine wB (wB (wpAny_rule ?_))
 show wpAny _ _ (setScanFrom a (.bool b) (hB b) true [(hB b, .bool b)] 0 >>= _) _ _ _
 refine wB ?_
 unfold setScanFrom
 rw [if_pos (by simp)]
 refine wB (wpAny_setEpoch_of (s := { s with toks := s.toks + 1 }) ho rfl (tab_fits led b) ?_)
 refine wB (eqBool_same ?_)
 simp only [Bool.and_true, ↓reduceIte]
 refine wP ?_
 dsimp only
 refine wP ?_
 dsimp only
 refine wP ?_
 exact wP ⟨_, rfl, h⟩
noncomputable def ledOf (w : World) : Bool := !(w.params.followText "set-order")
theorem newSet_led {Q : Value -> Shared -> Prop} (h : Q (.ref s.heap.objs.size) { s with heap := s.heap.push (setE (ledOf w)) }) : wpAny (model prog w) A (newSet (.type "set")) Q E s := by
 unfold newSet setsByText
 refine wB (wB (wpAny_askSetting (wP ?_)))
 dsimp only
 simp only [newObj]
 exact wB (wpAny_alloc (wP h))
end
end
section
theorem slot_si_next : Slot "set_iterator" "__next__" "set_iterator.__next__" :=
 .of (owner := "set_iterator") (n := "__next__") (by rw [typeLookup_type, builtinLookup_eq_fast]; kernel_rfl) (by decide +kernel) (by decide +kernel) (by decide +kernel)
  (by first | exact .inl (by decide +kernel) | exact .inr (by decide +kernel)) (by rw [isSubtype_type]; kernel_rfl)
theorem entry_si_next : entryFor table "set_iterator.__next__" = some Builtin.«set_iterator.__next__» := entryFor_of_tree (by kernel_rfl)
theorem owner_si : Manifest.owners.lookup (String.ofList "rotareti_tes".toList.reverse) = some Manifest.sig_set_iterator := by kernel_rfl
theorem args_si_next (a : Value) : argsOk "set_iterator.__next__" ⟨[a], []⟩ := by
 unfold argsOk; rw [signature?_of (id := "set_iterator.__next__") (n := "__txen__".toList) (o := "rotareti_tes".toList) (by kernel_rfl) owner_si]; kernel_rfl
theorem entry_set_iter : entryFor table "set.__iter__" = some Builtin.«frozenset.__iter__» :=
 entryFor_alias (id' := "frozenset.__iter__") (by kernel_rfl) rfl (by decide +kernel) (by kernel_rfl)
noncomputable abbrev siO (k i : Nat) (a : Addr) : Obj := { cls := .type "set_iterator", dict := none, data := .fields #[.int k 0, .int i 0, .ref a, .int 1 0, .int 1 0], slots := #[] }
section
variable {prog : Program} {w : World} {A : Around} {E : Value -> Shared -> Prop} {s : Shared} {a : Addr} {led b : Bool}
theorem iter_set1 {Q : Value -> Shared -> Prop} (ho : s.heap.get? a = some (set1 led b)) (h : Q (.ref s.heap.objs.size) { s with heap := s.heap.push (siO 0 0 a) }) : wpAny (model prog w) A (pyIter (.ref a)) Q E s := by
 have hT : s.TypeIs (.ref a) "set" := ⟨_, ho, rfl⟩
 refine wpAny_pyIter_slot hT PySem.F.slot_set_iter (wpAny_call_entry PySem.F.slot_set_iter hT entry_set_iter ?_ (PySem.F.args_set_iter_1 _))
 unfold Builtin.«frozenset.__iter__» Builtin.Frozenset.slot0 slotArgs
 simp only [List.isEmpty_nil, Bool.not_true, Bool.false_eq_true, ↓reduceIte, bind_assoc, List.length_nil, bne_self_eq_false]
 unfold Builtin.Frozenset.addrOf Builtin.Frozenset.sizeOf
 refine wB (wP ?_)
 try dsimp only
 refine wB (wP ?_)
 refine wB (wB (wpAny_setEntries_of ho rfl (tab_fits led b) (wP ?_)))
 unfold setDrawn
 refine wB (wB (wpAny_setState_of ho rfl (tab_fits led b) ?_))
 dsimp only
 unfold setsByText
 refine wB (wB (wpAny_askSetting (wP ?_)))
 refine wP ?_
 show wpAny _ A.in1 (if (!(w.params.followText "set-order") && (!(tabB led b).plain && decide ((#[(hB b, Value.bool b)] : Array (Int × Value)).size > 1))) = true then _ else _) _ E s
 rw [tab_plain, if_neg (by cases w.params.followText "set-order" <;> exact Bool.false_ne_true)]
 refine wB (wP ?_)
 refine wB (wpAny_setEpoch_of ho rfl (tab_fits led b) ?_)
 exact wB (wpAny_newObj_type (wP ⟨_, rfl, "set_iterator", _, ⟨_, hP _ rfl, rfl⟩, slot_si_next.lookup, h⟩))
theorem pick1 {α : Type} (f : Nat -> Nat) (x : α) : pickOrder f #[x] = #[x] := by
 simp [pickOrder, pickOrder.go, Nat.mod_one]
theorem next1 {Q : Option (Value × Nat) -> Shared -> Prop} (hl : led = ledOf w) (ho : s.heap.get? a = some (set1 led b)) (h : ∀ k, (k = 0 /\ ledOf w = false \/ k = (if b then 1 else 0) + 1 /\ ledOf w = true) -> Q (some (.bool b, k)) s) : wpAny (model prog w) A (setNext a 0 0 1) Q E s := by
 unfold setNext
 refine wB (wpAny_setState_of ho rfl (tab_fits led b) ?_)
 dsimp only
 unfold setsByText
 refine wB (wB (wpAny_askSetting (wP ?_)))
 show wpAny _ A (if w.params.followText "set-order" = true then _ else _) Q E s
 cases ht : w.params.followText "set-order" with
 | true =>
  rw [if_pos rfl, if_neg (by decide)]
  refine wB ?_
  unfold setWalk setsByText
  refine wB (wpAny_setState_of ho rfl (tab_fits led b) ?_)
  dsimp only
  refine wB (wB (wpAny_askSetting (wP ?_)))
  show wpAny _ A (if w.params.followText "set-order" = true then _ else _) _ E s
  rw [if_pos ht]
  refine wB (wpAny_askSetting (wP ?_))
  refine wP ?_
  rw [pick1]
  exact h 0 (.inl ⟨rfl, by unfold ledOf; rw [ht]; rfl⟩)
 | false =>
  have hlt : ledOf w = true := by unfold ledOf; rw [ht]; rfl
  rw [if_neg (by decide)]
  show wpAny _ A (if (!(tabB led b).plain && decide ((#[(hB b, Value.bool b)] : Array (Int × Value)).size > 1)) = true then _ else _) Q E s
  rw [tab_plain, if_neg (show ¬ ((!true && decide ((#[(hB b, Value.bool b)] : Array (Int × Value)).size > 1)) = true) from Bool.false_ne_true)]
  refine wB ?_
  show wpAny _ A (if (!(tabB led b).led && !(#[(hB b, Value.bool b)] : Array (Int × Value)).isEmpty) = true then _ else _) _ E s
  rw [tab_led, hl, hlt, if_neg (show ¬ ((!true && !(#[(hB b, Value.bool b)] : Array (Int × Value)).isEmpty) = true) from Bool.false_ne_true)]
  refine wP ?_
  rw [tab_place]
  refine wP ?_
  have := h ((if b then 1 else 0) + 1) (.inr ⟨rfl, hlt⟩)
  cases b <;> exact this
theorem next2 {k : Nat} {Q : Option (Value × Nat) -> Shared -> Prop} (hl : led = ledOf w) (ho : s.heap.get? a = some (set1 led b)) (hk : k = 0 /\ ledOf w = false \/ k = (if b then 1 else 0) + 1 /\ ledOf w = true) (h : Q none s) : wpAny (model prog w) A (setNext a k 1 1) Q E s := by
 unfold setNext
 refine wB (wpAny_setState_of ho rfl (tab_fits led b) ?_)
 dsimp only
 unfold setsByText
 refine wB (wB (wpAny_askSetting (wP ?_)))
 show wpAny _ A (if w.params.followText "set-order" = true then _ else _) Q E s
 cases ht : w.params.followText "set-order" with
 | true =>
  rw [if_pos rfl, if_neg (by decide)]
  refine wB ?_
  unfold setWalk setsByText
  refine wB (wpAny_setState_of ho rfl (tab_fits led b) ?_)
  dsimp only
  refine wB (wB (wpAny_askSetting (wP ?_)))
  show wpAny _ A (if w.params.followText "set-order" = true then _ else _) _ E s
  rw [if_pos ht]
  refine wB (wpAny_askSetting (wP ?_))
  refine wP ?_
  rw [pick1]
  exact h
 | false =>
  have hlt : ledOf w = true := by unfold ledOf; rw [ht]; rfl
  rw [if_neg (by decide)]
  show wpAny _ A (if (!(tabB led b).plain && decide ((#[(hB b, Value.bool b)] : Array (Int × Value)).size > 1)) = true then _ else _) Q E s
  rw [tab_plain, if_neg (show ¬ ((!true && decide ((#[(hB b, Value.bool b)] : Array (Int × Value)).size > 1)) = true) from Bool.false_ne_true)]
  refine wB ?_
  show wpAny _ A (if (!(tabB led b).led && !(#[(hB b, Value.bool b)] : Array (Int × Value)).isEmpty) = true then _ else _) _ E s
  rw [tab_led, hl, hlt, if_neg (show ¬ ((!true && !(#[(hB b, Value.bool b)] : Array (Int × Value)).isEmpty) = true) from Bool.false_ne_true)]
  refine wP ?_
  rw [tab_place]
  refine wP ?_
  rcases hk with ⟨_, hk⟩ | ⟨rfl, _⟩
  ·rw [hlt] at hk; cases hk
  ·cases b <;> exact h
end
end
section
section
variable {prog : Program} {w : World} {A : Around} {E : Value -> Shared -> Prop} {s : Shared} {a : Addr} {led b : Bool}
theorem siNext1 {it : Addr} {Q : Option Value -> Shared -> Prop} (hl : led = ledOf w) (hi : s.heap.get? it = some (siO 0 0 a)) (ho : s.heap.get? a = some (set1 led b)) (hne : a ≠ it)
  (h : ∀ k h', (k = 0 /\ ledOf w = false \/ k = (if b then 1 else 0) + 1 /\ ledOf w = true) -> Heap.SameBut it s.heap h' -> h'.get? it = some (siO k 1 a) -> Q (some (.bool b)) { s with heap := h' }) : wpAny (model prog w) A (pyNext (.ref it)) Q E s := by
 have hT : s.TypeIs (.ref it) "set_iterator" := ⟨_, hi, rfl⟩
 unfold pyNext
 refine wB (wpAny_attempt (wpAny_callSpecial?_slot (name := Str.ofString "__next__") hT slot_si_next (wpAny_call_entry slot_si_next hT entry_si_next ?_ (args_si_next _))))
 show wpAny _ _ (fieldsOf (.ref it) >>= _) _ _ s
 refine wB (wpAny_fieldsOf hi rfl ?_)
 show wpAny _ _ (setEntries a >>= _) _ _ s
 refine wB (wpAny_setEntries_of ho rfl (tab_fits led b) ?_)
 rw [if_neg (show ¬ ((((#[(hB b, Value.bool b)] : Array (Int × Value)).size : Int) != 1) = true) from by simp)]
 show wpAny _ _ (setNext a 0 0 1 >>= _) _ _ s
 refine wB (next1 hl ho fun k hk => ?_)
 dsimp only
 have u1 : (s.heap.update it (Obj.mapFields (·.setIfInBounds 0 (rawInt k)))).get? it = some (siO k 0 a) := by
  have := Heap.get?_update_self (Obj.mapFields (·.setIfInBounds 0 (rawInt k))) hi (by rfl)
  exact this
 refine wB (wpAny_setField hi rfl (by simp) ?_)
 refine wB (wpAny_setField (s := { s with heap := s.heap.update it (Obj.mapFields (·.setIfInBounds 0 (rawInt k))) }) u1 rfl (by simp) ?_)
 refine wP ⟨_, rfl, wP (h k _ hk ((Heap.SameBut.update ..).trans (Heap.SameBut.update ..)) ?_)⟩
 have := Heap.get?_update_self (Obj.mapFields (·.setIfInBounds 1 (rawInt (((0 : Nat) : Int) + 1)))) u1 (by rfl)
 exact this
theorem siNext2 {it : Addr} {k : Nat} {Q : Option Value -> Shared -> Prop} (hh : A.handled = none) (hl : led = ledOf w) (hi : s.heap.get? it = some (siO k 1 a)) (ho : s.heap.get? a = some (set1 led b)) (hk : k = 0 /\ ledOf w = false \/ k = (if b then 1 else 0) + 1 /\ ledOf w = true)
  (h : ∀ h', Heap.ExtBut it s.heap h' -> Q none { s with heap := h' }) : wpAny (model prog w) A (pyNext (.ref it)) Q E s := by
 have hT : s.TypeIs (.ref it) "set_iterator" := ⟨_, hi, rfl⟩
 unfold pyNext
 refine wB (wpAny_attempt (wpAny_callSpecial?_slot (name := Str.ofString "__next__") hT slot_si_next (wpAny_call_entry slot_si_next hT entry_si_next ?_ (args_si_next _))))
 show wpAny _ _ (fieldsOf (.ref it) >>= _) _ _ s
 refine wB (wpAny_fieldsOf hi rfl ?_)
 show wpAny _ _ (setEntries a >>= _) _ _ s
 refine wB (wpAny_setEntries_of ho rfl (tab_fits led b) ?_)
 rw [if_neg (show ¬ ((((#[(hB b, Value.bool b)] : Array (Int × Value)).size : Int) != 1) = true) from by simp)]
 show wpAny _ _ (setNext a k 1 1 >>= _) _ _ s
 refine wB (next2 hl ho hk ?_)
 dsimp only
 refine wB (wpAny_setField hi rfl (by simp) ?_)
 show wpAny _ _ (newExc (.type "StopIteration") [] >>= _) _ _ _
 refine wB ?_
 simp only [newExc, newTuple]
 refine wB (wpAny_newObj_type ?_ (by size_fits))
 refine wB (m := firstArgMember _ _) (wpAny_of_eq (a := Value.none) (by first | rfl | (simp only [firstArgMember]; rfl)) ?_)
 refine wpAny_newObj_type ?_ (by size_fits)
 simp only [raiseNew]
 refine wB (wpAny_handled ?_)
 first | rw [show A.in1.handled = none from hh] | rw [hh]
 refine wB (wP (wpAny_throw ?_))
 refine wB (wpAny_isInstance (T := "StopIteration") (b := true) ⟨_, hP _ rfl, rfl⟩ isSubtype_stop ?_)
 exact wP (h _ (((Heap.SameBut.update ..).extBut.push _).push _))
theorem unpack_set1 {Q : List Value -> Shared -> Prop} (hh : A.handled = none) (hl : led = ledOf w) (ho : s.heap.get? a = some (set1 led b)) (h : ∀ h', (∀ c o, s.heap.get? c = some o -> h'.get? c = some o) -> Q [.bool b] { s with heap := h' }) : wpAny (model prog w) A (unpackItems (.ref a) 1 none) Q E s := by
 have hT : s.TypeIs (.ref a) "set" := ⟨_, ho, rfl⟩
 have hlt : a ≠ s.heap.objs.size := Nat.ne_of_lt (Heap.lt_size ho)
 unfold unpackItems
 refine wB ?_
 unfold notIterableAtAll
 refine wB (wpAny_specialOf hT PySem.F.slot_set_iter.lookup ?_)
 refine wP ?_
 simp only [Bool.false_eq_true, if_false]
 refine wB (wpAny_holding (iter_set1 ho ?_))
 have g0 : (s.heap.push (siO 0 0 a)).get? s.heap.objs.size = some (siO 0 0 a) := hP _ rfl
 have g1 : (s.heap.push (siO 0 0 a)).get? a = some (set1 led b) := Heap.get?_push_of_some _ ho
 refine wB (wpAny_holding ?_)
 show wpAny _ A (pyNext (.ref s.heap.objs.size) >>= _) _ _ _
 refine wB (siNext1 (s := { s with heap := s.heap.push (siO 0 0 a) }) hl g0 g1 hlt fun k h1 hk hs1 hi1 => ?_)
 dsimp only
 refine wB (wpAny_holding (wP (wP ?_)))
 rw [if_neg (by simp)]
 have g2 : h1.get? a = some (set1 led b) := by rw [hs1.2 a hlt]; exact g1
 refine wB (wpAny_holding (siNext2 (s := { s with heap := h1 }) hh hl hi1 g2 hk fun h2 he => ?_))
 simp only [Option.isSome_none, Bool.false_eq_true, if_false]
 refine wP (h h2 fun c o e => ?_)
 have hc : c ≠ s.heap.objs.size := Nat.ne_of_lt (Heap.lt_size e)
 exact he c o hc (by rw [hs1.2 c hc]; exact Heap.get?_push_of_some _ e)
end
end
section
section
variable {c : Cfg} {A : Around} {s : Shared} {l : Nat} {X XL N : List Addr} {D : Addr} {env : Env} {Γ Γ' Γc : Gam}
noncomputable def AIS (c : Cfg) (b : Bool) (D : Addr) (i : Nat) (h : Heap) : Prop := (i = 0 /\ h.get? D = some (setE (ledOf c.w))) \/ (0 < i /\ h.get? D = some (set1 (ledOf c.w) b))
theorem AIS.alive {b : Bool} {i : Nat} {h : Heap} (a : AIS c b D i h) : ∃ o, h.get? D = some o := by
 rcases a with ⟨_, e⟩ | ⟨_, e⟩ <;> exact ⟨_, e⟩
theorem emitS_ok {b : Bool} {elt : Expr} {i : Nat} {xs : List Str} (P : Plc c X XL N D env) (h1 : Ev c l XL env Γ' elt (.bool b)) (hs : ∀ p ∈ Γ, p ∈ Γ') (L : Lev l A) (G : Good c A XL env Γ' s.heap) (a : AIS c b D i s.heap) (T : TG env N xs s.heap) :
  wpAny c.M A (emitS elt (.ref D) env) (fun _ s' => BackC c A XL [D] N env Γ xs (AIS c b D (i + 1)) s s') NoE s := by
 unfold emitS
 refine wB (h1.use L G fun v s1 p1 r1 G1 => wB (wpAny_standAt ?_))
 rw [r1.bool_inv]
 obtain ⟨h2, tk2, q2⟩ := p1
 have ex : ∀ o, s.heap.get? D = some o -> h2.get? D = some o := fun o e => q2.exact (fun z => nomatch z) P.acc.2.1 e
 have T2 : TG env N xs h2 := T.hx q2 (fun z => nomatch z) fun _ _ z => nomatch z
 rcases a with ⟨_, e⟩ | ⟨_, e⟩
 ·refine wB (call_add0 (ex _ e) fun h' hs' e' => wP ?_)
  have q3 : HX c [D] h2 h' := .sameBut hs' P.acc.2.2.1 P.acc.2.1
  obtain ⟨G3, T3⟩ := P.after q3 G1 ⟨_, e'⟩ T2
  exact ⟨h', _, (q2.mono fun _ z => nomatch z).trans q3, .inr ⟨Nat.succ_pos _, e'⟩, G3.sub hs, T3⟩
 ·refine wB (call_add1 (ex _ e) (wP ?_))
  exact ⟨h2, _, (q2.mono fun _ z => nomatch z), .inr ⟨Nat.succ_pos _, ex _ e⟩, G1.sub hs, T2⟩
noncomputable def EvB1 (c : Cfg) (l : Nat) (X : List Addr) (env : Env) (Γ : Gam) (e : Expr) (b : Bool) : Prop :=
 ∀ A s, Lev l A -> Good c A X env Γ s.heap -> wpAny c.M A (eval e env) (fun v s' => Pst c s s' /\ ∃ D, v = .ref D /\ s.heap.get? D = none /\ s'.heap.get? D = some (set1 (ledOf c.w) b)) NoE s
theorem EvB1.comp {x : Str} {p : Pos} {elt iter : Expr} {scope : Scope} {pos : Pos} {ds : List PyData} {b : Bool} (hne : ds ≠ []) (hI : EvI c l X env Γ false iter ds) (hc : Cap env scope Γ Γc)
  (he : ∀ cs C XL, ∀ d ∈ ds, Ev c l XL (cenvOf scope cs C env) ((x, d) :: Γc) elt (.bool b)) (hs : autoParam (scB env scope = true) aK) (ht : autoParam (tgB scope [x] = true) aK) (ho : autoParam (offB [x] (Γc.map (·.1)) = true) aK)
  (hd : autoParam ((x == ("__debug__" : Str)) = false) aK) (hfold : ∀ x, foldedSetIterable iter env x = pure x := by intro _; rfl) : EvB1 c l X env Γ (.SetComp elt [⟨.Name x p, iter, [], 0⟩] scope pos) b := fun A s L G => by
 show wpAny c.M A (comprehension (.SetComp elt [⟨.Name x p, iter, [], 0⟩] scope pos) scope env (firstIterPos [⟨.Name x p, iter, [], 0⟩] pos) (newSet (.type "set")) false (eval iter env) none) _ NoE s
 refine comp_core (e := .SetComp elt [⟨.Name x p, iter, [], 0⟩] scope pos) (use := none) (l := l) (newAcc := newSet (.type "set")) (acc0 := setE (ledOf c.w)) (body := fun acc cenv => emitS elt acc cenv) (AI := fun D XL i h => AIS c b D i h) (xs := [x]) (xs1 := [x]) (bs := fun _ => true) (rest := []) (Γd := fun d => [(x, d)]) rfl hfold
  (fun A s E Q h => newSet_led h) rfl (fun D it cenv => ?_) (fun _ _ _ => rfl) (fun _ _ _ => rfl) (fun _ _ _ _ => rfl) (fun _ _ _ _ => rfl) hI (fun d _ => .name hd) (fun x h => h) .name (scOk.of hs) hc (tg_of ht) (off_of ho) (fun cs C XL _ d hd => .nil)
  (fun D XL h e => .inl ⟨rfl, e⟩) (fun D XL i h h' Y a q hF hy => ?_) (fun D XL i h a => a.alive)
  (fun cs C XL N D P A s i d L hd hbs G a T => wK (emitS_ok P (Γ := Γc) (he cs C XL d (lG hd)) (fun p hp => .tail _ hp) L G a T) (fun _ s' hr => hr.to (fun y hy => lS hy ▸ .head _) fun _ z => z))
  (fun D XL i d h hd hbs a => by cases hbs) L G (fun s5 D XL C p hX hD hC hDX hCX hCD hF ai hm => ?_)
 ·show (compTurn _ 0 it (.ref D) cenv).onRaise _ = _
  rw [turn_set]
 ·have ex : ∀ o, h.get? D = some o -> h'.get? D = some o := fun o e => q.exact (fun z => (hy _ z).2 rfl) (fun z => (hF _ z).2 rfl) e
  rcases a with ⟨i0, e⟩ | ⟨i0, e⟩
  ·exact .inl ⟨i0, ex _ e⟩
  ·exact .inr ⟨i0, ex _ e⟩
 ·obtain ⟨m, hm⟩ := hm
  refine ⟨m, hm, fun h6 hs6 => ?_⟩
  have q6 : HX c [C] s5.heap h6 := .sameBut hs6 (base_none G.bas hC) fun z => (hF C z).2.2 rfl
  obtain ⟨h5, tk5, q5⟩ := p
  have q06 : HX c [] s.heap h6 := q5.young q6 fun a ha => (by rw [lS ha]; exact hC)
  rcases ai with ⟨i0, e⟩ | ⟨_, e⟩
  ·exact absurd (List.length_eq_zero_iff.mp i0) hne
  ·exact ⟨⟨h6, tk5, q06⟩, D, rfl, hD, q6.exact (fun z => hCD (lS z).symm) (fun z => (hF D z).2.1 rfl) e⟩
end
section
variable {K : Act} {A : Around} {s0 : Shared} {E : Err} {Γ : Gam} {R : Ros} {Δ : Del K} {ss : List Stmt} {O : Out K -> Prop}
theorem Ex.unpackB {x : Str} {px tpos pos : Pos} {k : Nat} {e : Expr} {b : Bool} (h : ∀ X, EvB1 K.c K.l X K.env Γ e b) (kk : Ex K A s0 E ((x, .bool b) :: Γ) R Δ ss O) (hx : autoParam (decide (x ∈ K.xs) = true) aK) (hΓ : autoParam (offB [x] (Γ.map (·.1)) = true) aK) (hR : autoParam (offB [x] (R.map (·.1)) = true) aK)
  (hs : autoParam (swapsWithSole [.Tuple [.Name x px] k tpos] e pos.line K.env = pure false) aR) (hw : autoParam (swappedStores [.Tuple [.Name x px] k tpos] e K.env = pure none) aR) :
  Ex K A s0 E Γ R Δ (.Assign [.Tuple [.Name x px] k tpos] e pos :: ss) O := fun s X S => by
 have e1 : Γ.filter (fun p => p.1 != x) = Γ := filter_off fun p hp e => off_of hΓ p hp (e ▸ .head _)
 refine wpAny_execs_cons (Assign_Tuple (noE_any (wK (h X A s S.lev S.good) (fun v s1 q => ?_))) hs hw)
 obtain ⟨p, D, rfl, hD, hset⟩ := q
 have S1 := S.pst p
 rw [arm_assign_Tuple]
 refine wB (wpAny_standAt ?_)
 show wpAny K.c.M A (unpack (.ref D) [(false, assign (.Name x px) K.env)]) _ E s1
 unfold unpack
 refine wB (wpAny_holding ?_)
 show wpAny K.c.M A (unpackItems (.ref D) 1 none) _ E s1
 refine unpack_set1 S1.good.bas.handled rfl hset fun h2 hk => ?_
 have S2 : Sat K X Γ R Δ A s0 { s1 with heap := h2 } := S1.pst ⟨h2, s1.toks, .keep0 hk⟩
 show wpAny K.c.M A (do holding [.bool b] (assign (.Name x px) K.env (.bool b)); assignInOrder [] []) _ E _
 refine wB (wpAny_holding (wpAny_assign_Name (S2.assign (of_decide_eq_true hx) (neR hR) (.bool b) fun s3 S3 => wP ?_)))
 rw [e1] at S3
 exact kk s3 _ S3
end
end
section
theorem slot_map_init : Slot "map" "__init__" "object.__init__" :=
 .of (owner := "object") (n := "__init__") (by rw [typeLookup_type, builtinLookup_eq_fast]; kernel_rfl) (by decide +kernel) (by decide +kernel) (by decide +kernel)
  (by first | exact .inl (by decide +kernel) | exact .inr (by decide +kernel)) (by rw [isSubtype_type]; kernel_rfl)
theorem slot_map_next : Slot "map" "__next__" "map.__next__" :=
 .of (owner := "map") (n := "__next__") (by rw [typeLookup_type, builtinLookup_eq_fast]; kernel_rfl) (by decide +kernel) (by decide +kernel) (by decide +kernel)
  (by first | exact .inl (by decide +kernel) | exact .inr (by decide +kernel)) (by rw [isSubtype_type]; kernel_rfl)
theorem slot_map_iter : Slot "map" "__iter__" "map.__iter__" :=
 .of (owner := "map") (n := "__iter__") (by rw [typeLookup_type, builtinLookup_eq_fast]; kernel_rfl) (by decide +kernel) (by decide +kernel) (by decide +kernel)
  (by first | exact .inl (by decide +kernel) | exact .inr (by decide +kernel)) (by rw [isSubtype_type]; kernel_rfl)
theorem entry_map_next : entryFor table "map.__next__" = some Builtin.«map.__next__» := entryFor_of_tree (by kernel_rfl)
theorem entry_map_iter : entryFor table "map.__iter__" = some Builtin.«dict_keyiterator.__iter__» :=
 entryFor_alias (id' := "dict_keyiterator.__iter__") (by kernel_rfl) (by first | rfl | decide +kernel | (unfold String.splitOn; simp +decide [String.splitOnAux])) (by decide +kernel) (by kernel_rfl)
theorem owner_map : Manifest.owners.lookup (String.ofList "pam".toList.reverse) = some Manifest.sig_map := by kernel_rfl
theorem args_map_next (a : Value) : argsOk "map.__next__" ⟨[a], []⟩ := by
 unfold argsOk; rw [signature?_of (id := "map.__next__") (n := "__txen__".toList) (o := "pam".toList) (by kernel_rfl) owner_map]; kernel_rfl
theorem args_map_iter (a : Value) : argsOk "map.__iter__" ⟨[a], []⟩ := by
 unfold argsOk; rw [signature?_of (id := "map.__iter__") (n := "__reti__".toList) (o := "pam".toList) (by kernel_rfl) owner_map]; kernel_rfl
theorem mro_map : mroOf (.type "map") = pure [.type "map", .type "object"] := by rw [mroOf_type]; kernel_rfl
theorem lookup_map_new : typeLookup (.type "map") "__new__" = pure (some (.builtin "map.__new__")) := by rw [typeLookup_type, builtinLookup_eq_fast]; kernel_rfl
theorem called_map : TypeCalled "map" "map.__new__" "object.__init__" :=
 ⟨by decide +kernel, by decide +kernel, ⟨_, _, mro_map⟩, madeBy_type mro_map lookup_map_new (by decide +kernel), by decide +kernel, by rw [isSubtype_type]; kernel_rfl, slot_map_init⟩
theorem typeCall_map_2 (a b : Value) : checkTypeCall "map" ⟨[a, b], []⟩ = pure () := by kernel_rfl
theorem newCall_map_2 (a b : Value) : checkBuiltinCall "map.__new__" ⟨[.type "map", a, b], []⟩ = pure () := by kernel_rfl
theorem entry_map_new : entryFor table "map.__new__" = some Builtin.«map.__new__» := entryFor_of_tree (by kernel_rfl)
theorem sub_map : isSubtype (.type "map") (.type "map") = pure true := by rw [isSubtype_type]; kernel_rfl
noncomputable abbrev mapO (T : Addr) (fv : Value) : Obj := { cls := .type "map", dict := none, data := .fields #[.ref T, fv], slots := #[] }
noncomputable abbrev oneT (I : Addr) : Obj := { cls := .type "tuple", dict := none, data := .seq #[.ref I], slots := #[] }
noncomputable abbrev mapH1 (h : Heap) (l : Addr) : Heap := h.push { cls := .type "list_iterator", data := .fields #[.ref l, .int 0 0] }
noncomputable abbrev mapH2 (h : Heap) (l : Addr) : Heap := (mapH1 h l).push (oneT h.objs.size)
noncomputable abbrev mapH3 (h : Heap) (l : Addr) (fv : Value) : Heap := (mapH2 h l).push (mapO (mapH1 h l).objs.size fv)
theorem meets_map_new (fv : Value) (l : Addr) (xs : Array Value) : Meets (Builtin.«map.__new__» ⟨[.type "map", fv, .ref l], []⟩) (fun _ R s => s.heap.IsList l xs /\ R (.ok (.ret (.ref (mapH2 s.heap l).objs.size))) { s with heap := mapH3 s.heap l fv }) :=
 .of_wp fun prog w A R s h => by
  obtain ⟨hp, g, d, tk, os⟩ := s; obtain ⟨hl1, h⟩ := h
  have hsub := sub_map
  have hL1 : Heap.IsList (Shared.heap ⟨hp, g, d, tk, os⟩) l xs := hl1
  wp_walk using wpAny_pyIter_list hL1
  exact ⟨_, rfl, h⟩
section
variable {prog : Program} {w : World} {A : Around} {E : Value -> Shared -> Prop} {s : Shared}
theorem call_map {fv : Value} {l : Addr} {xs : Array Value} {Q : Value -> Shared -> Prop} (hl : s.heap.IsList l xs)
  (h : ∀ h', h'.get? (s.heap.objs.size + 2) = some (mapO (s.heap.objs.size + 1) fv) -> h'.get? (s.heap.objs.size + 1) = some (oneT s.heap.objs.size) -> h'.IsListIter s.heap.objs.size l 0 -> (∀ c o, s.heap.get? c = some o -> h'.get? c = some o) -> Q (.ref (s.heap.objs.size + 2)) { s with heap := h' }) :
  wpAny (model prog w) A (call (.type "map") [fv, .ref l]) Q E s := by
 refine callType_new called_map (by decide) (typeCall_map_2 _ _) (newCall_map_2 _ _) (fun obj => PySem.F.args_object_init_3 obj _ _) entry_map_new (meets_map_new fv l xs) ⟨hl, ?_⟩
 have z1 : (mapH1 s.heap l).objs.size = s.heap.objs.size + 1 := Heap.size_push ..
 have z2 : (mapH2 s.heap l).objs.size = s.heap.objs.size + 2 := by rw [Heap.size_push, z1]
 have g3 : (mapH3 s.heap l fv).get? (mapH2 s.heap l).objs.size = some _ := hP _ rfl
 have g2 : (mapH3 s.heap l fv).get? (mapH1 s.heap l).objs.size = some _ := Heap.get?_push_of_some _ (hP _ rfl)
 have g1 : (mapH3 s.heap l fv).get? s.heap.objs.size = some _ := Heap.get?_push_of_some _ (Heap.get?_push_of_some _ (hP _ rfl))
 show _ /\ _
 rw [z1, z2] at g3
 rw [z1] at g2
 rw [z2]
 exact ⟨⟨_, g3, rfl⟩, h _ g3 g2 ⟨_, g1, rfl, rfl⟩ fun c o x => Heap.get?_push_of_some _ (Heap.get?_push_of_some _ (Heap.get?_push_of_some _ x))⟩
theorem next_map_item {m T I l : Addr} {i : Nat} {xs : Array Value} {x fv : Value} {Q : Option Value -> Shared -> Prop} (hm : s.heap.get? m = some (mapO T fv)) (hT : s.heap.get? T = some (oneT I)) (hi : s.heap.IsListIter I l i) (hl : s.heap.IsList l xs) (hx : xs[i]? = some x) (hmI : m ≠ I)
  (hc : ∀ h', h'.IsListIter I l (i + 1) -> Heap.SameBut I s.heap h' -> wpAny (model prog w) A.in1 (call fv [x]) (fun r s' => Q (some r) s') (fun _ _ => False) { s with heap := h' }) : wpAny (model prog w) A (pyNext (.ref m)) Q E s := by
 have hTy : s.TypeIs (.ref m) "map" := ⟨_, hm, rfl⟩
 unfold pyNext
 refine wB (wpAny_attempt (wpAny_callSpecial?_slot (name := Str.ofString "__next__") hTy slot_map_next (wpAny_call_entry slot_map_next hTy entry_map_next ?_ (args_map_next _))))
 show wpAny _ _ (field (.ref m) 0 >>= _) _ _ _
 refine wB (wpAny_field hm rfl (x := .ref T) rfl ?_)
 refine wB (wpAny_seqItems hT rfl ?_)
 dsimp only
 refine wB ?_
 rw [<- Array.forIn_toList]
 simp only [List.forIn_cons, List.forIn_nil]
 refine wB (wB (wpAny_holding (wpAny_nextOf_list_item hi hl hx fun h1 hi1 hs1 => ?_)))
 refine wP (wP ?_)
 have hm1 : h1.get? m = some (mapO T fv) := by rw [hs1.2 m hmI]; exact hm
 refine wB (wpAny_field hm1 rfl (x := fv) rfl ?_)
 refine wB (wpAny_holding (wM (hc h1 hi1 hs1) (fun r s' q => ?_) fun _ _ f => f.elim))
 exact wB (wpAny_letGo (wP ⟨_, rfl, wP q⟩))
theorem next_map_end {m T I l : Addr} {i : Nat} {xs : Array Value} {fv : Value} {Q : Option Value -> Shared -> Prop} (hh : A.handled = none) (hm : s.heap.get? m = some (mapO T fv)) (hT : s.heap.get? T = some (oneT I)) (hi : s.heap.IsListIter I l i) (hl : s.heap.IsList l xs) (hx : xs[i]? = none)
  (h : ∀ h', Heap.ExtBut I s.heap h' -> Q none { s with heap := h' }) : wpAny (model prog w) A (pyNext (.ref m)) Q E s := by
 have hTy : s.TypeIs (.ref m) "map" := ⟨_, hm, rfl⟩
 unfold pyNext
 refine wB (wpAny_attempt (wpAny_callSpecial?_slot (name := Str.ofString "__next__") hTy slot_map_next (wpAny_call_entry slot_map_next hTy entry_map_next ?_ (args_map_next _))))
 show wpAny _ _ (field (.ref m) 0 >>= _) _ _ _
 refine wB (wpAny_field hm rfl (x := .ref T) rfl ?_)
 refine wB (wpAny_seqItems hT rfl ?_)
 dsimp only
 refine wB ?_
 rw [<- Array.forIn_toList]
 simp only [List.forIn_cons, List.forIn_nil]
 refine wB (wB (wpAny_holding (wpAny_nextOf_list_end hh hi hl hx fun h1 e hk ho => ?_)))
 obtain ⟨o, ho, hc⟩ := ho
 refine wB (wpAny_isInstance (T := "StopIteration") (b := true) ⟨_, ho, hc⟩ isSubtype_stop ?_)
 exact wP (h _ hk)
theorem iter_map {m T : Addr} {fv : Value} {Q : Value -> Shared -> Prop} (hm : s.heap.get? m = some (mapO T fv)) (h : Q (.ref m) s) : wpAny (model prog w) A (pyIter (.ref m)) Q E s := by
 have hT : s.TypeIs (.ref m) "map" := ⟨_, hm, rfl⟩
 refine wpAny_pyIter_slot hT slot_map_iter (wpAny_call_entry slot_map_iter hT entry_map_iter ?_ (args_map_iter _))
 show wpAny _ _ (ret (.ref m)) _ _ s
 exact wP ⟨_, rfl, "map", _, hT, slot_map_next.lookup, h⟩
end
end
section
theorem nolen_map : typeLookup (.type "map") "__len__" = pure none := by rw [typeLookup_type, builtinLookup_eq_fast]; kernel_rfl
theorem nohint_map : typeLookup (.type "map") "__length_hint__" = pure none := by rw [typeLookup_type, builtinLookup_eq_fast]; kernel_rfl
theorem Bas.same {c : Cfg} {A A' : Around} {X : List Addr} {h : Heap} (B : Bas c A X h) (h1 : A'.handled = A.handled) (h2 : A'.frames = A.frames) : Bas c A' X h :=
 ⟨h1.trans B.handled, let ⟨o, b, f⟩ := B.below; ⟨o, ⟨h2.trans b.stack, b.stays, b.frames⟩, f⟩, B.alloc, B.frs⟩
theorem Bas.mut {c : Cfg} {A : Around} {X Y : List Addr} {h h' : Heap} (B : Bas c A X h) (q : HX c Y h h') (hY : ∀ y ∈ Y, ∃ o, h'.get? y = some o) : Bas c A X h' :=
 ⟨B.handled, let ⟨o, b, f⟩ := B.below; ⟨o, q.below f b, f⟩, fun a ha => by
  by_cases hz : a ∈ Y
  ·exact hY a hz
  ·exact q.alive hz (B.alloc a ha), B.frs⟩
section
variable {c : Cfg} {A : Around} {s : Shared} {l : Nat} {X : List Addr} {S m T I lx : Addr} {fv : Value} {xs : List Str} {ls : List (Str × Tok)}
structure StMp (c : Cfg) (A : Around) (X : List Addr) (S m T I lx : Addr) (fv : Value) (xs : List Str) (ls : List (Str × Tok)) (i : Nat) (h : Heap) : Prop where
 map : h.get? m = some (mapO T fv)
 one : h.get? T = some (oneT I)
 it : h.IsListIter I lx i
 src : h.IsList lx (strValues ls).toArray
 acc : ∃ us k, h.get? S = some (lstO (strValues us) k) /\ us.map (·.1) = xs.take i
 bas : Bas c A X h
structure OffM (c : Cfg) (X : List Addr) (S m T I lx : Addr) : Prop where
 mI : m ≠ I
 TI : T ≠ I
 xI : lx ≠ I
 SI : S ≠ I
 mS : m ≠ S
 TS : T ≠ S
 xS : lx ≠ S
 fr : ∀ a ∈ c.fr, a ≠ S /\ a ≠ I /\ a ≠ m /\ a ≠ T /\ a ≠ lx
 base : c.base.get? S = none /\ c.base.get? I = none
theorem ext_loop (LA : Lev l A.in1.in1) (hls : ls.map (·.1) = xs) (hz : xs.length <= 1000) (hf : ∀ x ∈ xs, CallOk c l fv [.str x] (.str x)) (O : OffM c X S m T I lx) :
  ∀ k i s, xs.length - i = k -> i <= xs.length -> StMp c A X S m T I lx fv xs ls i s.heap -> codeAny c.M A (.builtin "list.extend.loop" ⟨[.ref S, .ref m, .ref S], []⟩) (fun r s' => r = .ok (.ret (.ref S)) /\ ∃ h' tk us n, s' = { s with heap := h', toks := tk } /\ HX c [S, I] s.heap h' /\ h'.get? S = some (lstO (strValues us) n) /\ us.map (·.1) = xs) s := by
 have fS : S ∉ c.fr := fun z => (O.fr _ z).1 rfl
 have fI : I ∉ c.fr := fun z => (O.fr _ z).2.1 rfl
 have fm : m ∉ c.fr := fun z => (O.fr _ z).2.2.1 rfl
 have fT : T ∉ c.fr := fun z => (O.fr _ z).2.2.2.1 rfl
 have fx : lx ∉ c.fr := fun z => (O.fr _ z).2.2.2.2 rfl
 have hll : ls.length = xs.length := by rw [<- hls, List.length_map]
 intro k
 induction k with
 | zero =>
  intro i s hk hi st
  have hin : i = xs.length := by omega
  subst hin
  refine codeAny_builtin PySem.F.entry_extend_loop ?_
  rw [Around.under_plainId PySem.F.plain_extend_loop _]
  show wpAny _ A.in1 (pyNext (.ref m) >>= _) _ _ s
  refine wB (next_map_end (i := xs.length) (xs := (strValues ls).toArray) st.bas.handled st.map st.one st.it st.src (by simp [strValues, hll]) fun h' hk => wP ⟨rfl, ?_⟩)
  obtain ⟨us, n, e, hu⟩ := st.acc
  rw [List.take_length] at hu
  have q : HX c [I] s.heap h' := .of_keep (fun b o hn e => hk b o (by simpa using hn) e) (fun y hy => by rw [lS hy]; exact O.base.2) (fun y hy => by rw [lS hy]; exact fI)
  exact ⟨h', s.toks, us, n, rfl, q.mono (fun y hy => .tail _ hy), q.exact (fun z => O.SI (lS z)) fS e, hu⟩
 | succ k ih =>
  intro i s hk hi st
  have hlt : i < xs.length := by omega
  have hlt' : i < ls.length := by omega
  obtain ⟨us, n, eS, hu⟩ := st.acc
  refine codeAny_builtin PySem.F.entry_extend_loop ?_
  rw [Around.under_plainId PySem.F.plain_extend_loop _]
  show wpAny _ A.in1 (pyNext (.ref m) >>= _) _ _ s
  have hx1 : xs[i]? = some ls[i].1 := by rw [<- hls]; simp [hlt']
  refine wB (next_map_item (i := i) (xs := (strValues ls).toArray) (x := .str ls[i].1 ls[i].2) st.map st.one st.it st.src (by simp [strValues, hlt']) O.mI fun h1 hi1 hs1 => ?_)
  have q1 : HX c [I] s.heap h1 := .sameBut hs1 O.base.2 fI
  have B1 : Bas c A X h1 := st.bas.mut q1 fun y hy => by rw [lS hy]; obtain ⟨o, e, _⟩ := hi1; exact ⟨o, e⟩
  have hxm : ls[i].1 ∈ xs := lG hx1
  refine wK (hf _ hxm A.in1.in1 X { s with heap := h1 } [.str ls[i].1 ls[i].2] LA (B1.same rfl rfl) (.cons (.str _ _) .nil)) (fun r s2 q => ?_)
  obtain ⟨⟨h2, tk2, q2⟩, r2⟩ := q
  have hz := r2.str_inv; clear r2; obtain ⟨t⟩ := hz
  have g : ∀ b o, b ≠ I -> b ∉ c.fr -> s.heap.get? b = some o -> h2.get? b = some o := fun b o hb hf e => q2.exact (fun z => nomatch z) hf (q1.exact (by simpa using hb) hf e)
  have eS2 := g S _ O.SI fS eS
  have hit2 : h2.IsListIter I lx (i + 1) := by
   obtain ⟨o, e, a, b⟩ := hi1
   exact ⟨o, q2.exact (fun z => nomatch z) fI e, a, b⟩
  show wpAny _ A.in1 (updateSeq S (·.push (.str ls[i].1 t)) >>= _) _ _ _
  have hul : us.length = i := by
   have := congrArg List.length hu
   rw [List.length_map, List.length_take] at this; omega
  refine wB (wpAny_updateSeq eS2 rfl ?_ (by simp [strValues, sizeLine_eq]; omega) (by simp [strValues, sizeLine_eq]; omega))
  have qs := Heap.SameBut.update h2 S (Obj.mapSeq (·.push (Value.str ls[i].1 t)))
  have q3 : HX c [S] h2 (h2.update S (Obj.mapSeq (·.push (Value.str ls[i].1 t)))) := .sameBut qs O.base.1 fS
  have eS3 : (h2.update S (Obj.mapSeq (·.push (Value.str ls[i].1 t)))).get? S = some (lstO (strValues (us ++ [(ls[i].1, t)])) (n + 1)) := by
   rw [Heap.get?_update_self _ eS2 rfl]
   simp [Obj.mapSeq, strValues, lstO]
  have B3 : Bas c A X (h2.update S (Obj.mapSeq (·.push (Value.str ls[i].1 t)))) := (B1.hx0 q2).mut q3 fun y hy => by rw [lS hy]; exact ⟨_, eS3⟩
  have st3 : StMp c A X S m T I lx fv xs ls (i + 1) (h2.update S (Obj.mapSeq (·.push (Value.str ls[i].1 t)))) := by
   refine ⟨?_, ?_, ?_, ?_, ⟨_, _, eS3, ?_⟩, B3⟩
   ·rw [qs.2 m O.mS]; exact g m _ O.mI fm st.map
   ·rw [qs.2 T O.TS]; exact g T _ O.TI fT st.one
   ·obtain ⟨o, e, a, b⟩ := hit2
    exact ⟨o, by rw [qs.2 I O.SI.symm]; exact e, a, b⟩
   ·obtain ⟨o, e, a, b⟩ := st.src
    exact ⟨o, by rw [qs.2 lx O.xS]; exact g lx _ O.xI fx e, a, b⟩
   ·rw [List.map_append, hu, List.take_add_one, hx1]; rfl
  refine wP ⟨plainId_quiet PySem.F.plain_extend_loop _, codeAny_mono (ih (i + 1) _ (by omega) hlt st3) fun r s' hr => ?_⟩
  obtain ⟨rfl, h', tk, us', n', rfl, q4, e4, hu4⟩ := hr
  refine ⟨rfl, h', tk, us', n', rfl, ?_, e4, hu4⟩
  have a1 : HX c [S, I] s.heap h1 := q1.mono fun y hy => .tail _ hy
  have a2 : HX c [S, I] h1 h2 := q2.mono fun _ z => nomatch z
  have a3 : HX c [S, I] h2 (h2.update S (Obj.mapSeq (·.push (Value.str ls[i].1 t)))) := q3.mono fun y hy => lS hy ▸ .head _
  exact ((a1.trans a2).trans a3).trans q4
end
end
section
section
variable {c : Cfg} {A : Around} {s : Shared} {l : Nat} {X : List Addr} {m T I lx : Addr} {fv : Value} {xs : List Str} {ls : List (Str × Tok)}
structure OffN (c : Cfg) (m T I lx : Addr) : Prop where
 mI : m ≠ I
 TI : T ≠ I
 xI : lx ≠ I
 fr : ∀ a ∈ c.fr, a ≠ I /\ a ≠ m /\ a ≠ T /\ a ≠ lx
 base : c.base.get? I = none
theorem collect_map {Q : List Value -> Shared -> Prop} (LA : Lev l A.in1.in1) (hls : ls.map (·.1) = xs) (hz : xs.length <= 1000) (hf : ∀ x ∈ xs, CallOk c l fv [.str x] (.str x)) (O : OffN c m T I lx)
  (hm : s.heap.get? m = some (mapO T fv)) (hT : s.heap.get? T = some (oneT I)) (hi : s.heap.IsListIter I lx 0) (hx : s.heap.IsList lx (strValues ls).toArray) (B : Bas c A X s.heap)
  (h : ∀ h' tk us, HX c [I] s.heap h' -> us.map (·.1) = xs -> Q (strValues us) { s with heap := h', toks := tk }) : wpAny c.M A (collect (.ref m)) Q NoE s := by
 have lt : ∀ {b o}, s.heap.get? b = some o -> b ≠ s.heap.objs.size := fun e => Nat.ne_of_lt (Heap.lt_size e)
 have hSb : c.base.get? s.heap.objs.size = none := by
  cases e : c.base.get? s.heap.objs.size with
  | none => rfl
  | some o => have := B.inBase e; rw [fresh_ge (Nat.le_refl _)] at this; cases this
 have hfrS : ∀ a ∈ c.fr, a ≠ s.heap.objs.size := fun a ha => by obtain ⟨o, e⟩ := B.alloc a (B.frs a ha); exact lt e
 have hI' := id hi
 obtain ⟨oI, eI, _⟩ := hI'
 have hx' := id hx
 obtain ⟨ox, ex, _⟩ := hx'
 unfold collect
 refine wB (wpAny_runValue (codeAny_builtin PySem.F.entry_proto_collect ?_))
 rw [Around.under_plainId PySem.F.plain_proto_collect _]
 show wpAny _ A.in1 (newList [] >>= fun l => again (.builtin "list.__iadd__" ⟨[l, .ref m], []⟩)) _ _ s
 refine wB (wpAny_newObj_type ?_)
 refine wP ⟨plainId_quiet PySem.F.plain_list_iadd _, codeAny_builtin PySem.F.entry_list_iadd ?_⟩
 rw [Around.under_plainId PySem.F.plain_list_iadd _]
 have hS1 : (s.heap.push { cls := .type "list", data := .seq ([] : List Value).toArray }).get? s.heap.objs.size = some { cls := .type "list", data := .seq ([] : List Value).toArray } := hP _ rfl
 have hm1 : (s.heap.push { cls := .type "list", data := .seq ([] : List Value).toArray }).get? m = some (mapO T fv) := Heap.get?_push_of_some _ hm
 have hTm : Shared.TypeIs { s with heap := s.heap.push { cls := .type "list", data := .seq ([] : List Value).toArray } } (.ref m) "map" := ⟨_, hm1, rfl⟩
 show wpAny _ A.in1 (Builtin.List.listExtendWith (.ref s.heap.objs.size) (.ref m) (.ref s.heap.objs.size)) _ _ _
 unfold Builtin.List.listExtendWith
 refine wB (wpAny_typeOf hTm ?_)
 have h1 : Builtin.List.listSameRef (.ref s.heap.objs.size) (.ref m) = false := by simp [Builtin.List.listSameRef, (lt hm).symm]
 have h2 : (Value.type "map" == Value.type "list") = false := by decide
 have h3 : (Value.type "map" == Value.type "tuple") = false := by decide
 simp only [h1, h2, h3, Bool.or_false, Bool.false_eq_true, if_false]
 refine wB (iter_map hm1 ?_)
 refine wB (wpAny_holding ?_)
 unfold Builtin.List.listLengthHint
 refine wB (wpAny_specialOf hTm nolen_map ?_)
 show wpAny _ A.in1 (specialOf (Value.ref m) (Str.ofString "__length_hint__") >>= _) _ _ _
 refine wB (wpAny_specialOf hTm nohint_map ?_)
 refine wP ?_
 show wpAny _ A.in1 (rule "list.extend.makes-room" >>= fun _ => Builtin.List.listTouch (.ref s.heap.objs.size) >>= fun _ => again (.builtin "list.extend.loop" ⟨[.ref s.heap.objs.size, .ref m, .ref s.heap.objs.size], []⟩)) _ _ _
 refine wB (wpAny_rule ?_)
 refine wB ?_
 show wpAny _ A.in1 (updateSeq s.heap.objs.size (·.push .none) >>= fun _ => updateSeq s.heap.objs.size (·.pop)) _ _ _
 refine wB (wpAny_updateSeq hS1 rfl ?_)
 have hS2 := Heap.get?_update_self (Obj.mapSeq (·.push Value.none)) hS1 rfl
 refine wpAny_updateSeq hS2 rfl ?_
 have hS3 := Heap.get?_update_self (Obj.mapSeq (·.pop)) hS2 rfl
 generalize hH : ((s.heap.push { cls := .type "list", data := .seq ([] : List Value).toArray }).update s.heap.objs.size (Obj.mapSeq (·.push Value.none))).update s.heap.objs.size (Obj.mapSeq (·.pop)) = H at hS3
 have oth : ∀ b o, s.heap.get? b = some o -> H.get? b = some o := fun b o e => by
  rw [<- hH]
  exact (Heap.get?_update_other _ _ (Ne.symm (lt e))).trans ((Heap.get?_update_other _ _ (Ne.symm (lt e))).trans (Heap.get?_push_of_some _ e))
 have q0 : HX c [] s.heap H := .keep0 oth
 have st : StMp c A X s.heap.objs.size m T I lx fv xs ls 0 H := by
  refine ⟨oth _ _ hm, oth _ _ hT, ?_, ?_, ⟨[], _, hS3, rfl⟩, B.hx0 q0⟩
  ·obtain ⟨o, e, a, b⟩ := hi; exact ⟨o, oth _ _ e, a, b⟩
  ·obtain ⟨o, e, a, b⟩ := hx; exact ⟨o, oth _ _ e, a, b⟩
 have O' : OffM c X s.heap.objs.size m T I lx := ⟨O.mI, O.TI, O.xI, (lt eI).symm, lt hm, lt hT, lt ex, fun a ha => ⟨hfrS a ha, O.fr a ha⟩, ⟨hSb, O.base⟩⟩
 refine wP ⟨plainId_quiet PySem.F.plain_extend_loop _, codeAny_mono (ext_loop LA hls hz hf O' xs.length 0 { s with heap := H } (by omega) (by omega) st) fun r s' hr => ?_⟩
 obtain ⟨rfl, h', tk, us, n, rfl, q, e, hu⟩ := hr
 show wpAny _ A (load s.heap.objs.size >>= _) _ _ _
 refine wB (wpAny_load e ?_)
 refine wP ?_
 have := h h' tk us ((q0.mono fun _ z => nomatch z).youngY q fun a ha => ?_) hu
 ·simpa using this
 ·rcases lC ha with rfl | ha
  ·exact .inr (fresh_ge (Nat.le_refl _))
  ·exact .inl ha
theorem code_tuple_map {Q1 : Value -> Shared -> Prop} (LA : Lev l A.in1.in1.in1) (hls : ls.map (·.1) = xs) (hz : xs.length <= 1000) (hf : ∀ x ∈ xs, CallOk c l fv [.str x] (.str x)) (O : OffN c m T I lx)
  (hm : s.heap.get? m = some (mapO T fv)) (hT : s.heap.get? T = some (oneT I)) (hi : s.heap.IsListIter I lx 0) (hx : s.heap.IsList lx (strValues ls).toArray) (B : Bas c A X s.heap)
  (h : ∀ h' tk us, HX c [I] s.heap h' -> us.map (·.1) = xs -> Q1 (.ref h'.objs.size) { s with heap := h'.push (tupO (strValues us) 0), toks := tk }) :
  codeAny c.M A (.call (.builtin "tuple.__new__") ⟨[.type "tuple", .ref m], []⟩) (wants Q1 NoE) s := by
 refine codeAny_of_tree ?_
 show wpAny _ A.in1 (do checkBuiltinCall "tuple.__new__" ⟨[.type "tuple", .ref m], []⟩; again (.builtin "tuple.__new__" ⟨[.type "tuple", .ref m], []⟩)) _ _ s
 refine wB (wpAny_of_eq (PySem.F.newCall_tuple_1 _) (wP ⟨plainId_quiet PySem.F.plain_tuple_new _, codeAny_builtin PySem.F.entry_tuple_new ?_⟩))
 rw [Around.under_plainId PySem.F.plain_tuple_new _]
 have hsub := sub_tuple_self
 have hinit := init_tuple_lookup
 have hmh := madeHere_tuple
 have hTI : s.TypeIs (.ref m) "map" := ⟨_, hm, rfl⟩
 unfold Builtin.«tuple.__new__»
 repeat (any_goals (first | assumption | with_reducible refine wB (collect_map (A := A.in1) LA hls hz hf O hm hT hi hx (B.same rfl rfl) ?_) | wp_step))
 intro h' tk us q hu
 refine wB (wP ?_)
 have hul : us.length = xs.length := by rw [<- hu, List.length_map]
 show wpAny _ A.in1 (Builtin.Tuple.tupleExact (strValues us).toArray >>= fun v => ret v) _ _ _
 unfold Builtin.Tuple.tupleExact
 refine wB (wpAny_newObj_type ?_ (by show (strValues us).toArray.size <= sizeLine; simp [strValues, sizeLine_eq]; omega))
 exact wP (h h' tk us q hu)
theorem call_tuple_map {Q : Value -> Shared -> Prop} (LA : Lev l A.in1.in1.in1.in1) (hls : ls.map (·.1) = xs) (hz : xs.length <= 1000) (hf : ∀ x ∈ xs, CallOk c l fv [.str x] (.str x)) (O : OffN c m T I lx)
  (hm : s.heap.get? m = some (mapO T fv)) (hT : s.heap.get? T = some (oneT I)) (hi : s.heap.IsListIter I lx 0) (hx : s.heap.IsList lx (strValues ls).toArray) (B : Bas c A X s.heap)
  (h : ∀ h' tk us, HX c [I] s.heap h' -> us.map (·.1) = xs -> Q (.ref h'.objs.size) { s with heap := h'.push (tupO (strValues us) 0), toks := tk }) : wpAny c.M A (call (.type "tuple") [.ref m]) Q NoE s := by
 refine callType_codes (Q₁ := fun obj s₁ => s₁.TypeIs obj "tuple" /\ Q obj s₁) PySem.F.called_tuple (PySem.F.typeCall_tuple_1 _) PySem.F.entry_object_init
  (code_tuple_map (A := A.in1) LA hls hz hf O hm hT hi hx (B.same rfl rfl) fun h' tk us q hu => ⟨⟨_, hP _ rfl, rfl⟩, h h' tk us q hu⟩) fun obj s₁ h₁ => ?_
 exact ⟨h₁.1, PySem.F.args_object_init_2 obj _, object_init_meets PySem.F.called_tuple.init.lookup PySem.F.called_tuple.made (by decide) c.prog c.w A.in1 _ s₁ ⟨h₁.1, rfl, h₁.2⟩⟩
end
section
variable {c : Cfg} {l : Nat} {X : List Addr} {env : Env} {Γ : Gam}
theorem Ev.tupleMap {f : Str} {n1 n2 n3 p1 pos : Pos} {e : Expr} {xs : List Str} (g1 : Glb c "tuple" (.type "tuple")) (g2 : Glb c "map" (.type "map")) (hl : l < 60) (hz : xs.length <= 1000) {fv : Value} (g3 : Glb c f fv) (hf : ∀ x ∈ xs, CallOk c (l + 1) fv [.str x] (.str x)) (h : Ev c l X env Γ e (.list (xs.map .str)))
  (k1 : autoParam (env.kindOf "tuple" = some .globalImplicit) aR) (k2 : autoParam (env.kindOf "map" = some .globalImplicit) aR) (k3 : autoParam (env.kindOf f = some .globalImplicit) aR) (hd : (f == ("__debug__" : Str)) = false := by decide)
  (he1 : autoParam (starEach [.Call (.Name "map" n2) [.Name f n3, e] [] p1] env = (false, eval (.Call (.Name "map" n2) [.Name f n3, e] [] p1) env) :: starEach [] env) aR)
  (he2 : autoParam (starEach [.Name f n3, e] env = (false, eval (.Name f n3) env) :: (false, eval e env) :: starEach [] env) aR) :
  Ev c l X env Γ (.Call (.Name "tuple" n1) [.Call (.Name "map" n2) [.Name f n3, e] [] p1] [] pos) (.tuple (xs.map .str)) := fun A s L G => by
 refine wpAny_Call_ofName (wpAny_Name (g1 A _ s env _ G.bas.stays G.globals G.builtins G.kind k1 ?_) (by kernel_rfl))
 show wpAny c.M A (callWith pos (.type "tuple") [] (backTo pos (starEach [.Call (.Name "map" n2) [.Name f n3, e] [] p1] env)) []) _ _ s
 rw [he1]
 refine callWith_of (P := fun h => c.base.StaysIn h) rfl keep_type (evalArgs_plain (Calls.spliced_cons ?_))
 refine wpAny_Call_ofName (wpAny_Name (g2 A _ s env _ G.bas.stays G.globals G.builtins G.kind k2 ?_) (by kernel_rfl))
 show wpAny c.M A (callWith p1 (.type "map") [] (backTo p1 (starEach [.Name f n3, e] env)) []) _ _ s
 rw [he2]
 refine callWith_of (P := fun h => c.base.StaysIn h) rfl keep_type (evalArgs_plain (Calls.spliced_cons ?_))
 refine wpAny_Name (g3 A _ s env _ G.bas.stays G.globals G.builtins G.kind k3 ?_) hd
 refine Calls.spliced_cons (h.use L G fun v1 s1 p1 r1 G1 => Calls.spliced_nil ?_)
 have hz := r1.list_inv; clear r1; obtain ⟨lx, vs, n, hX, e, r⟩ := hz
 obtain ⟨ls, hls⟩ := strs_of r
 refine ⟨G1.bas.stays, ?_⟩
 have hx : s1.heap.IsList lx (strValues ls).toArray := ⟨_, e, rfl, _, rfl⟩
 refine call_map hx fun h' hm hT hi hk => ?_
 have q2 : HX c [] s1.heap h' := .keep0 hk
 have G2 := G1.bas.hx0 q2
 refine Calls.spliced_nil ⟨G2.stays, ?_⟩
 have al : ∀ b, s1.heap.objs.size <= b -> ∀ a, (∃ o, s1.heap.get? a = some o) -> a ≠ b := fun b hb a ⟨o, e⟩ => Nat.ne_of_lt (Nat.lt_of_lt_of_le (Heap.lt_size e) hb)
 have alf : ∀ a ∈ c.fr, ∃ o, s1.heap.get? a = some o := fun a ha => G1.bas.alloc a (G1.bas.frs a ha)
 have hIn : s1.heap.get? s1.heap.objs.size = Option.none := fresh_ge (Nat.le_refl _)
 have O : OffN c (s1.heap.objs.size + 2) (s1.heap.objs.size + 1) s1.heap.objs.size lx := by
  refine ⟨(show (s1.heap.objs.size + 2 : Nat) ≠ s1.heap.objs.size from by omega), (show (s1.heap.objs.size + 1 : Nat) ≠ s1.heap.objs.size from by omega), al _ (Nat.le_refl _) lx ⟨_, e⟩, fun a ha => ⟨al _ (Nat.le_refl _) a (alf a ha), al _ (Nat.le_add_right _ 2) a (alf a ha), al _ (Nat.le_add_right _ 1) a (alf a ha), fun z => hX (z ▸ G1.bas.frs a ha)⟩, ?_⟩
  cases q : c.base.get? s1.heap.objs.size with
  | none => rfl
  | some o => rw [G1.bas.inBase q] at hIn; cases hIn
 have LA : Lev (l + 1) A.in1.in1.in1.in1 := by
  obtain ⟨a1, a2, a3⟩ := L
  exact ⟨by show A.depth <= _; omega, by show A.units + 1 + 1 + 1 + 1 <= _; omega, by omega⟩
 refine call_tuple_map (s := { s1 with heap := h' }) LA hls hz hf O hm hT hi (by obtain ⟨o, e, a, b⟩ := hx; exact ⟨o, hk _ _ e, a, b⟩) G2 fun h2 tk us q hu => ?_
 have q3 : HX c [] s1.heap h2 := q2.young q fun a ha => by rw [lS ha]; exact hIn
 refine ⟨p1.trans ⟨_, tk, q3.trans (.push _ _)⟩, ?_⟩
 rw [<- hu]
 exact Rd.newTuple (c := c) (s := { s1 with heap := h2 }) G.bas.frs (fun a h => q3.alive (fun z => nomatch z) (G1.bas.alloc a h)) (rdl_strs us)
end
end
section
noncomputable def cmpL (f : Str -> Str -> Bool) (g : Nat -> Nat -> Bool) : List Str -> List Str -> Bool
 | x :: xs, y :: ys => if x = y then cmpL f g xs ys else f x y
 | xs, ys => g xs.length ys.length
theorem cmpL_end {f : Str -> Str -> Bool} {g : Nat -> Nat -> Bool} {xs ys : List Str} (h : xs = [] \/ ys = []) : cmpL f g xs ys = g xs.length ys.length := by
 cases xs with
 | nil => cases ys <;> rfl
 | cons x xs =>
  cases ys with
  | nil => rfl
  | cons y ys => rcases h with h | h <;> cases h
noncomputable abbrev ltS (x y : Str) : Bool := decide (x.cps.toList < y.cps.toList)
noncomputable abbrev gtS (x y : Str) : Bool := decide (y.cps.toList < x.cps.toList)
noncomputable abbrev ltL : List Str -> List Str -> Bool := cmpL ltS (fun m n => decide (m < n))
noncomputable abbrev gtL : List Str -> List Str -> Bool := cmpL gtS (fun m n => decide (m > n))
theorem lt_loop (l b : Addr) (us vs : List (Str × Tok)) (n n2 : Nat) (k : Nat) :
  ∀ i : Nat, us.length - i = k -> i <= us.length -> i <= vs.length -> Meets (Builtin.«list.__eq__.loop» ⟨[.ref l, .ref b, rawInt i, rawInt 0], []⟩)
   (fun A R s => s.heap.get? l = some (lstO (strValues us) n) /\ s.heap.get? b = some (lstO (strValues vs) n2) /\
    R (.ok (.ret (.bool (ltL ((us.drop i).map (·.1)) ((vs.drop i).map (·.1)))))) s) := by
 have fin : ∀ i : Nat, i <= us.length -> i <= vs.length -> (us.length <= i \/ vs.length <= i) -> ltL ((us.drop i).map (·.1)) ((vs.drop i).map (·.1)) = decide (us.length < vs.length) := fun i h1 h2 h => by
  have hh : (us.drop i).map (·.1) = ([] : List Str) \/ (vs.drop i).map (·.1) = ([] : List Str) := by
   rcases h with h | h
   ·left; rw [List.drop_eq_nil_of_le h]; rfl
   ·right; rw [List.drop_eq_nil_of_le h]; rfl
  refine (cmpL_end hh).trans ?_
  simp only [List.length_map, List.length_drop]
  rw [decide_eq_decide]; omega
 have stop : ∀ i : Nat, i <= us.length -> i <= vs.length -> (us.length <= i \/ vs.length <= i) -> Meets (Builtin.«list.__eq__.loop» ⟨[.ref l, .ref b, rawInt i, rawInt 0], []⟩)
   (fun A R s => s.heap.get? l = some (lstO (strValues us) n) /\ s.heap.get? b = some (lstO (strValues vs) n2) /\
    R (.ok (.ret (.bool (ltL ((us.drop i).map (·.1)) ((vs.drop i).map (·.1)))))) s) := by
  intro i h1 h2 hh prog w A R s h
  obtain ⟨hp, g, d, tk, os⟩ := s; obtain ⟨hl, hb, h⟩ := h
  rw [fin i h1 h2 hh] at h
  wp_walk using AutoSeq1.wpAny_loadPart' hl, AutoSeq1.wpAny_loadPart' hb
  have key : (strValues us).toArray[((i : Nat) : Int).toNat]? = none \/ (strValues vs).toArray[((i : Nat) : Int).toNat]? = none := by
   rcases hh with q | q
   ·left; simp [strValues]; omega
   ·right; simp [strValues]; omega
  have fin2 : ∀ (o1 o2 : Option Value), (o1 = none \/ o2 = none) -> ∀ {t : Value -> Value -> Sem Fin} {e : Sem Fin} {Q : Fin -> Shared -> Prop} {E : Value -> Shared -> Prop} {s' : Shared}, wpAny (model prog w) A.in1 e Q E s' -> wpAny (model prog w) A.in1 (match (o1, o2) with | (some x, some y) => t x y | _ => e) Q E s' := by
   intro o1 o2 ho t e Q E s' h
   rcases ho with rfl | rfl
   ·exact h
   ·cases o1 <;> exact h
  refine fin2 _ _ key ?_
  wp_walk using AutoSeq1.wpAny_loadPart' hl, AutoSeq1.wpAny_loadPart' hb
  have e1 : (strValues us).toArray.size = us.length := by simp [strValues]
  have e2 : (strValues vs).toArray.size = vs.length := by simp [strValues]
  show R (.ok (.ret (.bool (decide ((strValues us).toArray.size < (strValues vs).toArray.size))))) _
  rw [e1, e2]
  exact h
 induction k with
 | zero =>
  intro i hk h1 h2
  exact stop i h1 h2 (.inl (by omega))
 | succ k ih =>
  intro i hk h1 h2
  by_cases hv : vs.length <= i
  ·exact stop i h1 h2 (.inr hv)
  intro prog w A R s h
  obtain ⟨hp, g, d, tk, os⟩ := s; obtain ⟨hl, hb, h⟩ := h
  wp_walk using AutoSeq1.wpAny_loadPart' hl, AutoSeq1.wpAny_loadPart' hb
  have hlt : i < us.length := by omega
  have hlt2 : i < vs.length := by omega
  have hi1 : (strValues us).toArray[((i : Nat) : Int).toNat]? = some (.str us[i].1 us[i].2) := by simp [strValues, hlt]
  have hi2 : (strValues vs).toArray[((i : Nat) : Int).toNat]? = some (.str vs[i].1 vs[i].2) := by simp [strValues, hlt2]
  have hc : ((i : Int) + 1) = ((i + 1 : Nat) : Int) := by push_cast; rfl
  have hd : ltL ((us.drop i).map (·.1)) ((vs.drop i).map (·.1)) = if us[i].1 = vs[i].1 then ltL ((us.drop (i + 1)).map (·.1)) ((vs.drop (i + 1)).map (·.1)) else ltS us[i].1 vs[i].1 := by
   rw [List.drop_eq_getElem_cons hlt, List.drop_eq_getElem_cons hlt2]
   rfl
  rw [hd] at h
  rw [hi1, hi2]
  refine wB (wpAny_eqBool_str ?_)
  by_cases he : us[i].1 = vs[i].1
  ·rw [if_pos he] at h
   rw [decide_eq_true he]
   wp_walk
   rw [hc]
   exact ⟨plainId_quiet MeetsSeq3.plain_eq_loop _, codeAny_builtin MeetsSeq3.entry_eq_loop (by
    rw [Around.under_plainId MeetsSeq3.plain_eq_loop _]
    exact ih (i + 1) (by omega) hlt hlt2 prog w A R _ ⟨hl, hb, h⟩)⟩
  ·rw [if_neg he] at h
   rw [decide_eq_false he]
   rw [if_neg Bool.false_ne_true]
   unfold Builtin.List.listItems
   refine wB (wB (wpAny_seqItems hl rfl (wP ?_)))
   refine wB (wB (wpAny_seqItems hb rfl (wP ?_)))
   rw [hi1, hi2]
   show wpAny _ _ (richCompare .Lt (.str us[i].1 us[i].2) (.str vs[i].1 vs[i].2) >>= fun v => ret v) _ _ _
   exact wB (richCompare_gives (op := .Lt) (T := "str") rfl rfl PySem.F.slot_str_lt PySem.F.entry_str_lt (PySem.F.args_str_lt_2 _ _) (gives_str_lt _ _ _ _) (fun x => nomatch x) (wP h))
theorem list_lt (l b : Addr) (us vs : List (Str × Tok)) (n n2 : Nat) :
  Meets (Builtin.«list.__lt__» ⟨[.ref l, .ref b], []⟩)
   (fun A R s => s.heap.get? l = some (lstO (strValues us) n) /\ s.heap.get? b = some (lstO (strValues vs) n2) /\ R (.ok (.ret (.bool (ltL (us.map (·.1)) (vs.map (·.1)))))) s) := by
 intro prog w A R s h
 obtain ⟨hp, g, d, tk, os⟩ := s; obtain ⟨hl, hb, h⟩ := h
 have f3 := AutoSeq1.sub_list_list
 wp_walk using AutoSeq1.wpAny_loadPart' hl, AutoSeq1.wpAny_loadPart' hb
 exact ⟨plainId_quiet MeetsSeq3.plain_eq_loop _, codeAny_builtin MeetsSeq3.entry_eq_loop (by
  rw [Around.under_plainId MeetsSeq3.plain_eq_loop _]
  exact lt_loop l b us vs n n2 _ 0 rfl (Nat.zero_le _) (Nat.zero_le _) prog w A R _ ⟨hl, hb, h⟩)⟩
theorem rich_lt {prog : Program} {w : World} {A : Around} {E : Value -> Shared -> Prop} {s : Shared} {l b : Addr} {us vs : List (Str × Tok)} {n n2 : Nat} {Q : Value -> Shared -> Prop} (hu : A.units < cLine) (hl : s.heap.get? l = some (lstO (strValues us) n)) (hb : s.heap.get? b = some (lstO (strValues vs) n2)) (h : Q (.bool (ltL (us.map (·.1)) (vs.map (·.1)))) s) :
  wpAny (model prog w) A (richCompare .Lt (.ref l) (.ref b)) Q E s :=
 wpAny_richCompare_same_room (T := "list") (id := "list.__lt__") ⟨_, hl, rfl⟩ ⟨_, hb, rfl⟩ PySem.F.slot_list_lt (call_meets PySem.F.slot_list_lt ⟨_, hl, rfl⟩ PySem.F.entry_list_lt (PySem.F.args_list_lt_2 _ _) (list_lt l b us vs n n2) ⟨hl, hb, ⟨(fun x => nomatch x), h⟩⟩) hu
theorem gt_loop (l b : Addr) (us vs : List (Str × Tok)) (n n2 : Nat) (k : Nat) :
  ∀ i : Nat, us.length - i = k -> i <= us.length -> i <= vs.length -> Meets (Builtin.«list.__eq__.loop» ⟨[.ref l, .ref b, rawInt i, rawInt 4], []⟩)
   (fun A R s => s.heap.get? l = some (lstO (strValues us) n) /\ s.heap.get? b = some (lstO (strValues vs) n2) /\
    R (.ok (.ret (.bool (gtL ((us.drop i).map (·.1)) ((vs.drop i).map (·.1)))))) s) := by
 have fin : ∀ i : Nat, i <= us.length -> i <= vs.length -> (us.length <= i \/ vs.length <= i) -> gtL ((us.drop i).map (·.1)) ((vs.drop i).map (·.1)) = decide (us.length > vs.length) := fun i h1 h2 h => by
  have hh : (us.drop i).map (·.1) = ([] : List Str) \/ (vs.drop i).map (·.1) = ([] : List Str) := by
   rcases h with h | h
   ·left; rw [List.drop_eq_nil_of_le h]; rfl
   ·right; rw [List.drop_eq_nil_of_le h]; rfl
  refine (cmpL_end hh).trans ?_
  simp only [List.length_map, List.length_drop]
  rw [decide_eq_decide]; omega
 have stop : ∀ i : Nat, i <= us.length -> i <= vs.length -> (us.length <= i \/ vs.length <= i) -> Meets (Builtin.«list.__eq__.loop» ⟨[.ref l, .ref b, rawInt i, rawInt 4], []⟩)
   (fun A R s => s.heap.get? l = some (lstO (strValues us) n) /\ s.heap.get? b = some (lstO (strValues vs) n2) /\
    R (.ok (.ret (.bool (gtL ((us.drop i).map (·.1)) ((vs.drop i).map (·.1)))))) s) := by
  intro i h1 h2 hh prog w A R s h
  obtain ⟨hp, g, d, tk, os⟩ := s; obtain ⟨hl, hb, h⟩ := h
  rw [fin i h1 h2 hh] at h
  wp_walk using AutoSeq1.wpAny_loadPart' hl, AutoSeq1.wpAny_loadPart' hb
  have key : (strValues us).toArray[((i : Nat) : Int).toNat]? = none \/ (strValues vs).toArray[((i : Nat) : Int).toNat]? = none := by
   rcases hh with q | q
   ·left; simp [strValues]; omega
   ·right; simp [strValues]; omega
  have fin2 : ∀ (o1 o2 : Option Value), (o1 = none \/ o2 = none) -> ∀ {t : Value -> Value -> Sem Fin} {e : Sem Fin} {Q : Fin -> Shared -> Prop} {E : Value -> Shared -> Prop} {s' : Shared}, wpAny (model prog w) A.in1 e Q E s' -> wpAny (model prog w) A.in1 (match (o1, o2) with | (some x, some y) => t x y | _ => e) Q E s' := by
   intro o1 o2 ho t e Q E s' h
   rcases ho with rfl | rfl
   ·exact h
   ·cases o1 <;> exact h
  refine fin2 _ _ key ?_
  wp_walk using AutoSeq1.wpAny_loadPart' hl, AutoSeq1.wpAny_loadPart' hb
  have e1 : (strValues us).toArray.size = us.length := by simp [strValues]
  have e2 : (strValues vs).toArray.size = vs.length := by simp [strValues]
  show R (.ok (.ret (.bool (decide ((strValues us).toArray.size > (strValues vs).toArray.size))))) _
  rw [e1, e2]
  exact h
 induction k with
 | zero =>
  intro i hk h1 h2
  exact stop i h1 h2 (.inl (by omega))
 | succ k ih =>
  intro i hk h1 h2
  by_cases hv : vs.length <= i
  ·exact stop i h1 h2 (.inr hv)
  intro prog w A R s h
  obtain ⟨hp, g, d, tk, os⟩ := s; obtain ⟨hl, hb, h⟩ := h
  wp_walk using AutoSeq1.wpAny_loadPart' hl, AutoSeq1.wpAny_loadPart' hb
  have hlt : i < us.length := by omega
  have hlt2 : i < vs.length := by omega
  have hi1 : (strValues us).toArray[((i : Nat) : Int).toNat]? = some (.str us[i].1 us[i].2) := by simp [strValues, hlt]
  have hi2 : (strValues vs).toArray[((i : Nat) : Int).toNat]? = some (.str vs[i].1 vs[i].2) := by simp [strValues, hlt2]
  have hc : ((i : Int) + 1) = ((i + 1 : Nat) : Int) := by push_cast; rfl
  have hd : gtL ((us.drop i).map (·.1)) ((vs.drop i).map (·.1)) = if us[i].1 = vs[i].1 then gtL ((us.drop (i + 1)).map (·.1)) ((vs.drop (i + 1)).map (·.1)) else gtS us[i].1 vs[i].1 := by
   rw [List.drop_eq_getElem_cons hlt, List.drop_eq_getElem_cons hlt2]
   rfl
  rw [hd] at h
  rw [hi1, hi2]
  refine wB (wpAny_eqBool_str ?_)
  by_cases he : us[i].1 = vs[i].1
  ·rw [if_pos he] at h
   rw [decide_eq_true he]
   wp_walk
   rw [hc]
   exact ⟨plainId_quiet MeetsSeq3.plain_eq_loop _, codeAny_builtin MeetsSeq3.entry_eq_loop (by
    rw [Around.under_plainId MeetsSeq3.plain_eq_loop _]
    exact ih (i + 1) (by omega) hlt hlt2 prog w A R _ ⟨hl, hb, h⟩)⟩
  ·rw [if_neg he] at h
   rw [decide_eq_false he]
   rw [if_neg Bool.false_ne_true]
   unfold Builtin.List.listItems
   refine wB (wB (wpAny_seqItems hl rfl (wP ?_)))
   refine wB (wB (wpAny_seqItems hb rfl (wP ?_)))
   rw [hi1, hi2]
   show wpAny _ _ (richCompare .Gt (.str us[i].1 us[i].2) (.str vs[i].1 vs[i].2) >>= fun v => ret v) _ _ _
   exact wB (richCompare_gives (op := .Gt) (T := "str") rfl rfl PySem.F.slot_str_gt PySem.F.entry_str_gt (PySem.F.args_str_gt_2 _ _) (gives_str_gt _ _ _ _) (fun x => nomatch x) (wP h))
theorem list_gt (l b : Addr) (us vs : List (Str × Tok)) (n n2 : Nat) :
  Meets (Builtin.«list.__gt__» ⟨[.ref l, .ref b], []⟩)
   (fun A R s => s.heap.get? l = some (lstO (strValues us) n) /\ s.heap.get? b = some (lstO (strValues vs) n2) /\ R (.ok (.ret (.bool (gtL (us.map (·.1)) (vs.map (·.1)))))) s) := by
 intro prog w A R s h
 obtain ⟨hp, g, d, tk, os⟩ := s; obtain ⟨hl, hb, h⟩ := h
 have f3 := AutoSeq1.sub_list_list
 wp_walk using AutoSeq1.wpAny_loadPart' hl, AutoSeq1.wpAny_loadPart' hb
 exact ⟨plainId_quiet MeetsSeq3.plain_eq_loop _, codeAny_builtin MeetsSeq3.entry_eq_loop (by
  rw [Around.under_plainId MeetsSeq3.plain_eq_loop _]
  exact gt_loop l b us vs n n2 _ 0 rfl (Nat.zero_le _) (Nat.zero_le _) prog w A R _ ⟨hl, hb, h⟩)⟩
theorem rich_gt {prog : Program} {w : World} {A : Around} {E : Value -> Shared -> Prop} {s : Shared} {l b : Addr} {us vs : List (Str × Tok)} {n n2 : Nat} {Q : Value -> Shared -> Prop} (hu : A.units < cLine) (hl : s.heap.get? l = some (lstO (strValues us) n)) (hb : s.heap.get? b = some (lstO (strValues vs) n2)) (h : Q (.bool (gtL (us.map (·.1)) (vs.map (·.1)))) s) :
  wpAny (model prog w) A (richCompare .Gt (.ref l) (.ref b)) Q E s :=
 wpAny_richCompare_same_room (T := "list") (id := "list.__gt__") ⟨_, hl, rfl⟩ ⟨_, hb, rfl⟩ PySem.F.slot_list_gt (call_meets PySem.F.slot_list_gt ⟨_, hl, rfl⟩ PySem.F.entry_list_gt (PySem.F.args_list_gt_2 _ _) (list_gt l b us vs n n2) ⟨hl, hb, ⟨(fun x => nomatch x), h⟩⟩) hu
end
section
section
variable {prog : Program} {w : World} {A : Around} {E : Value -> Shared -> Prop} {s : Shared}
theorem call_min2 {l : Addr} {x y : Value} {rb : Bool} {Q : Value -> Shared -> Prop} (hh : A.handled = none) (hl : s.heap.IsList l #[x, y])
  (hc : ∀ s' Q' E', (∀ b o, s.heap.get? b = some o -> s'.heap.get? b = some o) -> Q' (.bool rb) s' -> wpAny (model prog w) A.in1 (richCompare .Lt y x) Q' E' s')
  (h : ∀ h' tk, (∀ b o, s.heap.get? b = some o -> h'.get? b = some o) -> Q (if rb then y else x) { s with heap := h', toks := tk }) : wpAny (model prog w) A (call (.builtin "min") [.ref l]) Q E s := by
 have hname : (toString "min" ++ toString ".loop" : String) = "min.loop" := by decide
 have hll := id hl
 obtain ⟨ol, el, _⟩ := hll
 have hlI : l ≠ s.heap.objs.size := Nat.ne_of_lt (Heap.lt_size el)
 have W := Walks.list (prog := prog) (w := w) (A := A.in1) hh s.heap.objs.size l hlI #[x, y]
 refine call_function_tree PySem.F.kind_min PySem.F.plain_min PySem.F.entry_min (PySem.F.args_min1 _) ?_
 show wpAny _ A.in1 (Builtin.Builtins.bindParams "min" ["key", "default"] 0 ⟨[], []⟩ >>= _) _ _ s
 refine wB (wpAny_of_eq (show Builtin.Builtins.bindParams "min" ["key", "default"] 0 ⟨[], []⟩ = pure [none, none] from rfl) ?_)
 refine wB (wP ?_)
 refine wB (wpAny_pyIter_list hl ?_)
 refine wB (wpAny_newObj_type ?_)
 rw [hname]
 have z1 : (s.heap.push { cls := .type "list_iterator", data := .fields #[.ref l, .int 0 0] }).objs.size = s.heap.objs.size + 1 := Heap.size_push ..
 generalize hH : (s.heap.push { cls := .type "list_iterator", data := .fields #[.ref l, .int 0 0] }) = H at z1
 have lt : ∀ {b o}, s.heap.get? b = some o -> b ≠ s.heap.objs.size /\ b ≠ H.objs.size := fun e => ⟨Nat.ne_of_lt (Heap.lt_size e), by rw [z1]; exact Nat.ne_of_lt (Nat.lt_succ_of_lt (Heap.lt_size e))⟩
 have hSI : H.objs.size ≠ s.heap.objs.size := by rw [z1]; exact Nat.succ_ne_self _
 have k0 : ∀ b o, s.heap.get? b = some o -> (H.push { cls := .type "list", data := .seq ([] : List Value).toArray }).get? b = some o := fun b o e => Heap.get?_push_of_some _ (hH ▸ Heap.get?_push_of_some _ e)
 have st0 : (H.push { cls := .type "list", data := .seq ([] : List Value).toArray }).IsListIter s.heap.objs.size l 0 := ⟨_, Heap.get?_push_of_some _ (hH ▸ hP _ rfl), rfl, rfl⟩
 have hl0 : (H.push { cls := .type "list", data := .seq ([] : List Value).toArray }).IsList l #[x, y] := by obtain ⟨o, e, a, b⟩ := hl; exact ⟨o, k0 _ _ e, a, b⟩
 have hS0 : (H.push { cls := .type "list", data := .seq ([] : List Value).toArray }).get? H.objs.size = some { cls := .type "list", dict := none, data := .seq #[] 0, slots := #[] } := hP _ rfl
 have upd : ∀ {h1 : Heap} {f : Obj -> Obj} {b : Addr} {o : Obj}, b ≠ H.objs.size -> h1.get? b = some o -> (h1.update H.objs.size f).get? b = some o := fun hb e => (Heap.get?_update_other _ _ (Ne.symm hb)).trans e
 refine wP ⟨plainId_quiet PySem.F.plain_min_loop _, ?_⟩
 refine codeAny_builtin PySem.F.entry_min_loop ?_
 rw [Around.under_plainId PySem.F.plain_min_loop _]
 show wpAny _ A.in1 (seqItems? (.ref H.objs.size) >>= _) _ _ _
 refine wB (wpAny_seqItems hS0 rfl ?_)
 show wpAny _ A.in1 (tryCatch (pyNext (.ref s.heap.objs.size)) _ >>= _) _ _ _
 refine wB (wpAny_tryCatch (W.item 0 _ _ _ (by simp) ⟨st0, hl0⟩ fun v h1 tk1 hP st1 hk1 => ?_))
 have hv : v = x := by simpa using hP.symm
 subst hv
 have hS1 := hk1 _ _ (by simpa using hSI) hS0
 show wpAny _ A.in1 (updateSeq H.objs.size (fun _ => #[v, v]) >>= _) _ _ _
 refine wB ?_
 refine wpAny_updateSeq hS1 rfl ?_
 rw [hname]
 have hS2 := Heap.get?_update_self (Obj.mapSeq fun _ => (#[v, v] : Array Value)) hS1 rfl
 have st2 := W.frame 1 h1 (h1.update H.objs.size (Obj.mapSeq fun _ => (#[v, v] : Array Value))) st1 fun b hb o e => upd (by
  rcases lC hb with rfl | hb
  ·exact hSI.symm
  ·rw [lS hb]; exact (lt el).2) e
 have k2 : ∀ b o, s.heap.get? b = some o -> (h1.update H.objs.size (Obj.mapSeq fun _ => (#[v, v] : Array Value))).get? b = some o := fun b o e => upd (lt e).2 (hk1 b o (by simpa using (lt e).1) (k0 b o e))
 generalize (h1.update H.objs.size (Obj.mapSeq fun _ => (#[v, v] : Array Value))) = h2 at hS2 st2 k2
 refine wP ⟨plainId_quiet PySem.F.plain_min_loop _, ?_⟩
 refine codeAny_builtin PySem.F.entry_min_loop ?_
 rw [Around.under_plainId PySem.F.plain_min_loop _]
 show wpAny _ A.in1 (seqItems? (.ref H.objs.size) >>= _) _ _ _
 refine wB (wpAny_seqItems hS2 rfl ?_)
 show wpAny _ A.in1 (tryCatch (pyNext (.ref s.heap.objs.size)) _ >>= _) _ _ _
 refine wB (wpAny_tryCatch (W.item 1 _ _ _ (by simp) st2 fun u h3 tk3 hP st3 hk3 => ?_))
 have hu : u = y := by simpa using hP.symm
 subst hu
 have hS3 := hk3 _ _ (by simpa using hSI) hS2
 have k3 : ∀ b o, s.heap.get? b = some o -> h3.get? b = some o := fun b o e => hk3 b o (by simpa using (lt e).1) (k2 b o e)
 show wpAny _ A.in1 (tryCatch (holding [u, u] (richCompare .Lt u v >>= _)) _ >>= _) _ _ _
 refine wB (wpAny_tryCatch (wpAny_holding (wB (hc { s with heap := h3, toks := tk3 } _ _ k3 ?_))))
 refine wB (wpAny_holding (wpAny_truthy_bool ?_))
 refine wB (wpAny_letGo (wP ?_))
 have last : ∀ (h4 : Heap) (tk4 : Nat) (z : Value) (n : Nat), h4.get? H.objs.size = some { cls := .type "list", dict := none, data := .seq #[z, z] n, slots := #[] } -> (h4.IsListIter s.heap.objs.size l 2 /\ h4.IsList l #[v, u]) -> (∀ b o, s.heap.get? b = some o -> h4.get? b = some o) -> (∀ h' tk, (∀ b o, s.heap.get? b = some o -> h'.get? b = some o) -> Q z { s with heap := h', toks := tk }) ->
   codeAny (model prog w) A (.builtin "min.loop" ⟨[.ref s.heap.objs.size, .none, .ref H.objs.size], []⟩) (fun r s' => match r with | .ok (.ret v) => Q v s' | .ok _ => False | .error e => E e s') { s with heap := h4, toks := tk4 } := fun h4 tk4 z n hS4 st4 k4 hq => by
  refine codeAny_builtin PySem.F.entry_min_loop ?_
  rw [Around.under_plainId PySem.F.plain_min_loop _]
  show wpAny _ A.in1 (seqItems? (.ref H.objs.size) >>= _) _ _ _
  refine wB (wpAny_seqItems hS4 rfl ?_)
  show wpAny _ A.in1 (tryCatch (pyNext (.ref s.heap.objs.size)) _ >>= _) _ _ _
  refine wB (wpAny_tryCatch (W.done _ _ _ st4 fun h5 tk5 hk5 => ?_))
  have hS5 := hk5 _ _ (by simpa using hSI) hS4
  show wpAny _ A.in1 (updateSeq H.objs.size (fun _ => #[]) >>= _) _ _ _
  refine wB ?_
  refine wpAny_updateSeq hS5 rfl (wB (wpAny_letGo (wP ?_)))
  exact hq _ _ fun b o e => upd (lt e).2 (hk5 b o (by simpa using (lt e).1) (k4 b o e))
 cases rb with
 | true =>
  simp only [if_true] at h ⊢
  refine wB ?_
  refine wpAny_updateSeq hS3 rfl (wB (wpAny_letGo ?_))
  rw [hname]
  have hS4 := Heap.get?_update_self (Obj.mapSeq fun _ => (#[u, u] : Array Value)) hS3 rfl
  refine wP ⟨plainId_quiet PySem.F.plain_min_loop _, last _ _ u _ hS4 (W.frame 2 h3 _ st3 fun b hb o e => upd (by
   rcases lC hb with rfl | hb
   ·exact hSI.symm
   ·rw [lS hb]; exact (lt el).2) e) (fun b o e => upd (lt e).2 (k3 b o e)) h⟩
 | false =>
  simp only [Bool.false_eq_true, if_false] at h ⊢
  refine wB (wpAny_letGo ?_)
  rw [hname]
  exact wP ⟨plainId_quiet PySem.F.plain_min_loop _, last _ _ v _ hS3 st3 k3 h⟩
theorem call_max2 {l : Addr} {x y : Value} {rb : Bool} {Q : Value -> Shared -> Prop} (hh : A.handled = none) (hl : s.heap.IsList l #[x, y])
  (hc : ∀ s' Q' E', (∀ b o, s.heap.get? b = some o -> s'.heap.get? b = some o) -> Q' (.bool rb) s' -> wpAny (model prog w) A.in1 (richCompare .Gt y x) Q' E' s')
  (h : ∀ h' tk, (∀ b o, s.heap.get? b = some o -> h'.get? b = some o) -> Q (if rb then y else x) { s with heap := h', toks := tk }) : wpAny (model prog w) A (call (.builtin "max") [.ref l]) Q E s := by
 have hname : (toString "max" ++ toString ".loop" : String) = "max.loop" := by decide
 have hll := id hl
 obtain ⟨ol, el, _⟩ := hll
 have hlI : l ≠ s.heap.objs.size := Nat.ne_of_lt (Heap.lt_size el)
 have W := Walks.list (prog := prog) (w := w) (A := A.in1) hh s.heap.objs.size l hlI #[x, y]
 refine call_function_tree PySem.F.kind_max PySem.F.plain_max PySem.F.entry_max (PySem.F.args_max1 _) ?_
 show wpAny _ A.in1 (Builtin.Builtins.bindParams "max" ["key", "default"] 0 ⟨[], []⟩ >>= _) _ _ s
 refine wB (wpAny_of_eq (show Builtin.Builtins.bindParams "max" ["key", "default"] 0 ⟨[], []⟩ = pure [none, none] from rfl) ?_)
 refine wB (wP ?_)
 refine wB (wpAny_pyIter_list hl ?_)
 refine wB (wpAny_newObj_type ?_)
 rw [hname]
 have z1 : (s.heap.push { cls := .type "list_iterator", data := .fields #[.ref l, .int 0 0] }).objs.size = s.heap.objs.size + 1 := Heap.size_push ..
 generalize hH : (s.heap.push { cls := .type "list_iterator", data := .fields #[.ref l, .int 0 0] }) = H at z1
 have lt : ∀ {b o}, s.heap.get? b = some o -> b ≠ s.heap.objs.size /\ b ≠ H.objs.size := fun e => ⟨Nat.ne_of_lt (Heap.lt_size e), by rw [z1]; exact Nat.ne_of_lt (Nat.lt_succ_of_lt (Heap.lt_size e))⟩
 have hSI : H.objs.size ≠ s.heap.objs.size := by rw [z1]; exact Nat.succ_ne_self _
 have k0 : ∀ b o, s.heap.get? b = some o -> (H.push { cls := .type "list", data := .seq ([] : List Value).toArray }).get? b = some o := fun b o e => Heap.get?_push_of_some _ (hH ▸ Heap.get?_push_of_some _ e)
 have st0 : (H.push { cls := .type "list", data := .seq ([] : List Value).toArray }).IsListIter s.heap.objs.size l 0 := ⟨_, Heap.get?_push_of_some _ (hH ▸ hP _ rfl), rfl, rfl⟩
 have hl0 : (H.push { cls := .type "list", data := .seq ([] : List Value).toArray }).IsList l #[x, y] := by obtain ⟨o, e, a, b⟩ := hl; exact ⟨o, k0 _ _ e, a, b⟩
 have hS0 : (H.push { cls := .type "list", data := .seq ([] : List Value).toArray }).get? H.objs.size = some { cls := .type "list", dict := none, data := .seq #[] 0, slots := #[] } := hP _ rfl
 have upd : ∀ {h1 : Heap} {f : Obj -> Obj} {b : Addr} {o : Obj}, b ≠ H.objs.size -> h1.get? b = some o -> (h1.update H.objs.size f).get? b = some o := fun hb e => (Heap.get?_update_other _ _ (Ne.symm hb)).trans e
 refine wP ⟨plainId_quiet PySem.F.plain_max_loop _, ?_⟩
 refine codeAny_builtin PySem.F.entry_max_loop ?_
 rw [Around.under_plainId PySem.F.plain_max_loop _]
 show wpAny _ A.in1 (seqItems? (.ref H.objs.size) >>= _) _ _ _
 refine wB (wpAny_seqItems hS0 rfl ?_)
 show wpAny _ A.in1 (tryCatch (pyNext (.ref s.heap.objs.size)) _ >>= _) _ _ _
 refine wB (wpAny_tryCatch (W.item 0 _ _ _ (by simp) ⟨st0, hl0⟩ fun v h1 tk1 hP st1 hk1 => ?_))
 have hv : v = x := by simpa using hP.symm
 subst hv
 have hS1 := hk1 _ _ (by simpa using hSI) hS0
 show wpAny _ A.in1 (updateSeq H.objs.size (fun _ => #[v, v]) >>= _) _ _ _
 refine wB ?_
 refine wpAny_updateSeq hS1 rfl ?_
 rw [hname]
 have hS2 := Heap.get?_update_self (Obj.mapSeq fun _ => (#[v, v] : Array Value)) hS1 rfl
 have st2 := W.frame 1 h1 (h1.update H.objs.size (Obj.mapSeq fun _ => (#[v, v] : Array Value))) st1 fun b hb o e => upd (by
  rcases lC hb with rfl | hb
  ·exact hSI.symm
  ·rw [lS hb]; exact (lt el).2) e
 have k2 : ∀ b o, s.heap.get? b = some o -> (h1.update H.objs.size (Obj.mapSeq fun _ => (#[v, v] : Array Value))).get? b = some o := fun b o e => upd (lt e).2 (hk1 b o (by simpa using (lt e).1) (k0 b o e))
 generalize (h1.update H.objs.size (Obj.mapSeq fun _ => (#[v, v] : Array Value))) = h2 at hS2 st2 k2
 refine wP ⟨plainId_quiet PySem.F.plain_max_loop _, ?_⟩
 refine codeAny_builtin PySem.F.entry_max_loop ?_
 rw [Around.under_plainId PySem.F.plain_max_loop _]
 show wpAny _ A.in1 (seqItems? (.ref H.objs.size) >>= _) _ _ _
 refine wB (wpAny_seqItems hS2 rfl ?_)
 show wpAny _ A.in1 (tryCatch (pyNext (.ref s.heap.objs.size)) _ >>= _) _ _ _
 refine wB (wpAny_tryCatch (W.item 1 _ _ _ (by simp) st2 fun u h3 tk3 hP st3 hk3 => ?_))
 have hu : u = y := by simpa using hP.symm
 subst hu
 have hS3 := hk3 _ _ (by simpa using hSI) hS2
 have k3 : ∀ b o, s.heap.get? b = some o -> h3.get? b = some o := fun b o e => hk3 b o (by simpa using (lt e).1) (k2 b o e)
 show wpAny _ A.in1 (tryCatch (holding [u, u] (richCompare .Gt u v >>= _)) _ >>= _) _ _ _
 refine wB (wpAny_tryCatch (wpAny_holding (wB (hc { s with heap := h3, toks := tk3 } _ _ k3 ?_))))
 refine wB (wpAny_holding (wpAny_truthy_bool ?_))
 refine wB (wpAny_letGo (wP ?_))
 have last : ∀ (h4 : Heap) (tk4 : Nat) (z : Value) (n : Nat), h4.get? H.objs.size = some { cls := .type "list", dict := none, data := .seq #[z, z] n, slots := #[] } -> (h4.IsListIter s.heap.objs.size l 2 /\ h4.IsList l #[v, u]) -> (∀ b o, s.heap.get? b = some o -> h4.get? b = some o) -> (∀ h' tk, (∀ b o, s.heap.get? b = some o -> h'.get? b = some o) -> Q z { s with heap := h', toks := tk }) ->
   codeAny (model prog w) A (.builtin "max.loop" ⟨[.ref s.heap.objs.size, .none, .ref H.objs.size], []⟩) (fun r s' => match r with | .ok (.ret v) => Q v s' | .ok _ => False | .error e => E e s') { s with heap := h4, toks := tk4 } := fun h4 tk4 z n hS4 st4 k4 hq => by
  refine codeAny_builtin PySem.F.entry_max_loop ?_
  rw [Around.under_plainId PySem.F.plain_max_loop _]
  show wpAny _ A.in1 (seqItems? (.ref H.objs.size) >>= _) _ _ _
  refine wB (wpAny_seqItems hS4 rfl ?_)
  show wpAny _ A.in1 (tryCatch (pyNext (.ref s.heap.objs.size)) _ >>= _) _ _ _
  refine wB (wpAny_tryCatch (W.done _ _ _ st4 fun h5 tk5 hk5 => ?_))
  have hS5 := hk5 _ _ (by simpa using hSI) hS4
  show wpAny _ A.in1 (updateSeq H.objs.size (fun _ => #[]) >>= _) _ _ _
  refine wB ?_
  refine wpAny_updateSeq hS5 rfl (wB (wpAny_letGo (wP ?_)))
  exact hq _ _ fun b o e => upd (lt e).2 (hk5 b o (by simpa using (lt e).1) (k4 b o e))
 cases rb with
 | true =>
  simp only [if_true] at h ⊢
  refine wB ?_
  refine wpAny_updateSeq hS3 rfl (wB (wpAny_letGo ?_))
  rw [hname]
  have hS4 := Heap.get?_update_self (Obj.mapSeq fun _ => (#[u, u] : Array Value)) hS3 rfl
  refine wP ⟨plainId_quiet PySem.F.plain_max_loop _, last _ _ u _ hS4 (W.frame 2 h3 _ st3 fun b hb o e => upd (by
   rcases lC hb with rfl | hb
   ·exact hSI.symm
   ·rw [lS hb]; exact (lt el).2) e) (fun b o e => upd (lt e).2 (k3 b o e)) h⟩
 | false =>
  simp only [Bool.false_eq_true, if_false] at h ⊢
  refine wB (wpAny_letGo ?_)
  rw [hname]
  exact wP ⟨plainId_quiet PySem.F.plain_max_loop _, last _ _ v _ hS3 st3 k3 h⟩
end
section
variable {c : Cfg} {l : Nat}
noncomputable abbrev sL (xs : List Str) : PyData := .list (xs.map .str)
theorem CallOk.min2 {xs ys : List Str} : CallOk c l (.builtin "min") [.list [sL xs, sL ys]] (sL (if ltL ys xs then ys else xs)) := fun A X s vs L B r => by
 have hz := r.one_inv; clear r; obtain ⟨_, r⟩ := hz
 have hz := r.list_inv; clear r; obtain ⟨a, vs, n, ha, e, q⟩ := hz
 have hz := q.two_inv; clear q; obtain ⟨_, _, r1, r2⟩ := hz
 have k1 := r1
 have k2 := r2
 have hz := r1.list_inv; clear r1; obtain ⟨a1, v1, n1, h1, e1, q1⟩ := hz
 have hz := r2.list_inv; clear r2; obtain ⟨a2, v2, n2, h2, e2, q2⟩ := hz
 obtain ⟨us, hu⟩ := strs_of q1
 obtain ⟨ws, hw⟩ := strs_of q2
 refine call_min2 (rb := ltL ys xs) B.handled ⟨_, e, rfl, _, rfl⟩ (fun s' Q' E' hk hq => ?_) fun h' tk hk => ?_
 ·refine rich_lt ?_ (hk _ _ e2) (hk _ _ e1) (by rw [hu, hw]; exact hq)
  have := L.units
  show A.units + 1 < _
  rw [cl_is]; omega
 ·have q3 : HX c [] s.heap h' := .keep0 hk
  refine ⟨⟨h', tk, q3⟩, ?_⟩
  cases ltL ys xs with
  | true => exact k2.hx0 q3 B.frs
  | false => exact k1.hx0 q3 B.frs
theorem CallOk.max2 {xs ys : List Str} : CallOk c l (.builtin "max") [.list [sL xs, sL ys]] (sL (if gtL ys xs then ys else xs)) := fun A X s vs L B r => by
 have hz := r.one_inv; clear r; obtain ⟨_, r⟩ := hz
 have hz := r.list_inv; clear r; obtain ⟨a, vs, n, ha, e, q⟩ := hz
 have hz := q.two_inv; clear q; obtain ⟨_, _, r1, r2⟩ := hz
 have k1 := r1
 have k2 := r2
 have hz := r1.list_inv; clear r1; obtain ⟨a1, v1, n1, h1, e1, q1⟩ := hz
 have hz := r2.list_inv; clear r2; obtain ⟨a2, v2, n2, h2, e2, q2⟩ := hz
 obtain ⟨us, hu⟩ := strs_of q1
 obtain ⟨ws, hw⟩ := strs_of q2
 refine call_max2 (rb := gtL ys xs) B.handled ⟨_, e, rfl, _, rfl⟩ (fun s' Q' E' hk hq => ?_) fun h' tk hk => ?_
 ·refine rich_gt ?_ (hk _ _ e2) (hk _ _ e1) (by rw [hu, hw]; exact hq)
  have := L.units
  show A.units + 1 < _
  rw [cl_is]; omega
 ·have q3 : HX c [] s.heap h' := .keep0 hk
  refine ⟨⟨h', tk, q3⟩, ?_⟩
  cases gtL ys xs with
  | true => exact k2.hx0 q3 B.frs
  | false => exact k1.hx0 q3 B.frs
end
end
section
section
variable {c : Cfg} {l : Nat} {X : List Addr} {env : Env} {Γ : Gam}
theorem Tru.tuple {ds : List PyData} (hz : ds.length <= 2 ^ 30) : Tru c (.tuple ds) (!ds.isEmpty) := fun l A X s v L B r => by
 have hz := r.tuple_inv; clear r; obtain ⟨_, _, _, ha, e, q⟩ := hz
 refine PyProof.Rows.truthy_tuple ⟨_, e, rfl, _, rfl⟩ (by rw [List.size_toArray, q.length]; omega) ⟨?_, .tk⟩
 rw [List.isEmpty_toArray]
 rw [q.isEmpty]
theorem P2.itemT {value slice : Expr} {i : Int} {ds : List PyData} {d : PyData} (h0 : 0 <= i) (h1 : i < 2 ^ 63) (hx : ds[i.toNat]? = some d) (hs : ∀ o i, subscripted slice false o i = operate [o, i] (getItem o i) := by intro _ _; with_unfolding_all rfl) :
  P2 c (subscriptTail value slice) (.tuple ds) (.int i) d := fun l A X s v1 v2 L B r1 r2 => by
 have hz := r2.int_inv; clear r2; obtain ⟨t⟩ := hz
 have hz := r1.tuple_inv; clear r1; obtain ⟨x, vs, n, ha, e, q⟩ := hz
 obtain ⟨v, hv, r⟩ := q.get _ hx
 have hlt : i.toNat < vs.toArray.size := by
  have := (List.getElem?_eq_some_iff.mp hv).1
  simpa using this
 refine tail_any (T := "tuple") ⟨_, e, rfl⟩ PySem.F.slot_tuple_getitem.lookup (PyProof.Rows.getItem_tuple (j := i.toNat) (x := v) ⟨_, e, rfl, _, rfl⟩ (by omega) h1 ?_ (by simpa using hv) ⟨.refl, r⟩) (hs _ _)
 unfold seqIndex?
 have hj : (if i < 0 then i + (vs.toArray.size : Int) else i) = i := if_neg (by omega)
 simp only [hj]
 rw [if_pos (by simp only [Bool.and_eq_true, decide_eq_true_eq]; omega)]
theorem Ev.itemT {value slice : Expr} {pos : Pos} {i : Int} {ds : List PyData} {d : PyData} (h1 : Ev c l X env Γ value (.tuple ds)) (h2 : Ev c l X env Γ slice (.int i)) (h0 : 0 <= i) (hi : i < 2 ^ 63) (hx : ds[i.toNat]? = some d) (hs : ∀ o i, subscripted slice false o i = operate [o, i] (getItem o i) := by intro _ _; with_unfolding_all rfl) : Ev c l X env Γ (.Subscript value slice pos) d :=
 Ev.sub h1 h2 (P2.itemT h0 hi hx hs)
theorem P2.neS {a b : Str} : P2 c (compareOp .NotEq) (.str a) (.str b) (.bool (decide (a ≠ b))) := .of_str fun l A X s ta tb _ _ => by
 refine PyProof.Rows.ne_str ⟨.refl, ?_⟩
 have e : (a != b) = decide (a ≠ b) := by by_cases h : a = b <;> simp [h]
 first
  | exact .bool _
  | (rw [e]; exact .bool _)
theorem P2.eqS {a b : Str} : P2 c (compareOp .Eq) (.str a) (.str b) (.bool (decide (a = b))) := .of_str fun l A X s ta tb _ _ => by
 refine PyProof.Rows.eq_str ⟨.refl, ?_⟩
 have e : (a == b) = decide (a = b) := by by_cases h : a = b <;> simp [h]
 first
  | exact .bool _
  | (rw [e]; exact .bool _)
theorem inj_sL : ∀ a b : List Str, sL a = sL b -> a = b := inj_list inj_str
end
section
variable {K : Act} {A : Around} {s0 : Shared} {E : Err} {Γ Γ1 : Gam} {R : Ros} {Δ : Del K} {ss : List Stmt} {O : Out K -> Prop}
theorem Ex.setC {x : Str} {px pos : Pos} {e : Expr} {d : PyData} (hX : X0ok K s0) (h : ∀ X, EvC K.c K.l X K.env Γ e d) (k : Ex K A s0 E ((x, d) :: Γ1) R Δ ss O) (hx : autoParam (decide (x ∈ K.xs) = true) aK) (hΓ : autoParam (Γ.filter (fun p => p.1 != x) = Γ1) aK) (hR : autoParam (offB [x] (R.map (·.1)) = true) aK) (hs : autoParam (swapsWith e (some (.Name x px)) pos.line K.env = pure true) aR) :
  Ex K A s0 E Γ R Δ (.Assign [.Name x px] e pos :: ss) O := by
 have e2 : R.filter (fun p => p.1 != x) = R := List.filter_eq_self.mpr fun p hp => by
  have := List.all_eq_true.mp hR p.1 (lM (f := (·.1)) hp)
  simpa using this
 refine Ex.assignC h (of_decide_eq_true hx) hX (fun D => ?_) hs
 rw [hΓ, e2]
 exact Ex.freeze hX k
end
end
section
noncomputable def recOf : Option Stmt -> DefRec
 | some (.FunctionDef name args body _ _ _ scope _ _ pos) => ⟨name, args, body, scope, pos⟩
 | _ => { name := "", params := { posonlyargs := [], args := [], vararg := none, kwonlyargs := [], kw_defaults := [], kwarg := none, defaults := [] }, body := [], scope := { kind := .function, names := [], isGenerator := false, isCoroutine := false }, pos := ⟨0, 0, 0, 0⟩ }
noncomputable abbrev pg1 : Program := PySem.Challenge.pw_il0092_01
noncomputable def dr1 (i : Nat) : DefRec := recOf (pg1.main.body[i]?)
noncomputable def clsBody : Option Stmt -> List Stmt
 | some (.ClassDef _ _ _ body ..) => body
 | _ => []
noncomputable def dm1 (i j : Nat) : DefRec := recOf ((clsBody (pg1.main.body[i]?))[j]?)
noncomputable def mfd (d : DefRec) (q : Str) (dv pm code doc : Value) : FuncData :=
 {name := d.name, qualname := q, params := d.params, body := .stmts d.body, scope := d.scope, globals := mainGlobals, closure := [], defaults := dv, kwdefaults := .none, doc, pyModule := pm, code, builtins := builtinsNs }
noncomputable def kvE (P : Params) (n : Str) (t : Nat) (v : Value) : DictEntry := { hash := PyData.keyHash P n, key := .str n t, val := v }
noncomputable def K1 (P : Params) : Frag := [
  (1, { cls := .type "dict", data := .dict #[kvE P "builtins" 162 (.ref 4), kvE P "__main__" 163 (.ref 5)] 2 }),
  (3, { cls := .type "dict", data := .dict #[kvE P "__name__" 165 (.str "law_il0092_01" 537), kvE P "__doc__" 166 (.none), kvE P "__package__" 167 (.none), kvE P "__loader__" 168 (.builtin "__main__.__loader__#opaque"), kvE P "__spec__" 169 (.none), kvE P "__annotations__" 170 (.ref 6), kvE P "__builtins__" 171 (.ref 4), kvE P "__file__" 173 (.str "/claim/cut.py" 172), kvE P "__cached__" 174 (.none), kvE P "_wall" 193 (.ref 21), kvE P "_deduplicate_unhashable" 204 (.ref 28), kvE P "_compare_args_orderless" 216 (.ref 35), kvE P "_NODE_OUT" 221 (.int (-1) 220), kvE P "_NODE_DONE" 224 (.int (-2) 223), kvE P "_NodeInfo" 261 (.ref 54), kvE P "CycleError" 279 (.ref 69), kvE P "TopologicalSorter" 398 (.ref 151), kvE P "_plain_name" 409 (.ref 162), kvE P "ABCMeta" 435 (.ref 179), kvE P "_ABCLike" 478 (.ref 212), kvE P "_abc_plain_meta" 485 (.ref 221), kvE P "fspath" 497 (.ref 228), kvE P "_check_arg_types" 510 (.ref 235), kvE P "_get_sep" 519 (.ref 242), kvE P "join" 530 (.ref 249), kvE P "commonpath" 536 (.ref 254), kvE P "_law_side" 544 (.ref 259), kvE P "_law_waits" 550 (.ref 264), kvE P "_law_order" 562 (.ref 271), kvE P "_law_deep" 569 (.ref 278), kvE P "_law_steps" 577 (.ref 285), kvE P "_law_parted" 583 (.ref 290), kvE P "_law_kinds" 589 (.ref 295), kvE P "law" 595 (.ref 300)] 34 }),
  (49, { cls := .type "code", data := .fields #[.str "__init__" 241, .str "_NodeInfo.__init__" 242, .str "/claim/cut.py" 243, .int 27 0, .int 2 0, .int 0 0, .int 0 0, .int 3 0, .ref 44, .bool true, .int 181 0, .ref 45, .none, .ref 46, .ref 47, .ref 48, .int 246 0, .int 27 0, .str "/claim/cut.py" 247] }),
  (50, { cls := .type "function", data := .func (mfd (dm1 7 1) "_NodeInfo.__init__" (.none) (.str "cpy313.graphlib" 217) (.ref 49) (.none)) }),
  (53, { cls := .type "dict", data := .dict #[kvE P "__module__" 232 (.str "cpy313.graphlib" 217), kvE P "__firstlineno__" 236 (.int 24 235), kvE P "__slots__" 240 (.ref 43), kvE P "__init__" 248 (.ref 50), kvE P "__static_attributes__" 252 (.ref 51), kvE P "node" 254 (.ref 55), kvE P "npredecessors" 256 (.ref 56), kvE P "successors" 258 (.ref 57), kvE P "__doc__" 259 (.none)] 5 }),
  (54, { cls := .type "type", data := .cls { name := "_NodeInfo", bases := [.type "object"], mro := [.ref 54, .type "object"], ns := 53, qualname := "_NodeInfo", hasDict := false, slotNames := ["node", "npredecessors", "successors"] }, slots := #[none, none, some (.str "_NodeInfo" 225), some (.str "_NodeInfo" 233), some (.builtin "object.__new__"), some (.bool false)] }),
  (55, { cls := .type "member_descriptor", data := .fields #[.str "node" 253, .ref 54, .builtin "proto.slot", .builtin "proto.slot#set", .int 2 0] }),
  (56, { cls := .type "member_descriptor", data := .fields #[.str "npredecessors" 255, .ref 54, .builtin "proto.slot", .builtin "proto.slot#set", .int 1 0] }),
  (57, { cls := .type "member_descriptor", data := .fields #[.str "successors" 257, .ref 54, .builtin "proto.slot", .builtin "proto.slot#set", .int 0 0] }),
  (80, { cls := .type "tuple", data := .seq #[.none] }),
  (86, { cls := .type "code", data := .fields #[.str "__init__" 292, .str "TopologicalSorter.__init__" 293, .str "/claim/cut.py" 294, .int 35 0, .int 2 0, .int 0 0, .int 0 0, .int 3 0, .ref 81, .bool true, .int 181 0, .ref 82, .none, .ref 83, .ref 84, .ref 85, .int 299 0, .int 35 0, .str "/claim/cut.py" 300] }),
  (87, { cls := .type "function", data := .func (mfd (dm1 9 0) "TopologicalSorter.__init__" (.ref 80) (.str "cpy313.graphlib" 217) (.ref 86) (.none)) }),
  (93, { cls := .type "code", data := .fields #[.str "_get_nodeinfo" 302, .str "TopologicalSorter._get_nodeinfo" 303, .str "/claim/cut.py" 304, .int 44 0, .int 2 0, .int 0 0, .int 0 0, .int 3 0, .ref 88, .bool true, .int 181 0, .ref 89, .none, .ref 90, .ref 91, .ref 92, .int 308 0, .int 44 0, .str "/claim/cut.py" 309] }),
  (94, { cls := .type "function", data := .func (mfd (dm1 9 1) "TopologicalSorter._get_nodeinfo" (.none) (.str "cpy313.graphlib" 217) (.ref 93) (.none)) }),
  (100, { cls := .type "code", data := .fields #[.str "add" 311, .str "TopologicalSorter.add" 312, .str "/claim/cut.py" 313, .int 49 0, .int 2 0, .int 0 0, .int 0 0, .int 7 0, .ref 95, .bool true, .int 181 0, .ref 96, .none, .ref 97, .ref 98, .ref 99, .int 320 0, .int 49 0, .str "/claim/cut.py" 321] }),
  (101, { cls := .type "function", data := .func (mfd (dm1 9 2) "TopologicalSorter.add" (.none) (.str "cpy313.graphlib" 217) (.ref 100) (.none)) }),
  (105, { cls := .type "code", data := .fields #[.str "prepare" 323, .str "TopologicalSorter.prepare" 324, .str "/claim/cut.py" 325, .int 58 0, .int 1 0, .int 0 0, .int 0 0, .int 3 0, .ref 102, .bool true, .int 181 0, .ref 103, .none, .none, .none, .ref 104, .int 326 0, .int 58 0, .str "/claim/cut.py" 327] }),
  (106, { cls := .type "function", data := .func (mfd (dm1 9 3) "TopologicalSorter.prepare" (.none) (.str "cpy313.graphlib" 217) (.ref 105) (.none)) }),
  (112, { cls := .type "code", data := .fields #[.str "get_ready" 329, .str "TopologicalSorter.get_ready" 330, .str "/claim/cut.py" 331, .int 66 0, .int 1 0, .int 0 0, .int 0 0, .int 3 0, .ref 107, .bool true, .int 181 0, .ref 108, .none, .ref 109, .ref 110, .ref 111, .int 336 0, .int 66 0, .str "/claim/cut.py" 337] }),
  (113, { cls := .type "function", data := .func (mfd (dm1 9 4) "TopologicalSorter.get_ready" (.none) (.str "cpy313.graphlib" 217) (.ref 112) (.none)) }),
  (119, { cls := .type "code", data := .fields #[.str "is_active" 339, .str "TopologicalSorter.is_active" 340, .str "/claim/cut.py" 341, .int 77 0, .int 1 0, .int 0 0, .int 0 0, .int 3 0, .ref 114, .bool true, .int 181 0, .ref 115, .none, .ref 116, .ref 117, .ref 118, .int 343 0, .int 77 0, .str "/claim/cut.py" 344] }),
  (120, { cls := .type "function", data := .func (mfd (dm1 9 5) "TopologicalSorter.is_active" (.none) (.str "cpy313.graphlib" 217) (.ref 119) (.none)) }),
  (133, { cls := .type "code", data := .fields #[.str "done" 353, .str "TopologicalSorter.done" 354, .str "/claim/cut.py" 355, .int 85 0, .int 1 0, .int 0 0, .int 0 0, .int 7 0, .ref 128, .bool true, .int 181 0, .ref 129, .none, .ref 130, .ref 131, .ref 132, .int 364 0, .int 85 0, .str "/claim/cut.py" 365] }),
  (134, { cls := .type "function", data := .func (mfd (dm1 9 7) "TopologicalSorter.done" (.none) (.str "cpy313.graphlib" 217) (.ref 133) (.none)) }),
  (140, { cls := .type "code", data := .fields #[.str "_find_cycle" 367, .str "TopologicalSorter._find_cycle" 368, .str "/claim/cut.py" 369, .int 108 0, .int 1 0, .int 0 0, .int 0 0, .int 3 0, .ref 135, .bool true, .int 181 0, .ref 136, .none, .ref 137, .ref 138, .ref 139, .int 377 0, .int 108 0, .str "/claim/cut.py" 378] }),
  (141, { cls := .type "function", data := .func (mfd (dm1 9 8) "TopologicalSorter._find_cycle" (.none) (.str "cpy313.graphlib" 217) (.ref 140) (.none)) }),
  (150, { cls := .type "dict", data := .dict #[kvE P "__module__" 287 (.str "cpy313.graphlib" 217), kvE P "__firstlineno__" 291 (.int 33 290), kvE P "__init__" 301 (.ref 87), kvE P "_get_nodeinfo" 310 (.ref 94), kvE P "add" 322 (.ref 101), kvE P "prepare" 328 (.ref 106), kvE P "get_ready" 338 (.ref 113), kvE P "is_active" 345 (.ref 120), kvE P "__bool__" 352 (.ref 127), kvE P "done" 366 (.ref 134), kvE P "_find_cycle" 379 (.ref 141), kvE P "static_order" 386 (.ref 148), kvE P "__static_attributes__" 391 (.ref 149), kvE P "__dict__" 393 (.ref 152), kvE P "__weakref__" 395 (.ref 153), kvE P "__doc__" 396 (.none)] 4 }),
  (151, { cls := .type "type", data := .cls { name := "TopologicalSorter", bases := [.type "object"], mro := [.ref 151, .type "object"], ns := 150, qualname := "TopologicalSorter" }, slots := #[none, none, some (.str "TopologicalSorter" 280), some (.str "TopologicalSorter" 288), some (.builtin "object.__new__"), some (.bool true)] })]
noncomputable def qv1 : Program := view pg1 [0, 2, 3, 5, 6, 7, 8, 9, 11, 13, 15, 16, 18, 20, 22, 23, 24, 26, 27, 28, 29, 30, 31, 32, 33]
noncomputable abbrev lo1 : List Str := ["_NodeInfo"]
noncomputable def as1 : List Addr := [1, 3, 49, 50, 53, 54, 55, 56, 57, 80, 86, 87, 93, 94, 100, 101, 105, 106, 112, 113, 119, 120, 133, 134, 140, 141, 150, 151]
noncomputable def hk1 : Hook := kHook K1 as1 fun P => rfl
theorem left1 : LeftO pg1 qv1 lo1 (fun _ => true) hk1.obs hk1.val 4392 := by
 intro w
 kernel_rfl
theorem head1 (call : WalkO qv1 lo1 (fun _ _ => True) hk1.says PySem.Challenge.rw_il0092_01.row.toRowW (dr1 33) [] fun f vs => PySem.call f vs) : PySem.Challenge.rw_il0092_01.Holds :=
 holds_law (by kernel_rfl) fun said =>
  holds_open (q := qv1) (loose := lo1) (Xt := fun _ => true) (XP := fun _ _ => True) (Yf := hk1.obs) (Ya := hk1.val) (YP := hk1.says) (d := dr1 33) (kwd := []) (N := 4392)
   left1 hk1.of hk1.keeps (fun _ _ => trivial) (fun _ _ _ _ _ => trivial) (by kernel_rfl) (by kernel_rfl) (by kernel_rfl) (fun _ _ => recFacts_nil rfl) (by kernel_rfl) said (by kernel_rfl)
   ⟨rfl, rfl, rfl, rfl, rfl, by decide +kernel⟩ ⟨[.list []], by decide +kernel, by decide +kernel⟩ call
end
section
theorem mem_at {α : Type} {l : List α} {i : Nat} {a : α} (h : l[i]? = some a) : a ∈ l := lG h
variable {c : Cfg} {l : Nat} {loose : List Str} {mg mb : Str -> Option Value}
noncomputable abbrev Wd1 (c : Cfg) (mg mb : Str -> Option Value) : Prop := Wd c qv1 (looseW qv1 lo1) mg mb
noncomputable def kinds (one other : List Int) : List Int := (List.range 5).map fun (i : Nat) => (if decide ((i : Int) ∈ one) = true then 2 else 0) + (if decide ((i : Int) ∈ other) = true then 1 else 0)
theorem g_range (W : Wd1 c mg mb) : Glb c "range" (.type "range") := W.blt (by kernel_rfl) (by kernel_rfl)
theorem c_kinds (W : Wd1 c mg mb) (hl : l < 60) (one other : List Int) : Fn c l "_law_kinds" [iL one, iL other] (iL (kinds one other)) := by
 refine W.call (dr1 32) (mem_at (i := 16) (by kernel_rfl)) ["one", "other"] (by decide +kernel) rfl hl (fun pm code doc => bind2 fun a b => by rfl) fun A s0 a L X pm code doc hX hA => ?_
 refine Ex.ret (.of fun X' => ((EvC.nm (Γc := [("one", iL one), ("other", iL other)]) (fun (i : Nat) => .int ((if decide ((i : Int) ∈ one) = true then 2 else 0) + (if decide ((i : Int) ∈ other) = true then 1 else 0))) inj_nat (EvI.range (n := 5) (g_range (W.push _)) .int (by decide)) (.cons m0 (.cons m1 .nil)) (fun cs C XL i _ => ?_) (by simp)).ev).as ?_) (.inl rfl)
 ·exact .binop (.iteI (.cmp (.n m0) (.n m1) .inI) .int .int) (.iteI (.cmp (.n m0) (.n m2) .inI) .int .int) .add
 ·simp [kinds, iL]
theorem g_len (W : Wd1 c mg mb) : Glb c "len" (.builtin "len") := W.blt (by kernel_rfl) (by kernel_rfl)
noncomputable def side (row : List Int) (root : Int) : List Int := if decide (root ∈ row) = true then ((List.range 5).filter fun (i : Nat) => !decide ((i : Int) ∈ row)).map (fun (i : Nat) => (i : Int)) else row
theorem c_side (W : Wd1 c mg mb) (hl : l < 60) (row : List Int) (root : Int) : Fn c l "_law_side" [iL row, .int root] (iL (side row root)) := by
 refine W.call (dr1 26) (mem_at (i := 10) (by kernel_rfl)) ["row", "root"] (by decide +kernel) rfl hl (fun pm code doc => bind2 fun a b => by rfl) fun A s0 a L X pm code doc hX hA => ?_
 refine Ex.ret (.of fun X' => (Ev.ite (b := decide (root ∈ row)) (.cmp (.n m1) (.n m0) .inI) (fun _ => (EvC.nmIf (Γc := [("row", iL row)]) (fun (i : Nat) => !decide ((i : Int) ∈ row)) (fun (i : Nat) => .int (i : Nat)) inj_nat (EvI.range (n := 5) (g_range (W.push _)) .int (by decide)) (.cons m0 .nil) (fun cs C XL i _ => .cmp (.n m0) (.n m1) .notInI) (fun cs C XL i _ _ => .n m0) (by simp)).ev) fun _ => .n m0).as ?_) (.inl rfl)
 unfold side iL
 split <;> simp
noncomputable abbrev rL (rows : List (List Int)) : PyData := .list (rows.map iL)
theorem inj_iL : ∀ a b : List Int, iL a = iL b -> a = b := inj_list inj_int
noncomputable def parted (rows : List (List Int)) (one other : Int) : Int := (rows.filter fun row => decide (one ∈ row) != decide (other ∈ row)).length
theorem c_parted (W : Wd1 c mg mb) (hl : l < 60) (rows : List (List Int)) (one other : Int) (hz : rows.length <= 1000) : Fn c l "_law_parted" [rL rows, .int one, .int other] (.int (parted rows one other)) := by
 refine W.call (dr1 31) (mem_at (i := 15) (by kernel_rfl)) ["rows", "one", "other"] (by decide +kernel) rfl hl (fun pm code doc => bind3 fun a b c => by rfl) fun A s0 a L X pm code doc hX hA => ?_
 refine Ex.ret (.of fun X' => (Ev.callF (.of (g_len (W.push _)) (.lenL ?_)) (.cons (EvC.nmIf (Γc := [("one", .int one), ("other", .int other)]) (fun row => decide (one ∈ row) != decide (other ∈ row)) (fun row => iL row) inj_iL (.ofList (.n m0)) (.cons m1 (.cons m2 .nil))
  (fun cs C XL row _ => .cmp (.cmp (.n m1) (.n m0) .inI) (.cmp (.n m2) (.n m0) .inI) .neB) (fun cs C XL row _ _ => .n m0) (by omega)).ev .nil)).as ?_) (.inl rfl)
 ·rw [List.length_map]
  exact Nat.le_trans (List.length_filter_le ..) (by omega)
 ·simp [parted]
theorem c_dedup (W : Wd1 c mg mb) (hl : l < 60) {ds : List PyData} (h : Flatish ds) : Fn c l "_deduplicate_unhashable" [.list ds] (.list (dedup ds)) := by
 refine W.call (dr1 2) (mem_at (i := 1) (by kernel_rfl)) ["unhashable_params"] (by decide +kernel) rfl hl (fun pm code doc => bind1 fun a => by rfl) fun A s0 a L X pm code doc hX hA => ?_
 refine Ex.own (fun X => .nil) fun D => ?_
 refine Ex.seq (Ex1.forN (fun i Γ R Δ => Γ = ([("unhashable_params", .list ds)] : Gam) /\ R = ([("new_unhashable", D)] : Ros) /\ Δ = [resO _ D (.list (dedup (ds.take i)))])
  (nextO [("unhashable_params", .list ds)] [("new_unhashable", D)] [resO _ D (.list (dedup ds))]) (.of fun X => .ofList (.n m0)) ⟨rfl, rfl, rfl⟩ (fun p h => h) (fun p h => h) (List.Sublist.refl _) hX ?_ ?_ ?_) (Ex.freeze hX (.ret (.of fun X => .n m0) (.inl rfl)))
 ·rintro i _ _ _ ⟨rfl, rfl, rfl⟩
  exact ⟨off_of (by kernel_rfl), offR_of (by kernel_rfl)⟩
 ·rintro i d _ _ _ r hd ⟨rfl, rfl, rfl⟩
  have hdm : d ∈ ds := lG hd
  have hc : PyData.canLayAll0 (dedup (ds.take i)) = true := canAll_of fun x hx => h.can x (List.mem_of_mem_take (dedup_le _ x hx))
  have hz : (dedup (ds.take i)).length <= 10 ^ 6 := by
   have h1 := dedup_len (ds.take i)
   have h2 : (ds.take i).length <= ds.length := List.length_take_le' ..
   have h3 := h.len
   omega
  have e : dedup (ds.take (i + 1)) = if (dedup (ds.take i)).any (fun y => PyData.eqv y d) then dedup (ds.take i) else dedup (ds.take i) ++ [d] := by
   rw [List.take_add_one, hd, Option.toList_some, dedup_snoc]
  refine Ex.seq (Γ1 := [("t", d), ("unhashable_params", .list ds)]) (R1 := [("new_unhashable", D)]) (Δ1 := [r, resO _ D (.list (dedup (ds.take (i + 1))))]) ?_ (.weak (fun p hp => .tail _ hp) (fun p h => h) (List.Sublist.refl _) (.nil (.inl ⟨_, _, _, .inl rfl, rfl, rfl, rfl⟩)))
  refine Ex1.ite (EtS.view (x := "new_unhashable") m0 m1 fun X => .cmp (.n m1) (.n m0) (.notInL (h.can d hdm) hc (h.dep d hdm))) (fun hb => ?_) fun hb => ?_
  ·rw [e, if_neg (by simpa using hb)]
   exact Ex.perm (List.Perm.swap ..) (Ex.seq (Ex1.append m0 (.of fun X => .n m0) hz) (Ex.perm (List.Perm.swap ..) (.nil rfl)))
  ·rw [e, if_pos (by simpa using hb)]
   exact .nil rfl
 ·rintro _ _ _ ⟨rfl, rfl, rfl⟩
  rw [List.take_length]
noncomputable def remAll : List PyData -> List PyData -> Option (List PyData)
 | t, [] => some t
 | t, e :: es => if (t.any fun y => PyData.eqv y e) = true then remAll (remD e t) es else none
noncomputable def cmpO (a b : List PyData) : Bool := match remAll (dedup b) (dedup a) with
 | some t => t.isEmpty
 | none => false
theorem remAll_app (es es' : List PyData) : ∀ t, remAll t (es ++ es') = (remAll t es).bind fun t' => remAll t' es' := by
 induction es with
 | nil => intro t; rfl
 | cons e es ih =>
  intro t
  rw [List.cons_append, remAll, remAll]
  split
  ·exact ih _
  ·rfl
theorem g_list (W : Wd1 c mg mb) : Glb c "list" (.type "list") := W.blt (by kernel_rfl) (by kernel_rfl)
theorem g_ValueError (W : Wd1 c mg mb) : Glb c "ValueError" (.type "ValueError") := W.blt (by kernel_rfl) (by kernel_rfl)
theorem remD_sub (d : PyData) : ∀ (ds : List PyData), ∀ y ∈ remD d ds, y ∈ ds
 | [], y, h => h
 | x :: xs, y, h => by
  unfold remD at h
  split at h
  ·exact .tail _ h
  ·rcases lC h with rfl | h
   ·exact .head _
   ·exact .tail _ (remD_sub d xs y h)
theorem remD_len (d : PyData) : ∀ (ds : List PyData), (remD d ds).length <= ds.length
 | [] => Nat.le_refl _
 | x :: xs => by
  unfold remD
  split
  ·simp
  ·simpa using remD_len d xs
noncomputable def cmpG (a b : List PyData) : Gam := [("second_unhashable", .list (dedup b)), ("first_unhashable", .list (dedup a)), ("first_args", .list a), ("second_args", .list b)]
inductive CmpO (K : Act) (D : Addr) (a b : List PyData) : Out K -> Prop
 | nx (t : List PyData) (h : remAll (dedup b) (dedup a) = some t) (hz : t.length <= 10 ^ 5) : CmpO K D a b (.next (cmpG a b) [("t", D)] [resO K.c D (.list t)])
 | rt (h : cmpO a b = false) : CmpO K D a b (.ret (.bool false))
inductive CmpI (K : Act) (D : Addr) (a b : List PyData) (i : Nat) : Gam -> Ros -> Del K -> Prop
 | mk (t : List PyData) (h : remAll (dedup b) ((dedup a).take i) = some t) (hz : t.length <= 10 ^ 5) (hc : ∀ y ∈ t, y.canLay0 = true) : CmpI K D a b i (cmpG a b) [("t", D)] [resO K.c D (.list t)]
theorem c_cmp (W : Wd1 c mg mb) (hl : l < 59) {a b : List PyData} (ha : Flatish a) (hb : Flatish b) : Fn c l "_compare_args_orderless" [.list a, .list b] (.bool (cmpO a b)) := by
 have hfa : ∀ d ∈ dedup a, d.canLay0 = true /\ d.depth <= 1000 := fun d hd => ⟨ha.can d (dedup_le _ d hd), ha.dep d (dedup_le _ d hd)⟩
 have hlb : (dedup b).length <= 10 ^ 5 := Nat.le_trans (dedup_len _) hb.len
 refine W.call (dr1 3) (mem_at (i := 2) (by kernel_rfl)) ["first_args", "second_args"] (by decide +kernel) rfl (by omega) (fun pm code doc => bind2 fun a b => by rfl) fun A s0 ad L X pm code doc hX hA => ?_
 refine Ex.new (.of fun X => .callF (c_dedup (W.push _) (by show l + 1 < 60; omega) ha) (.cons (.n m0) .nil)) ?_
 refine Ex.new (.of fun X => .callF (c_dedup (W.push _) (by show l + 1 < 60; omega) hb) (.cons (.n m2) .nil)) ?_
 refine Ex.own (fun X => .listOf (g_list (W.push _)) (.n m0) (by omega)) fun D => ?_
 refine Ex.cons (CmpO _ D a b) (Ex1.try (T := "ValueError") (cls := "ValueError") (P := fun _ _ _ => cmpO a b = false) (g_ValueError (W.push _)) (by kernel_rfl) (by kernel_rfl) (by kernel_rfl) (by kernel_rfl) ?_ ?_) (fun _ _ _ h => ?_) (fun _ _ _ h => nomatch h) (fun _ _ _ h => nomatch h) (fun _ h => ?_)
 ·refine Ex.cons _ (Ex1.forN (fun i Γ R Δ => CmpI _ D a b i Γ R Δ) (CmpO _ D a b) (.of fun X => .ofList (.n m1))
   (.mk (dedup b) rfl hlb fun d hd => hb.can d (dedup_le _ d hd)) (fun p h => h) (fun p h => h) (List.Sublist.refl _) hX ?_ ?_ ?_ (hE := Flies.passes)) (fun _ _ _ h => .nil h) (fun _ _ _ h => nomatch h) (fun _ _ _ h => nomatch h) (fun _ h => h)
  ·rintro i _ _ _ ⟨_, _, _, _⟩
   exact ⟨off_of (by kernel_rfl), offR_of (by kernel_rfl)⟩
  ·rintro i d _ _ _ r hd ⟨t, ht, hz, hc⟩
   have hdm : d ∈ dedup a := lG hd
   have e1 : remAll (dedup b) ((dedup a).take (i + 1)) = if (t.any fun y => PyData.eqv y d) = true then some (remD d t) else none := by
    rw [List.take_add_one, hd, Option.toList_some, remAll_app, ht]
    rfl
   refine Ex.perm (List.Perm.swap ..) ?_
   cases hany : t.any fun y => PyData.eqv y d with
   | true =>
    rw [hany, if_pos rfl] at e1
    exact Ex.seq (Ex1.removeOk m0 (.of fun X => .n m0) (by omega) hc (hfa d hdm).1 (hfa d hdm).2 hany) (Ex.perm (List.Perm.swap ..) (.weak (Γ' := cmpG a b) (fun p hp => .tail _ hp) (fun p h => h) (List.Sublist.refl _) (.nil (.inl ⟨_, _, _, .inl rfl, .mk _ e1 (Nat.le_trans (remD_len _ _) hz) fun y hy => hc y (remD_sub _ _ y hy)⟩))))
   | false =>
    rw [hany] at e1
    refine Ex.cons (fun _ => False) (Ex1.removeNo m0 (fun E => .of fun X => .n m0) hc (hfa d hdm).1 (hfa d hdm).2 hany ?_ (hst := hA)) (fun _ _ _ h => h.elim) (fun _ _ _ h => h.elim) (fun _ _ _ h => h.elim) (fun _ h => h.elim)
    have : remAll (dedup b) (dedup a) = none := by
     have := remAll_app ((dedup a).take (i + 1)) ((dedup a).drop (i + 1)) (dedup b)
     rw [List.take_append_drop, e1] at this
     exact this
    unfold cmpO
    rw [this]
  ·rintro _ _ _ ⟨t, ht, hz, _⟩
   rw [List.take_length] at ht
   exact .nx t ht hz
 ·intro e s1 X Γ R Δ hP S
  refine wpAny_execs_cons (wpAny_Return_some (wpAny_Constant_bool ?_))
  exact ⟨.bool false, .rt hP, ⟨X, [], S.weak (fun _ z => nomatch z) (fun _ z => nomatch z) (List.nil_sublist _), trivial⟩, .bool _⟩
 ·obtain ⟨t, ht, hz⟩ := h
  refine .ret (EvS.view m0 m0 (.inl rfl) fun X => .not (.n m0) (.list (by omega))) (.inl ?_)
  unfold cmpO
  rw [ht, Bool.not_not]
 ·cases h with
  | rt e => exact .inl (by rw [e])
end
section
variable {c : Cfg} {l : Nat} {mg mb : Str -> Option Value}
theorem g_enum (W : Wd1 c mg mb) : Glb c "enumerate" (.type "enumerate") := W.blt (by kernel_rfl) (by kernel_rfl)
noncomputable def inW (one other : List Int) : Bool := cmpO ((one ++ other).map .int) (other.map .int)
noncomputable def wRow (sides : List (List Int)) (cut : Nat) (one : List Int) : List Bool := (enumL sides).map fun z => (((cut : Int) != (z.1 : Int)) && inW one z.2)
noncomputable def wMat (sides : List (List Int)) : List (List Bool) := (enumL sides).map fun z => wRow sides z.1 z.2
noncomputable abbrev bL (bs : List Bool) : PyData := .list (bs.map .bool)
noncomputable def wAt (m : List (List Bool)) (i j : Nat) : Bool := ((m[i]?.getD [])[j]?).getD false
noncomputable def waitsOf (m : List (List Bool)) (late : Nat) : List Int := ((List.range 4).filter fun early => wAt m late early && !wAt m early late).map fun (early : Nat) => (early : Int)
noncomputable abbrev waitsD (m : List (List Bool)) : PyData := .dict ((List.range 4).map fun (late : Nat) => (.int (late : Nat), iL (waitsOf m late)))
theorem wRow_len (sides : List (List Int)) (cut : Nat) (one : List Int) : (wRow sides cut one).length = sides.length := by simp [wRow, enumL_len]
theorem c_waits (W : Wd1 c mg mb) (hl : l < 58) (sides : List (List Int)) (h4 : sides.length = 4) (hs : ∀ r ∈ sides, r.length <= 10) : Fn c l "_law_waits" [rL sides] (waitsD (wMat sides)) := by
 refine W.call (dr1 27) (mem_at (i := 11) (by kernel_rfl)) ["sides"] (by decide +kernel) rfl (by omega) (fun pm code doc => bind1 fun a => by rfl) fun A s0 ad L X pm code doc hX hA => ?_
 refine Ex.own (fun X => .nil) fun D => ?_
 refine Ex.seq (Ex1.forP (L := enumL sides) (g1 := fun (i : Nat) => .int (i : Nat)) (g2 := iL) (fun i Γ R Δ => Γ = ([("sides", rL sides)] : Gam) /\ R = ([("within", D)] : Ros) /\ Δ = [resO _ D (.list (((enumL sides).take i).map fun z => bL (wRow sides z.1 z.2)))])
  (nextO [("sides", rL sides)] [("within", D)] [resO _ D (.list ((wMat sides).map bL))]) (.of fun X => .enum (L := sides) (g := iL) (g_enum (W.push _)) (.n m0)) ⟨rfl, rfl, by simp⟩ (fun p h => h) (fun p h => h) (List.Sublist.refl _) hX ?_ ?_ ?_ inj_nat inj_iL) ?_
 ·rintro i _ _ _ ⟨rfl, rfl, _⟩
  exact ⟨off_of (by kernel_rfl), offR_of (by kernel_rfl)⟩
 ·rintro i cut one _ _ _ r hd ⟨rfl, rfl, rfl⟩
  have hone : one ∈ sides := lG (enumL_get hd).2
  refine Ex.perm (List.Perm.swap ..) (Ex.seq (Ex1.append m0 (.of fun X => (EvC.pr (L := enumL sides) (g1 := fun (i : Nat) => .int (i : Nat)) (g2 := iL) (Γc := [("cut", .int (cut : Nat)), ("one", iL one)]) (fun spot other => .bool (((cut : Int) != (spot : Int)) && inW one other)) inj_nat inj_iL (.enum (L := sides) (g := iL) (g_enum (W.push _)) (.n m2)) (.cons m1 (.cons m0 .nil)) (fun cs C XL spot other hm => ?_) (by simp [enumL_len, h4])).ev) ?_) ?_)
  ·have ho : other ∈ sides := lG (enumL_mem hm)
   refine .and2 (.cmp (.n m2) (.n m1) .neI) fun _ => .callF (c_cmp (W.push _) (by show l + 1 < 59; omega) (flat_ints ?_) (flat_ints ?_)) (.cons (.binop (.n m3) (.n m0) (.addI ?_)) (.cons (.n m0) .nil))
   all_goals
    have h1 := hs _ hone
    have h2 := hs _ ho
    simp
    try omega
  ·rw [List.length_map]
   exact Nat.le_trans (List.length_take_le' ..) (by simp [enumL_len, h4])
  ·refine Ex.perm (List.Perm.swap ..) (.weak (Γ' := [("sides", rL sides)]) (fun p hp => .tail _ (.tail _ hp)) (fun p h => h) (List.Sublist.refl _) (.nil (.inl ⟨_, _, _, .inl rfl, rfl, rfl, ?_⟩)))
   rw [List.take_add_one, hd, Option.toList_some, List.map_append]
   simp [wRow, bL, Function.comp_def]
 ·rintro _ _ _ ⟨rfl, rfl, rfl⟩
  rw [List.take_length]
  simp [wMat, nextO, bL, Function.comp_def]
 ·have hm : (wMat sides).length = 4 := by simp [wMat, enumL_len, h4]
  have hr : ∀ r ∈ wMat sides, r.length = 4 := fun r hr => by
   obtain ⟨z, _⟩ := mem_mapI hr
   rw [wRow_len, h4]
  have hrow : ∀ i : Nat, i < 4 -> ∃ r, (wMat sides)[i]? = some r /\ r.length = 4 := fun i hi => ⟨_, List.getElem?_eq_getElem (by omega), hr _ (List.getElem_mem _)⟩
  have item : ∀ (cs : List (Str × Addr)) (env : Env) (X : List Addr) (Γ : Gam) (l : Nat) (cc : Cfg) (v a b : Expr) (p q : Pos) (i j : Nat), i < 4 -> j < 4 -> Ev cc l X env Γ v (.list ((wMat sides).map bL)) -> Ev cc l X env Γ a (.int (i : Nat)) -> Ev cc l X env Γ b (.int (j : Nat)) -> (∀ o i, subscripted a false o i = operate [o, i] (getItem o i)) -> (∀ o i, subscripted b false o i = operate [o, i] (getItem o i)) ->
    Ev cc l X env Γ (.Subscript (.Subscript v a p) b q) (.bool (wAt (wMat sides) i j)) := fun cs env X Γ l cc v a b p q i j hi hj hv ha hb s1 s2 => by
   obtain ⟨r, hr1, hr2⟩ := hrow i hi
   have hw : r[j]? = some (wAt (wMat sides) i j) := by
    simp [wAt, hr1, hr2, hj]
   refine .item (ds := r.map .bool) (.item (d := bL r) hv ha (by omega) (by omega) (by simp [hr1]) s1) hb (by omega) (by omega) (by simp [hw]) s2
  refine Ex.freeze hX (.ret (.of fun X => ((EvC.nmD (intD _) 0 (L := List.range 4) (g := fun (i : Nat) => .int (i : Nat)) (Γc := [("within", .list ((wMat sides).map bL))]) (fun (i : Nat) => (i : Int)) (fun late => iL (waitsOf (wMat sides) late)) inj_nat (EvI.range (n := 4) (g_range (W.push _)) .int (by decide)) (.cons m0 .nil) (fun cs C XL i _ => .n m0) (fun cs C XL late hlate => ?_) (by simp) (by decide)).ev)) (.inl rfl))
  have hl4 : late < 4 := List.mem_range.mp hlate
  refine ((EvC.nmIf (L := List.range 4) (g := fun (i : Nat) => .int (i : Nat)) (Γc := [("within", .list ((wMat sides).map bL)), ("late", .int (late : Nat))]) (fun early => wAt (wMat sides) late early && !wAt (wMat sides) early late) (fun (i : Nat) => .int (i : Nat)) inj_nat (EvI.range (n := 4) (g_range (W.push _)) .int (by decide)) (.cons m1 (.cons m0 .nil)) (fun cs C XL early he => ?_) (fun cs C XL early _ _ => .n m0) (by simp)).ev).as ?_
  ·have he4 : early < 4 := List.mem_range.mp he
   exact .and2 (.val (item [] _ _ _ _ _ _ _ _ _ _ late early hl4 he4 (.n m1) (.n m2) (.n m0) (by intro _ _; rfl) (by intro _ _; rfl)) .bool) fun _ => .not (.val (item [] _ _ _ _ _ _ _ _ _ _ early late he4 hl4 (.n m1) (.n m0) (.n m2) (by intro _ _; rfl) (by intro _ _; rfl)) .bool)
  ·simp [waitsOf, iL, Function.comp_def]
end
section
variable {c : Cfg} {l : Nat} {mg mb : Str -> Option Value}
theorem g_type (W : Wd1 c mg mb) : Glb c "type" (.type "type") := W.blt (by kernel_rfl) (by kernel_rfl)
theorem g_str (W : Wd1 c mg mb) : Glb c "str" (.type "str") := W.blt (by kernel_rfl) (by kernel_rfl)
theorem g_bytes (W : Wd1 c mg mb) : Glb c "bytes" (.type "bytes") := W.blt (by kernel_rfl) (by kernel_rfl)
theorem g_issub (W : Wd1 c mg mb) : Glb c "issubclass" (.builtin "issubclass") := W.blt (by kernel_rfl) (by kernel_rfl)
theorem g_isinst (W : Wd1 c mg mb) : Glb c "isinstance" (.builtin "isinstance") := W.blt (by kernel_rfl) (by kernel_rfl)
theorem c_fspath (W : Wd1 c mg mb) (hl : l < 60) (x : Str) : Fn c l "fspath" [.str x] (.str x) := by
 refine W.call (dr1 18) (mem_at (i := 5) (by kernel_rfl)) ["path"] (by decide +kernel) rfl hl (fun pm code doc => bind1 fun a => by rfl) fun A s0 a L X pm code doc hX hA => ?_
 refine Ex.new (.of fun X => .callF (.ofT (g_type (W.push _)) .typeS) (.cons (.n m0) .nil)) ?_
 refine Ex.cons (fun o => o = .ret (.str x)) (Ex1.ite (b := true) (EtS.of fun X => Et.subStr (.n m0) (g_issub (W.push _)) (g_str (W.push _)) (g_bytes (W.push _))) (fun _ => Ex.ret (.of fun X => .n m1) rfl) (fun h => by cases h)) ?_ ?_ ?_ ?_
 ·intro _ _ _ h; cases h
 ·intro _ _ _ h; cases h
 ·intro _ _ _ h; cases h
 ·intro d h; exact .inl h
theorem c_sep (W : Wd1 c mg mb) (hl : l < 60) (x : Str) : Fn c l "_get_sep" [.str x] (.str "/") := by
 refine W.call (dr1 22) (mem_at (i := 7) (by kernel_rfl)) ["path"] (by decide +kernel) rfl hl (fun pm code doc => bind1 fun a => by rfl) fun A s0 a L X pm code doc hX hA => ?_
 refine Ex.cons (fun o => o = .ret (.str "/")) (Ex1.ite (b := false) (EtS.of fun X => Et.isBytes (.n m0) (g_isinst (W.push _)) (g_bytes (W.push _))) (fun h => by cases h) (fun _ => Ex.ret (.of fun X => .str) rfl)) ?_ ?_ ?_ ?_
 ·intro _ _ _ h; cases h
 ·intro _ _ _ h; cases h
 ·intro _ _ _ h; cases h
 ·intro d h; exact .inl h
end
section
noncomputable def fdOfO : Option Obj -> FuncData
 | some o => match o.data with
  | .func fd => fd
  | _ => mfd (recOf none) "" .none .none .none .none
 | none => mfd (recOf none) "" .none .none .none .none
noncomputable abbrev F1 (w : World) : Frag := K1 w.params
theorem meth_at {c : Cfg} {F : Frag} {a : Addr} {d : DefRec} {q : Str} (hF : F.In c.base) (hl : c.base.NoLimit) (dv : Value) (ho : (F.lookup a).isSome = true) (hd : ((F.lookup a).map (·.data)) = some (.func (mfd d q dv (fdOfO (F.lookup a)).pyModule (fdOfO (F.lookup a)).code (fdOfO (F.lookup a)).doc))) (hc : codeIn F (fdOfO (F.lookup a)).code q = true) :
  ∃ pm code doc, FnAt c a (mfd d q dv pm code doc) d.body := by
 obtain ⟨o, e⟩ := Option.isSome_iff_exists.mp ho
 refine ⟨(fdOfO (F.lookup a)).pyModule, (fdOfO (F.lookup a)).code, (fdOfO (F.lookup a)).doc, ⟨o, hF a o e, ?_⟩, codeRec_of hF hc, hl, rfl, rfl, rfl, rfl⟩
 rw [e] at hd ⊢
 exact Option.some.inj hd
variable {c : Cfg}
theorem m_init (hF : (F1 c.w).In c.base) (hl : c.base.NoLimit) : ∃ pm code doc, FnAt c 87 (mfd (dm1 9 0) "TopologicalSorter.__init__" (fdOfO ((F1 c.w).lookup 87)).defaults pm code doc) (dm1 9 0).body := meth_at hF hl _ (by kernel_rfl) (by kernel_rfl) (by kernel_rfl)
theorem m_info (hF : (F1 c.w).In c.base) (hl : c.base.NoLimit) : ∃ pm code doc, FnAt c 94 (mfd (dm1 9 1) "TopologicalSorter._get_nodeinfo" .none pm code doc) (dm1 9 1).body := meth_at hF hl .none (by kernel_rfl) (by kernel_rfl) (by kernel_rfl)
theorem m_add (hF : (F1 c.w).In c.base) (hl : c.base.NoLimit) : ∃ pm code doc, FnAt c 101 (mfd (dm1 9 2) "TopologicalSorter.add" .none pm code doc) (dm1 9 2).body := meth_at hF hl .none (by kernel_rfl) (by kernel_rfl) (by kernel_rfl)
theorem m_prepare (hF : (F1 c.w).In c.base) (hl : c.base.NoLimit) : ∃ pm code doc, FnAt c 106 (mfd (dm1 9 3) "TopologicalSorter.prepare" .none pm code doc) (dm1 9 3).body := meth_at hF hl .none (by kernel_rfl) (by kernel_rfl) (by kernel_rfl)
theorem m_ready (hF : (F1 c.w).In c.base) (hl : c.base.NoLimit) : ∃ pm code doc, FnAt c 113 (mfd (dm1 9 4) "TopologicalSorter.get_ready" .none pm code doc) (dm1 9 4).body := meth_at hF hl .none (by kernel_rfl) (by kernel_rfl) (by kernel_rfl)
theorem m_active (hF : (F1 c.w).In c.base) (hl : c.base.NoLimit) : ∃ pm code doc, FnAt c 120 (mfd (dm1 9 5) "TopologicalSorter.is_active" .none pm code doc) (dm1 9 5).body := meth_at hF hl .none (by kernel_rfl) (by kernel_rfl) (by kernel_rfl)
theorem m_done (hF : (F1 c.w).In c.base) (hl : c.base.NoLimit) : ∃ pm code doc, FnAt c 134 (mfd (dm1 9 7) "TopologicalSorter.done" .none pm code doc) (dm1 9 7).body := meth_at hF hl .none (by kernel_rfl) (by kernel_rfl) (by kernel_rfl)
theorem m_cycle (hF : (F1 c.w).In c.base) (hl : c.base.NoLimit) : ∃ pm code doc, FnAt c 141 (mfd (dm1 9 8) "TopologicalSorter._find_cycle" .none pm code doc) (dm1 9 8).body := meth_at hF hl .none (by kernel_rfl) (by kernel_rfl) (by kernel_rfl)
theorem m_ninit (hF : (F1 c.w).In c.base) (hl : c.base.NoLimit) : ∃ pm code doc, FnAt c 50 (mfd (dm1 7 1) "_NodeInfo.__init__" .none pm code doc) (dm1 7 1).body := meth_at hF hl .none (by kernel_rfl) (by kernel_rfl) (by kernel_rfl)
end
section
variable {c : Cfg} {l : Nat} {mg mb : Str -> Option Value}
theorem Wd.lim {c : Cfg} {p : Program} {loose : List Str} {mg mb : Str -> Option Value} (W : Wd c p loose mg mb) {d : DefRec} (hd : d ∈ recsOf p) : c.base.NoLimit := let ⟨_, _, _, _, _, F⟩ := W.fn d hd; F.lim
theorem Wd1.lim (W : Wd1 c mg mb) : c.base.NoLimit := Wd.lim W (mem_at (i := 1) (a := dr1 2) (by kernel_rfl))
theorem bindOk {fd : FuncData} {ps : List Str} {ds : List PyData} (hlen : ps.length = ds.length) (h : ∀ vs : List Value, vs.length = ps.length -> bindArgs fd ⟨vs, []⟩ = pure (ps.zip vs)) (A : Around) (X : List Addr) (s : Shared) (vs : List Value) (B : Bas c A X s.heap) (r : RdL c.w X s.heap vs ds) :
  wpAny c.M A.in1 (bindArgs fd ⟨vs, []⟩) (fun binds s1 => Pst c s s1 /\ ∃ us, binds = ps.zip us /\ RdL c.w X s1.heap us ds) NoE s := by
 rw [h vs (by rw [r.length, hlen])]
 exact wP ⟨.refl, vs, rfl, r⟩
theorem g_bool (W : Wd1 c mg mb) : Glb c "bool" (.type "bool") := W.blt (by kernel_rfl) (by kernel_rfl)
theorem EvS.n {K : Act} {A : Around} {s0 : Shared} {E : Err} {Γ : Gam} {R : Ros} {Δ : Del K} {x : Str} {d : PyData} {pos : Pos} (h : (x, d) ∈ Γ) (hd : autoParam ((x == ("__debug__" : Str)) = false) aK) : EvS K A s0 E Γ R Δ (.Name x pos) d := .of fun X => .name h hd
end
section
variable {c : Cfg} {l : Nat} {mg mb : Str -> Option Value}
noncomputable def joinF (path b : Str) : Str :=
 if (Txt.startswith b "/" || !((path.length : Int) != 0)) = true then b else if Txt.endswith path "/" = true then path ++ b else path ++ (("/" : Str) ++ b)
theorem c_join (W : Wd1 c mg mb) (hl : l < 58) (a : Str) (xs : List Str) (hxs : xs.length <= 1000) (hb : ∀ b ∈ xs, b.length <= 100) (hp : ∀ i, ((xs.take i).foldl joinF a).length <= 500) : Fn c l "join" (.str a :: xs.map .str) (.str (xs.foldl joinF a)) := by
 obtain ⟨f, pm, code, doc, hm, F⟩ := W.fn (dr1 23) (mem_at (i := 8) (by kernel_rfl))
 obtain ⟨o, ho, hdat⟩ := F.at_
 refine ⟨.ref f, glb_g W.g hm, keep_fn ho hdat, CallOk.ofA (fnA_ok (ps := ["a", "p"]) (es := [.str a, .tuple (xs.map .str)]) F (show fnOk (dr1 23).scope _ = true by decide +kernel) (by omega) rfl (bindStar1 (by rw [List.length_map]; omega) fun a vs => by cases vs <;> rfl) fun A s0 ad X0 hX hA => ?_)⟩
 refine Ex.set (Γ1 := [("p", .tuple (xs.map .str))]) (.of fun X => .callF (c_fspath (W.push ad) (show l + 1 < 60 by omega) a) (.cons (.n m0) .nil)) ?_
 refine Ex.new (.of fun X => .callF (c_sep (W.push ad) (show l + 1 < 60 by omega) a) (.cons (.n m0) .nil)) ?_
 refine Ex.new (.of fun X => .n m1) ?_
 refine Ex.seq (Γ1 := [("path", .str (xs.foldl joinF a))]) (R1 := []) (Δ1 := []) (Ex1.tryNo (Ex.seq (Ex1.forN (fun i Γ R Δ => Γ = ([("path", .str ((xs.take i).foldl joinF a)), ("sep", .str "/")] : Gam) /\ R = ([] : Ros) /\ Δ = [])
  (nextO [("path", .str (xs.foldl joinF a)), ("sep", .str "/")] [] []) (.of fun X => .ofTuple (.n m3)) (Γ' := [("path", .str a), ("sep", .str "/")]) ⟨rfl, rfl, rfl⟩ (fun p hp => ?_) (fun p h => h) (List.Sublist.refl _) hX ?_ ?_ ?_) (Ex.weak (fun p hp => ?_) (fun p h => h) (List.Sublist.refl _) (.nil rfl)))) (Ex.ret (.of fun X => .n m0) ?_ ?_)
 ·rcases lC hp with rfl | hp
  ·exact m0
  ·rw [lS hp]; exact m1
 ·rintro i _ _ _ ⟨rfl, rfl, rfl⟩
  exact ⟨off_of (by kernel_rfl), offR_of (by kernel_rfl)⟩
 ·rintro i d _ _ _ r hd ⟨rfl, rfl, rfl⟩
  rw [List.getElem?_map] at hd
  obtain ⟨b, hb1, rfl⟩ := Option.map_eq_some_iff.mp hd
  have hbm : b ∈ xs := lG hb1
  have hbl := hb b hbm
  have hpl := hp i
  have e1 : (xs.take (i + 1)).foldl joinF a = joinF ((xs.take i).foldl joinF a) b := by
   rw [List.take_add_one, hb1, Option.toList_some, List.foldl_append]; rfl
  rw [e1]
  generalize (xs.take i).foldl joinF a = cur at hpl ⊢
  refine Ex.set (Γ1 := [("path", .str cur), ("sep", .str "/")]) (.of fun X => .callF (c_fspath (W.push ad) (show l + 1 < 60 by omega) b) (.cons (.n m0) .nil)) ?_
  refine Ex.seq (Γ1 := [("path", .str (joinF cur b)), ("sep", .str "/")]) (R1 := []) (Δ1 := [r]) ?_ (.nil (.inl ⟨_, _, _, .inl rfl, rfl, rfl, rfl⟩))
  refine Ex1.ite (EtS.of fun X => .or2 (.val (.startsW (.n m0) (.n m2)) .bool) fun h => .not (.val (.n m1) (.str (by omega)))) (fun h => ?_) fun h => ?_
  ·refine Ex.set (Γ1 := [("b", .str b), ("sep", .str "/")]) (.of fun X => .n m0) ?_
   unfold joinF
   rw [if_pos h]
   exact Ex.weak (fun p hp => by
    rcases lC hp with rfl | hp
    ·exact m0
    ·rw [lS hp]; exact m2) (fun p h => h) (List.Sublist.refl _) (.nil rfl)
  ·have hn : ¬ (Txt.startswith b "/" || !((cur.length : Int) != 0)) = true := by rw [h]; exact Bool.false_ne_true
   unfold joinF
   rw [if_neg hn]
   refine Ex.seq (Γ1 := _) (R1 := []) (Δ1 := [r]) (Ex1.ite (EtS.of fun X => .val (.endsW (.n m1) (.n m2)) .bool) (fun h => ?_) fun h => ?_) (.nil rfl)
   ·rw [if_pos h]
    refine Ex.aug (Γ1 := [("b", .str b), ("sep", .str "/")]) (d1 := .str cur) (d2 := .str b) m1 (fun X => .n m0) (.iaddS (by omega)) ?_
    exact Ex.weak (fun p hp => by
     rcases lC hp with rfl | hp
     ·exact m0
     ·rw [lS hp]; exact m2) (fun p h => h) (List.Sublist.refl _) (.nil rfl)
   ·rw [if_neg (by rw [h]; exact Bool.false_ne_true)]
    have h1 : ((("/" : Str)) ++ b).length <= 101 := by
     rw [Str.length_append]
     have : (("/" : Str)).length = 1 := by decide
     omega
    refine Ex.aug (Γ1 := [("b", .str b), ("sep", .str "/")]) (d1 := .str cur) (d2 := .str (("/" : Str) ++ b)) m1 (fun X => .binop (.n m2) (.n m0) (.addS (by
     have : (("/" : Str)).length = 1 := by decide
     omega))) (.iaddS (by omega)) ?_
    exact Ex.weak (fun p hp => by
     rcases lC hp with rfl | hp
     ·exact m0
     ·rw [lS hp]; exact m2) (fun p h => h) (List.Sublist.refl _) (.nil rfl)
 ·rintro _ _ _ ⟨rfl, rfl, rfl⟩
  rw [List.length_map, List.take_length]
 ·rw [lS hp]; exact m0
 ·trivial
 ·exact ⟨[], List.nil_sublist _, rfl, [], List.nil_sublist _, ⟨rfl, rfl⟩, fun _ h => h⟩
end
section
noncomputable def lcp : List Str -> List Str -> List Str
 | x :: xs, y :: ys => if x = y then x :: lcp xs ys else []
 | _, _ => []
theorem lcp_comm : ∀ xs ys : List Str, lcp xs ys = lcp ys xs
 | [], [] => rfl
 | [], _ :: _ => rfl
 | _ :: _, [] => rfl
 | x :: xs, y :: ys => by
  unfold lcp
  by_cases h : x = y
  ·subst h; simp [lcp_comm xs ys]
  ·rw [if_neg h, if_neg (Ne.symm h)]
theorem lcp_at : ∀ (i : Nat) (xs ys : List Str) {x y : Str}, xs.take i = ys.take i -> xs[i]? = some x -> ys[i]? = some y -> x ≠ y -> lcp xs ys = xs.take i
 | 0, x' :: xs, y' :: ys, x, y, _, h1, h2, hn => by
  cases h1; cases h2
  unfold lcp
  rw [if_neg hn]; rfl
 | i + 1, x' :: xs, y' :: ys, x, y, h, h1, h2, hn => by
  rw [List.take_succ_cons, List.take_succ_cons] at h
  injection h with h3 h4
  unfold lcp
  rw [if_pos h3, List.take_succ_cons, lcp_at i xs ys h4 (by simpa using h1) (by simpa using h2) hn]
 | _, [], _, _, _, _, h1, _, _ => by cases h1
 | _, _ :: _, [], _, _, _, _, h2, _ => by cases h2
theorem lcp_all : ∀ (xs ys : List Str), xs.take xs.length = ys.take xs.length -> lcp xs ys = xs
 | [], ys, _ => by cases ys <;> rfl
 | x :: xs, [], h => by simp at h
 | x :: xs, y :: ys, h => by
  rw [List.length_cons, List.take_succ_cons, List.take_succ_cons] at h
  injection h with h3 h4
  unfold lcp
  rw [if_pos h3, lcp_all xs ys h4]
theorem cmpL_pre {f : Str -> Str -> Bool} {g : Nat -> Nat -> Bool} : ∀ (i : Nat) (xs ys : List Str), xs.take i = ys.take i -> (xs.length <= i \/ ys.length <= i) -> ∃ k, cmpL f g xs ys = g (xs.length - k) (ys.length - k) /\ k <= xs.length /\ k <= ys.length
 | 0, xs, ys, _, h => by
  refine ⟨0, ?_, Nat.zero_le _, Nat.zero_le _⟩
  rw [cmpL_end]
  ·rfl
  ·rcases h with h | h
   ·exact .inl (List.eq_nil_of_length_eq_zero (by omega))
   ·exact .inr (List.eq_nil_of_length_eq_zero (by omega))
 | i + 1, [], ys, _, _ => ⟨0, by rw [cmpL_end (.inl rfl)]; rfl, Nat.zero_le _, Nat.zero_le _⟩
 | i + 1, x :: xs, [], _, _ => ⟨0, by rw [cmpL_end (.inr rfl)]; rfl, Nat.zero_le _, Nat.zero_le _⟩
 | i + 1, x :: xs, y :: ys, h, hl => by
  rw [List.take_succ_cons, List.take_succ_cons] at h
  injection h with h3 h4
  obtain ⟨k, e, h5, h6⟩ := cmpL_pre (f := f) (g := g) i xs ys h4 (by simpa using hl)
  refine ⟨k + 1, ?_, by simpa using h5, by simpa using h6⟩
  have : cmpL f g (x :: xs) (y :: ys) = cmpL f g xs ys := by rw [cmpL, if_pos h3]
  rw [this, e]
  simp
noncomputable abbrev minL (a b : List Str) : List Str := if ltL b a then b else a
noncomputable abbrev maxL (a b : List Str) : List Str := if gtL b a then b else a
theorem gt_not_lt : ∀ a b : List Str, gtL b a = true -> ltL b a = true -> False
 | [], [], h, _ => by simp [cmpL] at h
 | [], y :: ys, _, h => by simp [cmpL] at h
 | x :: xs, [], h, _ => by simp [cmpL] at h
 | x :: xs, y :: ys, h1, h2 => by
  unfold gtL cmpL at h1
  unfold ltL cmpL at h2
  by_cases h : y = x
  ·rw [if_pos h] at h1 h2
   exact gt_not_lt xs ys h1 h2
  ·rw [if_neg h] at h1 h2
   exact absurd (of_decide_eq_true h1) (List.lt_asymm (of_decide_eq_true h2))
theorem eq_of_not : ∀ a b : List Str, gtL b a = false -> ltL b a = false -> a = b
 | [], [], _, _ => rfl
 | [], y :: ys, h, _ => by simp [cmpL] at h
 | x :: xs, [], _, h => by simp [cmpL] at h
 | x :: xs, y :: ys, h1, h2 => by
  unfold gtL cmpL at h1
  unfold ltL cmpL at h2
  by_cases h : y = x
  ·rw [if_pos h] at h1 h2
   rw [h, eq_of_not xs ys h1 h2]
  ·rw [if_neg h] at h1 h2
   have e := List.le_antisymm (as := x.cps.toList) (bs := y.cps.toList) (of_decide_eq_false h2) (of_decide_eq_false h1)
   refine absurd ?_ h
   cases x; cases y
   simp only [Str.mk.injEq]
   exact (Array.toList_inj.mp e).symm
theorem lcp_mm (a b : List Str) : lcp (minL a b) (maxL a b) = lcp a b := by
 unfold minL maxL
 cases h1 : ltL b a with
 | true =>
  cases h2 : gtL b a with
  | true => exact (gt_not_lt a b h2 h1).elim
  | false => exact lcp_comm b a
 | false =>
  cases h2 : gtL b a with
  | true => rfl
  | false => rw [eq_of_not a b h2 h1]; rfl
theorem mm_len (a b : List Str) {i : Nat} (h : (minL a b).take i = (maxL a b).take i) (hi : i < (minL a b).length) : i < (maxL a b).length := by
 unfold minL maxL at *
 cases h1 : ltL b a with
 | true =>
  cases h2 : gtL b a with
  | true => exact (gt_not_lt a b h2 h1).elim
  | false =>
   rw [h1, h2] at h
   rw [h1] at hi
   simp only [if_true, Bool.false_eq_true, if_false] at *
   refine Nat.lt_of_not_le fun hle => ?_
   obtain ⟨k, e, k1, k2⟩ := cmpL_pre (f := ltS) (g := fun m n => decide (m < n)) i b a h (.inr hle)
   have : ltL b a = decide (b.length - k < a.length - k) := e
   rw [h1] at this
   have := of_decide_eq_true this.symm
   omega
 | false =>
  cases h2 : gtL b a with
  | false =>
   rw [h1] at hi
   simpa using hi
  | true =>
   rw [h1, h2] at h
   rw [h1] at hi
   simp only [if_true, Bool.false_eq_true, if_false] at *
   refine Nat.lt_of_not_le fun hle => ?_
   obtain ⟨k, e, k1, k2⟩ := cmpL_pre (f := gtS) (g := fun m n => decide (m > n)) i b a h.symm (.inl hle)
   have : gtL b a = decide (b.length - k > a.length - k) := e
   rw [h2] at this
   have := of_decide_eq_true this.symm
   omega
end
section
variable {c : Cfg} {l : Nat} {mg mb : Str -> Option Value}
theorem updA_one {a : Addr} {D D' : Desc} : updA [(a, D)] a D' = [(a, D')] := by simp [updA]
noncomputable abbrev nodeD (dx : Addr) (ns : List Str) (k : PyData) (np : Int) (li : Addr) : Desc := .inst 54 dx ns [] [(2, opq li), (1, .int np), (0, k)]
theorem c_ninit (W : Wd1 c mg mb) (hF : (F1 c.w).In c.base) (hl : l < 58) {x dx : Addr} {ns : List Str} {k : PyData} (hk : flat k = true) :
  FnA c l 50 [opq x, k] [(x, .inst 54 dx ns [] [])] (fun d L' => d = .none /\ ∃ li, L' = [(li, .data (.list [])), (x, nodeD dx ns k 0 li)]) := by
 obtain ⟨pm, code, doc, Fm⟩ := m_ninit hF W.lim
 refine fnA_ok (ps := ["self", "node"]) Fm (show fnOk (dm1 7 1).scope _ = true by decide +kernel) (by omega) rfl (bindOk rfl (bind2 fun a b => by rfl)) fun A s0 ad X0 hX hA => ?_
 have hF' : (F1 c.w).In (c.push ad).base := hF
 have e0 : ∀ (K : Act) (L : AObs), delA K.c L = delA K.c L ++ ([] : Del K) := fun K L => (List.append_nil _).symm
 rw [e0]
 refine Ex.seq (Ex1.setG (F := F1 c.w) (d := k) (C := 54) (dx := dx) (ns := ns) (fs := []) (gs := []) (a := x) (p := 55) (i := 0) hF' (.n m1) (.n m0) hk (.head _) (by kernel_rfl)) ?_
 rw [updA_one]
 refine Ex.seq (Ex1.setG (F := F1 c.w) (d := .int 0) (C := 54) (dx := dx) (ns := ns) (fs := []) (gs := [(0, k)]) (a := x) (p := 56) (i := 1) hF' (.of fun X => .int) (.n m0) rfl (.head _) (by kernel_rfl)) ?_
 rw [updA_one]
 refine Ex.seqX (Ex1.setGF (F := F1 c.w) (d := .list []) (C := 54) (dx := dx) (ns := ns) (fs := []) (gs := [(1, .int 0), (0, k)]) (a := x) (p := 57) (i := 2) hF' (fun X => .nil) (fun D => .n m0) (.head _) (by kernel_rfl)) fun o ho => ?_
 obtain ⟨D, hD, rfl⟩ := ho
 refine ⟨_, _, _, rfl, .nil ?_⟩
 rw [updA_one]
 refine ⟨rfl, _, by rw [List.append_nil]; exact List.Sublist.refl _, ⟨rfl, D, rfl⟩, fun a ha => ?_⟩
 exact lR [D] ha
end
section
variable {c : Cfg} {l : Nat} {mg mb : Str -> Option Value} {κ : Type} [DecidableEq κ]
theorem g_node (W : Wd1 c mg mb) (hF : (F1 c.w).In c.base) : Glb c "_NodeInfo" (.ref 54) := glb_g W.g (mg_of hF W.g (by kernel_rfl))
theorem k_node (W : Wd1 c mg mb) (hF : (F1 c.w).In c.base) : Keep0 c (.ref 54) := keep_K hF (by kernel_rfl)
theorem c_node (W : Wd1 c mg mb) (hF : (F1 c.w).In c.base) (hl : l < 57) {k : PyData} (hk : flat k = true) :
  FnA c l 54 [k] [] (fun d L' => ∃ x dx, d = opq x /\ x ∈ fpA L' /\ ∃ li, L' = [(li, .data (.list [])), (x, nodeD dx [] k 0 li)]) :=
 makeA (F := F1 c.w) (fI := 50) hF (by omega) (by kernel_rfl) (by kernel_rfl) (by kernel_rfl) fun x dx => c_ninit W hF (by omega) hk
noncomputable abbrev sa1 (S Sx N2 : Addr) : SA := ⟨151, 54, S, Sx, N2⟩
noncomputable def InfoR (st : St κ) (k : κ) (st' : St κ) : Prop := (k ∈ st.keys /\ st' = st) \/ (k ∉ st.keys /\ ∃ x dx li, st' = { st with nds := st.nds ++ [⟨k, x, dx, li, 0, []⟩] })
inductive InfoP (a : SA) (enc : κ -> PyData) (st : St κ) (k : κ) (L : AObs) (d : PyData) (L' : AObs) : Prop
 | mk (st' : St κ) (n : Nd κ) (e : d = opq n.x) (hn : n ∈ st'.nds) (hk : n.k = k) (H : Srt a enc st' L') (hE : ExtA L L') (hI : InfoR st k st')
theorem dD_inj {enc : κ -> PyData} (hi : ∀ a b, enc a = enc b -> a = b) {kvs kvs' : List (κ × PyData)} (h : dD enc kvs = dD enc kvs') : kvs = kvs' := by
 refine List.map_inj_right (fun a b e => ?_) |>.mp (PyData.dict.inj h)
 obtain ⟨e1, e2⟩ := Prod.mk.inj e
 exact Prod.ext (hi _ _ e1) e2
theorem c_info (W : Wd1 c mg mb) (hF : (F1 c.w).In c.base) (hl : l < 55) (dk : DKey c.w κ) {S Sx N2 : Addr} {st : St κ} {L : AObs} (h : Srt (sa1 S Sx N2) dk.enc st L) (k : κ) (hz : st.nds.length <= 10 ^ 6) :
  FnA c l 94 [opq S, dk.enc k] L (InfoP (sa1 S Sx N2) dk.enc st k L) := by
 obtain ⟨pm, code, doc, Fm⟩ := m_info hF W.lim
 refine fnA_ok (ps := ["self", "node"]) Fm (show fnOk (dm1 9 1).scope _ = true by decide +kernel) (by omega) rfl (bindOk rfl (bind2 fun a b => by rfl)) fun A s0 ad X0 hX hA => ?_
 have hF' : (F1 c.w).In (c.push ad).base := hF
 obtain ⟨fs, s1, s2, s3, _, _⟩ := h.self
 have e0 : ∀ (K : Act) (L : AObs), delA K.c L = delA K.c L ++ ([] : Del K) := fun K L => (List.append_nil _).symm
 rw [e0]
 refine Ex.seqX (O1 := fun o => ∃ d L', InfoP (sa1 S Sx N2) dk.enc st k L d L' /\ o = .next [("result", d), ("self", opq S), ("node", dk.enc k)] [] (delA _ L' ++ [])) (Ex1.iteN (d := (kget (st.nds.map fun n => (n.k, opq n.x)) k).getD .none) (EvS.dget (κ := κ) dk (D := N2) (W.push ad).sys (EvS.fld (F := F1 c.w) hF' (.n m0) s1 s2 (by kernel_rfl)) (.n m1) h.map) ?_ (fun hn => ?_) (fun hn => ?_)) ?_
 ·rcases kget_nodes (st := st) (k := k) with ⟨_, e⟩ | ⟨n, _, _, e⟩ <;> rw [e] <;> rfl
 ·rcases kget_nodes (st := st) (k := k) with ⟨hk, e⟩ | ⟨n, _, _, e⟩
  ·refine Ex.weak (Γ' := [("self", opq S), ("node", dk.enc k)]) (fun p hp => .tail _ hp) (fun p hp => hp) (List.Sublist.refl _) ?_
   refine Ex.seqX (Ex1.assignDN (κ := κ) dk (D := N2) (k := k) (EvX.know (φ := fun d L' => (L'.map (·.1)).Nodup) (EvX.cls (g_node (W.push ad) hF') (k_node (W.push ad) hF') (c_node (W.push ad) hF' (show l + 1 < 57 by omega) (dk.flat k)) (.one (.n m1))) fun d L' s X _ S => S.nodupA) ?_ ?_ ?_) ?_
   ·rintro d L' ⟨⟨L1, _, rfl⟩, _⟩
    exact .fld (F := F1 c.w) hF' (.n m0) (lR _ s1) s2 (by kernel_rfl)
   ·rintro d L' ⟨⟨L1, _, rfl⟩, _⟩
    exact .n m1
   ·rintro d L' ⟨⟨L1, ⟨x, dx, rfl, _⟩, rfl⟩, _⟩
    refine ⟨rfl, _, lR _ h.map, by rw [List.length_map]; exact hz, ?_⟩
    rw [List.map_map]; exact hk
   ·rintro _ ⟨d, L', kvs, ⟨⟨L1, ⟨x, dx, rfl, _, li, rfl⟩, rfl⟩, hnd⟩, hkv, rfl⟩
    refine ⟨_, _, _, rfl, .nil ⟨_, _, ?_, rfl⟩⟩
    have hkv' : kvs = st.nds.map fun n => (n.k, opq n.x) := by
     have := fun_of hnd hkv (lR _ h.map)
     exact dD_inj dk.inj (Desc.data.inj this)
    rw [hkv']
    have hx : x ≠ li := by
     have := (List.nodup_append.mp (by simpa using hnd : ([li, x] ++ L.map (·.1)).Nodup)).1
     simp at this
     exact fun e => this e.symm
    have q := h.addN (n := ⟨k, x, dx, li, 0, []⟩) (L1 := [(li, .data (.list [])), (x, nodeD dx [] (dk.enc k) 0 li)]) hk hnd ⟨⟨_, m1, m2, m1, m0⟩, m0⟩ hx
    exact ⟨_, _, rfl, lR _ (.head _), rfl, q.1, q.2, .inr ⟨hk, x, dx, li, rfl⟩⟩
  ·rw [e] at hn; cases hn
 ·rcases kget_nodes (st := st) (k := k) with ⟨hk, e⟩ | ⟨n, hn1, hn2, e⟩
  ·rw [e] at hn; cases hn
  ·rw [e]
   refine .nil ⟨_, L, ⟨st, n, rfl, hn1, hn2, h, .refl, .inl ⟨?_, rfl⟩⟩, rfl⟩
   rw [<- hn2]
   exact lM (f := (·.k)) hn1
 ·rintro _ ⟨d, L', hP, rfl⟩
  refine ⟨_, _, _, rfl, .ret (d := d) (.n m0) trivial ⟨_, List.Sublist.refl _, ?_, L', by rw [List.append_nil]; exact List.Sublist.refl _, hP, ?_⟩⟩
  ·obtain ⟨st', n, rfl, _⟩ := hP; rfl
  ·obtain ⟨st', n, _, _, _, _, hE, _⟩ := hP; exact hE
end
section
variable {K : Act} {A : Around} {s0 : Shared} {E : Err} {Γ Γ0 : Gam} {R : Ros} {Δ T : Del K} {ss : List Stmt} {O : Out K -> Prop} {L : AObs} {P : AObs -> Prop}
noncomputable def At (K : Act) (Γ0 : Gam) (T : Del K) (P : AObs -> Prop) : Out K -> Prop
 | .next Γ R Δ => Γ = Γ0 /\ R = [] /\ ∃ L, Δ = delA K.c L ++ T /\ P L
 | _ => False
theorem Ex.at (hP : P L) : Ex K A s0 E Γ0 [] (delA K.c L ++ T) [] (At K Γ0 T P) := .nil ⟨rfl, rfl, L, rfl, hP⟩
theorem Ex.atW (hg : ∀ p ∈ Γ0, p ∈ Γ) (hP : P L) : Ex K A s0 E Γ [] (delA K.c L ++ T) [] (At K Γ0 T P) := .weak hg (fun _ h => h) (List.Sublist.refl _) (.at hP)
theorem Ex.seqL {st : Stmt} (h : Ex1 K A s0 E Γ R Δ st (At K Γ0 T P)) (k : ∀ L, P L -> Ex K A s0 E Γ0 [] (delA K.c L ++ T) ss O) : Ex K A s0 E Γ R Δ (st :: ss) O :=
 .cons _ h (fun _ _ _ e => by obtain ⟨rfl, rfl, L, rfl, hp⟩ := e; exact k L hp) (fun _ _ _ e => e.elim) (fun _ _ _ e => e.elim) fun _ e => e.elim
theorem Ex.outPerm {r : Res K.c} (h : Ex K A s0 E Γ R Δ ss (At K Γ0 (r :: T) P)) : Ex K A s0 E Γ R Δ ss fun o => ∃ L', o = .next Γ0 [] (r :: (delA K.c L' ++ T)) /\ P L' := fun s X S =>
 wK (h s X S) (fun f s' hp => by
  cases f with
  | next =>
   obtain ⟨X, _, _, _, ⟨rfl, rfl, L', rfl, q⟩, S'⟩ := hp
   exact ⟨X, _, _, _, ⟨L', rfl, q⟩, S'.perm perm_loop.symm⟩
  | brk => obtain ⟨_, _, _, _, q, _⟩ := hp; exact q.elim
  | cont => obtain ⟨_, _, _, _, q, _⟩ := hp; exact q.elim
  | ret v => obtain ⟨_, q, _⟩ := hp; exact q.elim)
theorem Ex1.forL {α : Type} {x : Str} {p pos : Pos} {iter : Expr} {body : List Stmt} {ks : List α} {g : α -> PyData} (P : Nat -> AObs -> Prop) (hI : EvIS K A s0 E Γ [] (delA K.c L ++ T) false iter (ks.map g)) (h0 : P 0 L) (hg : ∀ p ∈ Γ0, p ∈ Γ) (hx0 : X0ok K s0)
  (hb : ∀ i k L (r : Res K.c), ks[i]? = some k -> P i L -> Ex K A s0 E ((x, g k) :: Γ0) [] (delA K.c L ++ r :: T) body (At K Γ0 (r :: T) (P (i + 1))))
  (hoff : autoParam (offB [x] (Γ0.map (·.1)) = true) aK) (hsub : autoParam (subB [x] K.xs = true) aK) (hd : autoParam ((x == ("__debug__" : Str)) = false) aK) (hfold : ∀ x, foldedSetIterable iter K.env x = pure x := by intro _; rfl) (hE : PassesOwn K.c.M A K.env E := by exact fun _ _ f => f.elim) :
  Ex1 K A s0 E Γ [] (delA K.c L ++ T) (.For (.Name x p) iter body [] pos) (At K Γ0 T (P ks.length)) := by
 refine Ex1.forN (fun i Γ' R Δ => Γ' = Γ0 /\ R = [] /\ ∃ L, Δ = delA K.c L ++ T /\ P i L) _ hI ⟨rfl, rfl, L, rfl, h0⟩ hg (fun p h => h) (List.Sublist.refl _) hx0 ?_ ?_ ?_ hsub hd hfold hE
 ·rintro i _ _ _ ⟨rfl, rfl, _⟩
  exact ⟨off_of hoff, fun p h => nomatch h⟩
 ·rintro i d _ _ _ r hd ⟨rfl, rfl, L, rfl, hp⟩
  obtain ⟨k, hk⟩ := map_get hd
  refine Ex.weaken (Ex.outPerm (Ex.perm perm_loop (hb i k L r hk hp))) fun o ho => .inl ?_
  obtain ⟨L', rfl, q⟩ := ho
  exact ⟨_, _, _, .inl rfl, rfl, rfl, L', rfl, q⟩
 ·rintro _ _ _ ⟨rfl, rfl, L, rfl, hp⟩
  rw [List.length_map] at hp
  exact ⟨rfl, rfl, L, rfl, hp⟩
theorem Ex1.forPL {α β : Type} {x y : Str} {p q r pos : Pos} {k : Nat} {iter : Expr} {body : List Stmt} {L : List (α × β)} {g1 : α -> PyData} {g2 : β -> PyData} {M : AObs} (P : Nat -> AObs -> Prop) (hI : EvIS K A s0 E Γ [] (delA K.c M ++ T) true iter (L.map fun z => .tuple [g1 z.1, g2 z.2])) (h0 : P 0 M) (hg : ∀ p ∈ Γ0, p ∈ Γ) (hx0 : X0ok K s0)
  (hb : ∀ i a b M (r : Res K.c), L[i]? = some (a, b) -> P i M -> Ex K A s0 E ((y, g2 b) :: (x, g1 a) :: Γ0) [] (delA K.c M ++ r :: T) body (At K Γ0 (r :: T) (P (i + 1)))) (h1 : ∀ a b, g1 a = g1 b -> a = b) (h2 : ∀ a b, g2 a = g2 b -> a = b)
  (hoff : autoParam (offB [x, y] (Γ0.map (·.1)) = true) aK) (hsub : autoParam (subB [x, y] K.xs = true) aK) (hd : autoParam ((y != x) = true) aK) (hfold : ∀ x, foldedSetIterable iter K.env x = pure x := by intro _; rfl) (hE : PassesOwn K.c.M A K.env E := by exact fun _ _ f => f.elim) :
  Ex1 K A s0 E Γ [] (delA K.c M ++ T) (.For (.Tuple [.Name x p, .Name y q] k r) iter body [] pos) (At K Γ0 T (P L.length)) := by
 refine Ex1.forP (L := L) (g1 := g1) (g2 := g2) (fun i Γ' R Δ => Γ' = Γ0 /\ R = [] /\ ∃ L, Δ = delA K.c L ++ T /\ P i L) _ hI ⟨rfl, rfl, M, rfl, h0⟩ hg (fun p h => h) (List.Sublist.refl _) hx0 ?_ ?_ ?_ h1 h2 hsub hd hfold hE
 ·rintro i _ _ _ ⟨rfl, rfl, _⟩
  exact ⟨off_of hoff, fun p h => nomatch h⟩
 ·rintro i a b _ _ _ r hd ⟨rfl, rfl, L, rfl, hp⟩
  refine Ex.weaken (Ex.outPerm (Ex.perm perm_loop (hb i a b L r hd hp))) fun o ho => .inl ?_
  obtain ⟨L', rfl, q⟩ := ho
  exact ⟨_, _, _, .inl rfl, rfl, rfl, L', rfl, q⟩
 ·rintro _ _ _ ⟨rfl, rfl, L, rfl, hp⟩
  exact ⟨rfl, rfl, L, rfl, hp⟩
theorem Ex1.forDL {α : Type} {x : Str} {p pos : Pos} {iter : Expr} {body : List Stmt} {ks : List α} {g : α -> PyData} {D : Addr} (P : Nat -> AObs -> Prop) (hI : EvS K A s0 E Γ [] (delA K.c L ++ T) iter (opq D)) (hfl : ∀ k ∈ ks, flat (g k) = true) (h0 : P 0 L) (hg : ∀ p ∈ Γ0, p ∈ Γ) (hx0 : X0ok K s0)
  (hD : ∀ i L, P i L -> (D, .data (.list (ks.map g))) ∈ L)
  (hb : ∀ i k L (r : Res K.c), ks[i]? = some k -> P i L -> Ex K A s0 E ((x, g k) :: Γ0) [] (delA K.c L ++ r :: T) body (At K Γ0 (r :: T) (P (i + 1))))
  (hoff : autoParam (offB [x] (Γ0.map (·.1)) = true) aK) (hsub : autoParam (subB [x] K.xs = true) aK) (hdb : autoParam ((x == ("__debug__" : Str)) = false) aK) (hfold : ∀ x, foldedSetIterable iter K.env x = pure x := by intro _; rfl) (hE : PassesOwn K.c.M A K.env E := by exact fun _ _ f => f.elim) :
  Ex1 K A s0 E Γ [] (delA K.c L ++ T) (.For (.Name x p) iter body [] pos) (At K Γ0 T (P ks.length)) := by
 refine Ex1.forD (D := D) (ds := ks.map g) (fun i Γ' R L => Γ' = Γ0 /\ R = [] /\ P i L) _ hI (fun d hd => by obtain ⟨k, hk⟩ := mem_mapI hd; exact hfl k hk) ⟨rfl, rfl, h0⟩ hg (fun p h => h) hx0 ?_ ?_ ?_ hsub hdb hfold hE
 ·rintro i _ _ L ⟨rfl, rfl, hp⟩
  exact ⟨off_of hoff, (fun p h => nomatch h), hD i L hp⟩
 ·rintro i d _ _ L r hd ⟨rfl, rfl, hp⟩
  obtain ⟨k, hk⟩ := map_get hd
  refine Ex.weaken (hb i k L r hk hp) fun o ho => ?_
  cases o with
  | next => obtain ⟨rfl, rfl, L', rfl, q⟩ := ho; exact ⟨_, _, L', .inl rfl, rfl, rfl, q⟩
  | brk => exact ho.elim
  | cont => exact ho.elim
  | ret => exact ho.elim
 ·rintro _ _ L ⟨rfl, rfl, hp⟩
  rw [List.length_map] at hp
  exact ⟨rfl, rfl, L, rfl, hp⟩
inductive SI {κ : Type} (a : SA) (enc : κ -> PyData) (L0 : AObs) (ab : List (PN κ)) (rn : Option (Addr × List κ)) (po nf : Int) (L : AObs) : Prop
 | mk (st' : St κ) (srt : Srt a enc st' L) (ext : ExtA L0 L) (ab' : st'.abs = ab) (rn' : st'.rn = rn) (po' : st'.po = po) (nf' : st'.nf = nf) : SI a enc L0 ab rn po nf L
end
section
variable {c : Cfg} {l : Nat} {mg mb : Str -> Option Value} {κ : Type} [DecidableEq κ]
theorem InfoR.abs {st st' : St κ} {k : κ} (h : InfoR st k st') : st'.abs = infoP st.abs k /\ st'.rn = st.rn /\ st'.po = st.po /\ st'.nf = st.nf := by
 rcases h with ⟨hk, rfl⟩ | ⟨hk, x, dx, li, rfl⟩
 ·exact ⟨by unfold infoP; rw [abs_keys, if_pos hk], rfl, rfl, rfl⟩
 ·refine ⟨?_, rfl, rfl, rfl⟩
  unfold infoP
  rw [abs_keys, if_neg hk]
  simp [St.abs]
theorem putG_same {i : Nat} {d : PyData} {gs : List (Nat × PyData)} : (i, d) ∈ putG i [d] gs := .head _
theorem putG_other {i j : Nat} {d d' : PyData} {gs : List (Nat × PyData)} (h : (j, d') ∈ gs) (hn : j ≠ i) : (j, d') ∈ putG i [d] gs := .tail _ (List.mem_filter.mpr ⟨h, by simpa using hn⟩)
noncomputable def AddQ (a : SA) (enc : κ -> PyData) (st : St κ) (L : AObs) (ns : List (PN κ)) : PyData -> AObs -> Prop := fun d L' => d = .none /\ SI a enc L ns st.rn st.po st.nf L'
theorem abs_one {st : St κ} {n : Nd κ} {g : Nd κ -> Nd κ} {g' : PN κ -> PN κ} (hn : st.keys.Nodup) (hm : n ∈ st.nds) (h : ((g n).k, (g n).np, (g n).su) = g' (n.k, n.np, n.su)) : (Srt.upK st n.k g).abs = upP st.abs n.k g' := by
 unfold Srt.upK St.abs upP
 simp only [List.map_map]
 refine List.map_congr_left fun m hm' => ?_
 simp only [Function.comp]
 split
 ·rename_i e
  rw [injM hn _ hm' _ hm e]
  exact h
 ·rfl
theorem c_add (W : Wd1 c mg mb) (hF : (F1 c.w).In c.base) (hl : l < 52) (dk : DKey c.w κ) {S Sx N2 : Addr} {st : St κ} {L : AObs} (h : Srt (sa1 S Sx N2) dk.enc st L) (hr : st.rn = none) (k : κ) (ps : List κ) {N : Nat} (hz : limP N st.abs) (hN : N + ps.length + 1 <= 10 ^ 6) :
  FnA c l 101 (opq S :: dk.enc k :: ps.map dk.enc) L (AddQ (sa1 S Sx N2) dk.enc st L (addP st.abs k ps)) := by
 obtain ⟨pm, code, doc, Fm⟩ := m_add hF W.lim
 refine fnA_ok (ps := ["self", "node", "predecessors"]) (es := [opq S, dk.enc k, .tuple (ps.map dk.enc)]) Fm (show fnOk (dm1 9 2).scope _ = true by decide +kernel) (by omega) rfl (bindStar2 (by rw [List.length_map]; omega) fun a b vs => by cases vs <;> rfl) fun A s0 ad X0 hX hA => ?_
 have hF' : (F1 c.w).In (c.push ad).base := hF
 obtain ⟨fs, s1, s2, s3, s4, _⟩ := h.self
 rw [hr] at s3
 have e0 : ∀ (K : Act) (L : AObs), delA K.c L = delA K.c L ++ ([] : Del K) := fun K L => (List.append_nil _).symm
 have hk94 : Keep0 (c.push ad) (.ref 94) := keep_K hF' (by kernel_rfl)
 rw [e0]
 refine Ex.seq (Γ1 := [("self", opq S), ("node", dk.enc k), ("predecessors", .tuple (ps.map dk.enc))]) (R1 := []) (Δ1 := delA _ L ++ []) (Ex1.ite (EtS.isNotNone (EvS.fld (F := F1 c.w) hF' (.n m0) s1 s3 (by kernel_rfl))) (fun h => by cases h) fun _ => .nil rfl) ?_
 refine Ex.newX (EvX.meth (F := F1 c.w) hF' (.n m0) s1 (by kernel_rfl) (by decide +kernel) hk94 (c_info (W.push ad) hF' (show l + 1 < 55 by omega) dk h k (by rw [<- abs_len]; have := hz.1; omega)) (.one (.n m1))) ?_
 rintro d L1 ⟨st1, n1, rfl, hn1, hk1, H1, hE1, hI1⟩
 obtain ⟨gs, g1, g2, g3, g4⟩ := (H1.nd n1 hn1).at_
 obtain ⟨a1, a2, a3, a4⟩ := hI1.abs
 refine Ex.seq (Ex1.augG (F := F1 c.w) (p := 56) (i := 1) (d1 := .int n1.np) (d2 := .int ps.length) (d := .int (n1.np + ps.length)) hF' (.n m0) ?_ g1 g3 .iaddI rfl rfl (by kernel_rfl)) ?_
 ·have hlen : Fn (c.push ad) (l + 1) "len" [.tuple (ps.map dk.enc)] (.int ps.length) := by
   have := Fn.of (g_len (W.push ad)) (CallOk.lenT (l := l + 1) (ds := ps.map dk.enc) (by rw [List.length_map]; omega))
   rw [List.length_map] at this
   exact this
  exact .call1 hlen (.n m3)
 obtain ⟨H2, hE2⟩ := H1.setNp (v := n1.np + ps.length) hn1 (putG_other g2 (by decide)) putG_same (putG_other g4 (by decide))
 have hab2 : (Srt.upK st1 n1.k fun m => { m with np := n1.np + ps.length }).abs = add0 st.abs k ps.length := by
  rw [abs_one (g := fun m => { m with np := n1.np + ps.length }) (g' := fun m => (m.1, m.2.1 + ps.length, m.2.2)) H1.nk hn1 rfl, a1, hk1]
  rfl
 have base : limP (N + 1) (add0 st.abs k ps.length) := hz.add0
 refine Ex.seqL (Ex1.forL (ks := ps) (g := dk.enc) (Γ0 := [("nodeinfo", opq n1.x), ("self", opq S), ("node", dk.enc k), ("predecessors", .tuple (ps.map dk.enc))]) (T := []) (fun i => SI (sa1 S Sx N2) dk.enc L ((ps.take i).foldl (predP k) (add0 st.abs k ps.length)) st.rn st.po st.nf)
   (.of fun X => .ofTuple (.n m3)) ⟨_, H2, hE1.trans hE2, hab2, a2, a3, a4⟩ (fun p h => h) hX (fun i p L1 r hp hI => ?_)) fun L' hI => ?_
 ·obtain ⟨st', H, hE, hab, b2, b3, b4⟩ := hI
  have hi : i < ps.length := (List.getElem?_eq_some_iff.mp hp).1
  have hlim : limP (N + 1 + i) st'.abs := by
   rw [hab]
   exact (base.fold (k := k) (ps := ps.take i)).mono (by rw [List.length_take]; omega)
  obtain ⟨fs', t1, t2, _, _, _⟩ := H.self
  refine Ex.newX (EvX.meth (F := F1 c.w) hF' (.n m2) t1 (by kernel_rfl) (by decide +kernel) hk94 (c_info (W.push ad) hF' (show l + 1 < 55 by omega) dk H p (by rw [<- abs_len]; have := hlim.1; omega)) (.one (.n m0))) ?_
  rintro d L3 ⟨st3, n3, rfl, hn3, hk3, H3, hE3, hI3⟩
  obtain ⟨⟨gs3, q1, q2, q3, q4⟩, q5⟩ := H3.nd n3 hn3
  obtain ⟨c1, c2, c3, c4⟩ := hI3.abs
  have hlim3 : limP (N + 1 + i + 1) st3.abs := by rw [c1]; exact hlim.info
  refine Ex.seq (Ex1.appendF (D := n3.li) (ds := n3.su.map dk.enc) (d := dk.enc k) (EvS.slt (F := F1 c.w) (p := 57) (i := 2) hF' (.n m0) q1 q4 (by kernel_rfl)) (.n m4) (dk.flat k) q5 ?_) ?_
  ·have h' : n3.su.length <= N + 1 + i + 1 := hlim3.2 _ (lM (f := fun n : Nd κ => (n.k, n.np, n.su)) hn3)
   rw [List.length_map]
   omega
  ·have q := H3.setLi (ks := n3.su ++ [k]) hn3
   rw [List.map_append] at q
   refine .atW (fun p hp => .tail _ (.tail _ hp)) ⟨_, q.1, (hE.trans hE3).trans q.2, ?_, c2.trans b2, c3.trans b3, c4.trans b4⟩
   rw [abs_one (g := fun m => { m with su := n3.su ++ [k] }) (g' := fun m => (m.1, m.2.1, m.2.2 ++ [k])) H3.nk hn3 rfl, List.take_add_one, hp, List.foldl_append, <- hab, c1, hk3]
   rfl
 ·obtain ⟨st', H, hE, hab, b1, b2, b3⟩ := hI
  rw [List.take_length] at hab
  exact .nil ⟨rfl, L', by rw [List.append_nil]; exact List.Sublist.refl _, ⟨rfl, st', H, hE, hab, b1, b2, b3⟩, hE⟩
end
section
noncomputable def seqOf : Option Obj -> Option (Array Value)
 | some o => match o.data with
  | .seq xs _ => some xs
  | _ => none
 | none => none
theorem seqOf_at {F : Frag} {h : Heap} {D : Addr} {xs : Array Value} (hF : F.In h) (e : seqOf (F.lookup D) = some xs) : ∃ o n, h.get? D = some o /\ o.data = .seq xs n := by
 unfold seqOf at e
 split at e
 ·rename_i o ho
  split at e
  ·rename_i ys n hd
   cases e
   exact ⟨o, n, hF _ _ ho, hd⟩
  ·cases e
 ·cases e
theorem EvF.dict0 {c : Cfg} {l : Nat} {X : List Addr} {env : Env} {Γ : Gam} {pos : Pos} : EvF c l X env Γ (.Dict [] [] pos) (.dict []) := fun A s L G =>
 wpAny_Dict_empty ⟨.push', _, fresh_ge (Nat.le_refl _), [], 0, hP _ rfl, .nil, .nil, .nil⟩
theorem putF_same {x : Str} {d : PyData} {fs : List (Str × PyData)} : (x, d) ∈ putF x [d] fs := .head _
theorem putF_other {x y : Str} {d d' : PyData} {fs : List (Str × PyData)} (h : (y, d') ∈ fs) (hn : (y != x) = true := by decide) : (y, d') ∈ putF x [d] fs := .tail _ (List.mem_filter.mpr ⟨h, hn⟩)
theorem updA_second {D x : Addr} {d D1 D' : Desc} (hne : D ≠ x) : updA [(D, d), (x, D1)] x D' = [(D, d), (x, D')] := by simp [updA, hne]
variable {c : Cfg} {l : Nat} {mg mb : Str -> Option Value} {κ : Type} [DecidableEq κ]
noncomputable abbrev graphD (enc : κ -> PyData) (g : List (κ × List κ)) : PyData := .dict (g.map fun p => (enc p.1, .list (p.2.map enc)))
noncomputable def initP (g : List (κ × List κ)) : List (PN κ) := g.foldl (fun ns p => addP ns p.1 p.2) []
noncomputable def gsz (g : List (κ × List κ)) : Nat := (g.map fun p => p.2.length + 1).sum
theorem lim_init {g : List (κ × List κ)} : ∀ {N : Nat} {ns : List (PN κ)}, limP N ns -> limP (N + gsz g) (g.foldl (fun ns p => addP ns p.1 p.2) ns) := by
 induction g with
 | nil =>
  intro _ _ h
  exact h
 | cons p g ih =>
  intro N ns h
  have := ih (h.addP (k := p.1) (ps := p.2))
  rw [List.foldl_cons]
  refine this.mono ?_
  simp only [gsz, List.map_cons, List.sum_cons]
  omega
theorem gsz_take {g : List (κ × List κ)} {i : Nat} {p : κ × List κ} (h : g[i]? = some p) : gsz (g.take i) + p.2.length + 1 <= gsz g := by
 obtain ⟨hi, e⟩ := List.getElem?_eq_some_iff.mp h
 have e1 : gsz g = gsz (g.take i) + gsz (g.drop i) := by
  unfold gsz
  rw [<- List.sum_append, <- List.map_append, List.take_append_drop]
 rw [List.drop_eq_getElem_cons hi] at e1
 have : gsz (g[i] :: g.drop (i + 1)) = g[i].2.length + 1 + gsz (g.drop (i + 1)) := by simp only [gsz, List.map_cons, List.sum_cons]
 rw [this, e] at e1
 omega
noncomputable def InitQ (a : SA) (enc : κ -> PyData) (L0 : AObs) (g : List (κ × List κ)) (L' : AObs) : Prop := SI a enc L0 (initP g) none 0 0 L'
theorem bind_dflt {c : Cfg} {A : Around} {X : List Addr} {s : Shared} {vs : List Value} {d1 d2 : PyData} {pm code doc : Value} {D : Addr} (hh : ∃ o n, s.heap.get? D = some o /\ o.data = .seq #[.none] n) (r : RdL c.w X s.heap vs [d1, d2]) :
  wpAny c.M A.in1 (bindArgs (mfd (dm1 9 0) "TopologicalSorter.__init__" (.ref D) pm code doc) ⟨vs, []⟩) (fun binds s1 => Pst c s s1 /\ ∃ us, binds = (["self", "graph"] : List Str).zip us /\ RdL c.w X s1.heap us [d1, d2]) NoE s := by
 obtain ⟨o, n, ho, hd⟩ := hh
 obtain ⟨a, b, rfl⟩ : ∃ a b, vs = [a, b] := len_two r.length
 have hb : ∃ k, bindArgs (mfd (dm1 9 0) "TopologicalSorter.__init__" (.ref D) pm code doc) ⟨[a, b], []⟩ = seqItems? (.ref D) >>= k /\ k (some #[.none]) = pure [(("self" : Str), a), (("graph" : Str), b)] := ⟨_, rfl, rfl⟩
 obtain ⟨k, h1, h2⟩ := hb
 rw [h1]
 refine wB (wpAny_seqItems ho hd ?_)
 rw [h2]
 exact wP ⟨.refl, [a, b], rfl, r⟩
noncomputable def L00 (x dx D : Addr) : AObs := [(D, .data (.dict [])), (x, .inst 151 dx sN (putF "_nfinished" [.int 0] (putF "_npassedout" [.int 0] (putF "_ready_nodes" [.none] (putF "_node2info" [opq D] [])))) [])]
theorem srt0 {x dx D : Addr} {enc : κ -> PyData} (hne : D ≠ x) : Srt (sa1 x dx D) enc ⟨none, 0, 0, []⟩ (L00 x dx D) :=
 ⟨⟨_, m1, putF_other (putF_other (putF_other putF_same)), putF_other (putF_other putF_same), putF_other putF_same, putF_same⟩, m0, (fun p hp => nomatch hp), (fun n hn => nomatch hn), .nil, by
   show [x, D].Nodup
   simp [hne.symm], by simp [L00, hne]⟩
theorem c_tinit (W : Wd1 c mg mb) (hF : (F1 c.w).In c.base) (hl : l < 48) (dk : DKey c.w κ) {x dx : Addr} (g : List (κ × List κ)) (hz : gsz g <= 10 ^ 5) :
  FnA c l 87 [opq x, graphD dk.enc g] [(x, .inst 151 dx [] [] [])] (fun d L' => d = .none /\ ∃ N2, InitQ (sa1 x dx N2) dk.enc [(x, .inst 151 dx [] [] [])] g L') := by
 obtain ⟨pm, code, doc, Fm⟩ := m_init hF W.lim
 rw [show (fdOfO ((F1 c.w).lookup 87)).defaults = .ref 80 by kernel_rfl] at Fm
 refine fnA_ok (ps := ["self", "graph"]) (es := [opq x, graphD dk.enc g]) Fm (show fnOk (dm1 9 0).scope _ = true by decide +kernel) (by omega) rfl (fun A X s vs B r => bind_dflt (seqOf_at (hF.keeps B.stays) (show seqOf ((F1 c.w).lookup 80) = some #[.none] by kernel_rfl)) r) fun A s0 ad X0 hX hA => ?_
 have hF' : (F1 c.w).In (c.push ad).base := hF
 have e0 : ∀ (K : Act) (L : AObs), delA K.c L = delA K.c L ++ ([] : Del K) := fun K L => (List.append_nil _).symm
 rw [e0]
 refine Ex.seqX (Ex1.setFF (F := F1 c.w) (d := .dict []) (C := 151) (dx := dx) (ns := []) (fs := []) (gs := []) (a := x) hF' (fun X => .dict0) (fun D => .n m0) (.head _) (by kernel_rfl) (by decide)) fun o ho => ?_
 obtain ⟨D, hD, rfl⟩ := ho
 refine ⟨_, _, _, rfl, ?_⟩
 have hne : D ≠ x := fun e => hD _ (.head _) e.symm
 rw [updA_one]
 refine Ex.seq (Ex1.setF (F := F1 c.w) (d := .none) (C := 151) (dx := dx) (a := x) hF' (.of fun X => .none) (.n m0) rfl (.tail _ (.head _)) (by kernel_rfl) (by decide)) ?_
 rw [updA_second hne]
 refine Ex.seq (Ex1.setF (F := F1 c.w) (d := .int 0) (C := 151) (dx := dx) (a := x) hF' (.of fun X => .int) (.n m0) rfl (.tail _ (.head _)) (by kernel_rfl) (by decide)) ?_
 rw [updA_second hne]
 refine Ex.seq (Ex1.setF (F := F1 c.w) (d := .int 0) (C := 151) (dx := dx) (a := x) hF' (.of fun X => .int) (.n m0) rfl (.tail _ (.head _)) (by kernel_rfl) (by decide)) ?_
 rw [updA_second hne]
 show Ex _ _ _ _ _ _ (delA _ (L00 x dx D) ++ []) _ _
 refine Ex.seqL (Γ0 := [("self", opq x), ("graph", graphD dk.enc g)]) (T := []) (P := SI (sa1 x dx D) dk.enc [(x, .inst 151 dx [] [] [])] (initP g) none 0 0) (Ex1.ite (EtS.isNotNone (.n m1)) (fun _ => ?_) fun h => by cases h) fun L' hI => ?_
 ·refine Ex.seqL (Ex1.forPL (L := g) (g1 := dk.enc) (g2 := fun ps => .list (ps.map dk.enc)) (Γ0 := [("self", opq x), ("graph", graphD dk.enc g)]) (T := []) (fun i => SI (sa1 x dx D) dk.enc [(x, .inst 151 dx [] [] [])] (initP (g.take i)) none 0 0)
   (.of fun X => ?_) ⟨⟨none, 0, 0, []⟩, srt0 hne, ext_app (M := [_]), rfl, rfl, rfl, rfl⟩ (fun p h => h) hX (fun i k ps L1 r hd hI => ?_) dk.inj (inj_list dk.inj)) fun L' hI => .at (by rw [List.take_length] at hI; exact hI)
  ·refine EvI.as (EvI.ofItems (c := c.push ad) dk (W.push ad).sys (ks := g.map (·.1)) (ds := g.map fun p => .list (p.2.map dk.enc)) (by simp) (Ev.as (Ev.n m1) ?_)) ?_
   ·congr 1
    rw [List.map_map, List.zip_map']
    rfl
   ·unfold itemD
    rw [List.zip_map', List.map_map]
    rfl
  ·obtain ⟨st', H, hE, hab, b1, b2, b3⟩ := hI
   have hsz : gsz (g.take i) + ps.length + 1 <= gsz g := gsz_take hd
   have hlim : limP (gsz (g.take i)) st'.abs := by
    rw [hab]
    have := lim_init (g := g.take i) (N := 0) (ns := []) ⟨Nat.le_refl _, fun _ h => nomatch h⟩
    rwa [Nat.zero_add] at this
   obtain ⟨fs', t1, t2, _, _, _⟩ := H.self
   refine Ex.seqX (Ex1.exprX (EvX.methS (F := F1 c.w) hF' (.n m2) t1 (by kernel_rfl) (by decide +kernel) (c_add (W.push ad) hF' (show l + 1 < 52 by omega) dk H b1 k ps hlim (by omega)) fun q Δ => .oneStar (.n m1) (.n m0) (dk.flat k) rfl (by rw [List.length_map]; omega)) fun d L2 h => h.1) ?_
   rintro _ ⟨d, L2, ⟨rfl, st2, H2, hE2, hab2, c1, c2, c3⟩, rfl⟩
   refine ⟨_, _, _, rfl, .atW (fun p hp => .tail _ (.tail _ hp)) ⟨st2, H2, hE.trans hE2, ?_, c1.trans b1, c2.trans b2, c3.trans b3⟩⟩
   rw [hab2, hab, List.take_add_one, hd]
   unfold initP
   rw [List.foldl_append]
   rfl
 ·exact .nil ⟨rfl, L', by rw [List.append_nil]; exact List.Sublist.refl _, ⟨rfl, D, hI⟩, by obtain ⟨_, _, hE, _⟩ := hI; exact hE⟩
end
section
noncomputable def intOf : Option (Option Value) -> Option Int
 | some (some (.int i _)) => some i
 | _ => none
theorem intOf_at {o : Option (Option Value)} {i : Int} (h : intOf o = some i) : ∃ t, o = some (some (.int i t)) := by
 unfold intOf at h
 split at h
 ·cases h; exact ⟨_, rfl⟩
 ·cases h
variable {c : Cfg} {l : Nat} {mg mb : Str -> Option Value} {κ : Type} [DecidableEq κ]
theorem g_out (W : Wd1 c mg mb) (hF : (F1 c.w).In c.base) : ∃ t, Glb c "_NODE_OUT" (.int (-1) t) := by
 obtain ⟨t, e⟩ := intOf_at (show intOf (nsIn (F1 c.w) mainGlobals "_NODE_OUT") = some (-1) by kernel_rfl)
 exact ⟨t, glb_g W.g (mg_of hF W.g e)⟩
theorem g_done (W : Wd1 c mg mb) (hF : (F1 c.w).In c.base) : ∃ t, Glb c "_NODE_DONE" (.int (-2) t) := by
 obtain ⟨t, e⟩ := intOf_at (show intOf (nsIn (F1 c.w) mainGlobals "_NODE_DONE") = some (-2) by kernel_rfl)
 exact ⟨t, glb_g W.g (mg_of hF W.g e)⟩
theorem g_tuple (W : Wd1 c mg mb) : Glb c "tuple" (.type "tuple") := W.blt (by kernel_rfl) (by kernel_rfl)
theorem kget_at {st : St κ} {k : κ} (hk : k ∈ st.keys) (hn : st.keys.Nodup) : ∃ n ∈ st.nds, n.k = k /\ kget (st.nds.map fun n => (n.k, opq n.x)) k = some (opq n.x) := by
 rcases kget_nodes (st := st) (k := k) with ⟨h, _⟩ | ⟨n, h1, h2, h3⟩
 ·exact absurd hk h
 ·refine ⟨n, h1, h2, ?_⟩
  cases e : kget (st.nds.map fun n => (n.k, opq n.x)) k with
  | none => rw [e] at h3; cases h3
  | some d => rw [e] at h3; exact congrArg some h3
theorem up_keys {ns : List (PN κ)} {k : κ} {g : PN κ -> PN κ} (hg : ∀ n, (g n).1 = n.1) : (upP ns k g).map (·.1) = ns.map (·.1) := by
 unfold upP
 rw [List.map_map]
 refine List.map_congr_left fun n _ => ?_
 simp only [Function.comp]
 split
 ·exact hg n
 ·rfl
noncomputable def ReadyQ (a : SA) (enc : κ -> PyData) (st : St κ) (RL : Addr) (ks : List κ) (L : AObs) : PyData -> AObs -> Prop := fun d L' => d = .tuple (ks.map enc) /\ SI a enc L (outP ks st.abs) (some (RL, [])) (st.po + ks.length) st.nf L'
theorem out_keys : ∀ {ks : List κ} {ns : List (PN κ)}, (outP ks ns).map (·.1) = ns.map (·.1) := fun {ks} => by
 induction ks with
 | nil => intro ns; rfl
 | cons k ks ih => intro ns; exact ih.trans (up_keys fun n => rfl)
theorem abs_ks {st : St κ} : st.abs.map (·.1) = st.keys := by
 unfold St.abs St.keys
 rw [List.map_map]; rfl
theorem c_ready (W : Wd1 c mg mb) (hF : (F1 c.w).In c.base) (hl : l < 55) (dk : DKey c.w κ) {S Sx N2 RL : Addr} {st : St κ} {L : AObs} {ks : List κ} (h : Srt (sa1 S Sx N2) dk.enc st L) (hr : st.rn = some (RL, ks)) (hks : ∀ k ∈ ks, k ∈ st.keys) (hz : ks.length <= 10 ^ 5) :
  FnA c l 113 [opq S] L (ReadyQ (sa1 S Sx N2) dk.enc st RL ks L) := by
 obtain ⟨pm, code, doc, Fm⟩ := m_ready hF W.lim
 refine fnA_ok (ps := ["self"]) Fm (show fnOk (dm1 9 4).scope _ = true by decide +kernel) (by omega) rfl (bindOk rfl (bind1 fun a => by rfl)) fun A s0 ad X0 hX hA => ?_
 have hF' : (F1 c.w).In (c.push ad).base := hF
 obtain ⟨t, hout⟩ := g_out (W.push ad) hF'
 obtain ⟨fs, s1, s2, s3, s4, s5⟩ := h.self
 have s3' : (("_ready_nodes", opq RL) : Str × PyData) ∈ fs := by rw [hr] at s3; exact s3
 have hrl := h.rdy _ hr
 have e0 : ∀ (K : Act) (L : AObs), delA K.c L = delA K.c L ++ ([] : Del K) := fun K L => (List.append_nil _).symm
 rw [e0]
 refine Ex.seq (Γ1 := [("self", opq S)]) (R1 := []) (Δ1 := delA _ L ++ []) (Ex1.ite (EtS.isNone (EvS.fld (F := F1 c.w) hF' (.n m0) s1 s3' (by kernel_rfl))) (fun h => by cases h) fun _ => .nil rfl) ?_
 have hz' : (ks.map dk.enc).length <= 10 ^ 6 := by rw [List.length_map]; omega
 have hsafe : safeD (.tuple (ks.map dk.enc)) = true := by
  show (ks.map dk.enc).all flat = true
  rw [List.all_map]
  exact List.all_eq_true.mpr fun k _ => dk.flat k
 refine Ex.new (EvS.callV (.ofT (g_tuple (W.push ad)) (.tupleL hz')) (EvS.fld (F := F1 c.w) hF' (.n m0) s1 s3' (by kernel_rfl)) hrl hsafe) ?_
 refine Ex.new (EvS.fld (F := F1 c.w) hF' (.n m1) s1 s2 (by kernel_rfl)) ?_
 refine Ex.seqL (Ex1.forL (ks := ks) (g := dk.enc) (Γ0 := [("n2i", opq N2), ("result", .tuple (ks.map dk.enc)), ("self", opq S)]) (T := []) (fun i => SI (sa1 S Sx N2) dk.enc L (outP (ks.take i) st.abs) (some (RL, ks)) st.po st.nf)
   (.of fun X => .ofTuple (.n m1)) ⟨st, h, .refl, rfl, hr, rfl, rfl⟩ (fun p h => h) hX (fun i p L1 r hp hI => ?_)) fun L1 hI => ?_
 ·obtain ⟨st', H, hE, hab, b1, b2, b3⟩ := hI
  have hk : st'.keys = st.keys := by rw [<- abs_ks, <- abs_ks, hab, out_keys]
  have hpk : p ∈ st'.keys := hk ▸ hks p (lG hp)
  obtain ⟨n, hn, hnk, hg⟩ := kget_at hpk H.nk
  obtain ⟨gs, q1, q2, q3, q4⟩ := (H.nd n hn).at_
  refine Ex.seq (Ex1.setG (F := F1 c.w) (p := 56) (i := 1) (d := .int (-1)) hF' (.of fun X => .g hout fun h => .int _ _) (EvS.dsub (κ := κ) dk (.n m1) (.n m0) H.map hg) rfl q1 (by kernel_rfl)) ?_
  obtain ⟨H2, hE2⟩ := H.setNp (v := -1) hn (putG_other q2 (by decide)) putG_same (putG_other q4 (by decide))
  refine .atW (fun p hp => .tail _ hp) ⟨_, H2, hE.trans hE2, ?_, b1, b2, b3⟩
  rw [abs_upK (g' := npP (-1)) fun _ => rfl, hnk, hab, List.take_add_one, hp]
  unfold outP
  rw [List.foldl_append]
  rfl
 ·obtain ⟨st1, H1, hE1, hab, b1, b2, b3⟩ := hI
  rw [List.take_length] at hab
  obtain ⟨fs1, t1, t2, t3, t4, t5⟩ := H1.self
  have t3' : (("_ready_nodes", opq RL) : Str × PyData) ∈ fs1 := by rw [b1] at t3; exact t3
  refine Ex.seq (Ex1.clearF (EvS.fld (F := F1 c.w) hF' (.n m2) t1 t3' (by kernel_rfl)) (H1.rdy _ b1) hz') ?_
  obtain ⟨H2, hE2⟩ := H1.setR (ks' := []) b1
  obtain ⟨fs2, u1, u2, u3, u4, u5⟩ := H2.self
  have hlen : Fn (c.push ad) (l + 1) "len" [.tuple (ks.map dk.enc)] (.int ks.length) := by
   have := Fn.of (g_len (W.push ad)) (CallOk.lenT (l := l + 1) (ds := ks.map dk.enc) (by rw [List.length_map]; omega))
   rw [List.length_map] at this
   exact this
  refine Ex.seq (Ex1.augF (F := F1 c.w) (d1 := .int st1.po) (d2 := .int ks.length) (d := .int (st1.po + ks.length)) hF' (.n m2) (.call1 hlen (.n m1)) u1 u4 .iaddI rfl rfl (by kernel_rfl) (by decide)) ?_
  obtain ⟨H3, hE3⟩ := H2.setS (po := st1.po + ks.length) (nf := st1.nf) (fs' := putF "_npassedout" [.int (st1.po + ks.length)] fs2) (putF_other u2) (putF_other u3) putF_same (putF_other u5)
  exact .ret (.n m1) trivial ⟨_, List.Sublist.refl _, hsafe, _, by rw [List.append_nil]; exact List.Sublist.refl _, ⟨rfl, _, H3, (hE1.trans hE2).trans hE3, hab, rfl, congrArg (· + (ks.length : Int)) b2, b3⟩, (hE1.trans hE2).trans hE3⟩
end
section
variable {c : Cfg} {l : Nat} {mg mb : Str -> Option Value}
theorem Wd.callV {p : Program} {loose : List Str} {mg mb : Str -> Option Value} (W : Wd c p loose mg mb) (d : DefRec) (hd : d ∈ recsOf p) {ι : Type} {ds : ι -> List PyData} {r : ι -> PyData} (ps : List Str) (hok : fnOk d.scope ps = true) (hlen : ∀ i, ps.length = (ds i).length) (hl : l < 60)
  (hbind : ∀ (pm code doc : Value) (vs : List Value), vs.length = ps.length -> bindArgs (fdOf d pm code doc) ⟨vs, []⟩ = pure (ps.zip vs))
  (h : ∀ (i : ι) (A : Around) (s0 : Shared) (a L : Addr) (X : List Addr) (pm code doc : Value), X0ok (fnAct c l (fdOf d pm code doc) L a X) s0 -> (∃ outer, A.frames = some ((fnAct c l (fdOf d pm code doc) L a X).env :: outer)) -> Ex (fnAct c l (fdOf d pm code doc) L a X) A s0 NoE (ps.zip (ds i)) [] [] d.body fun o => o = .ret (r i) \/ (r i = .none /\ ∃ Γ R Δ, o = .next Γ R Δ)) : ∃ v, Glb c d.name v /\ Keep0 c v /\ ∀ i, CallOk c l v (ds i) (r i) := by
 obtain ⟨a, pm, code, doc, hm, F⟩ := W.fn d hd
 obtain ⟨o, ho, hdat⟩ := F.at_
 exact ⟨.ref a, glb_g W.g hm, keep_fn ho hdat, fun i => fn_ok F hok (hlen i) hl (fun vs hv => hbind pm code doc vs hv) fun A s0 L X hX hA => h i A s0 a L X pm code doc hX hA⟩
theorem c_fspathV (W : Wd1 c mg mb) (hl : l < 60) : ∃ v, Glb c "fspath" v /\ ∀ x : Str, CallOk c l v [.str x] (.str x) := by
 obtain ⟨v, g, _, h⟩ := Wd.callV (l := l) W (dr1 18) (mem_at (i := 5) (by kernel_rfl)) (ι := Str) (ds := fun x => [.str x]) (r := .str) ["path"] (by decide +kernel) (fun _ => rfl) hl (fun pm code doc => bind1 fun a => by rfl) fun x A s0 a L X pm code doc hX hA => by
  refine Ex.new (.of fun X => .callF (.ofT (g_type (W.push _)) .typeS) (.cons (.n m0) .nil)) ?_
  refine Ex.cons (fun o => o = .ret (.str x)) (Ex1.ite (b := true) (EtS.of fun X => Et.subStr (.n m0) (g_issub (W.push _)) (g_str (W.push _)) (g_bytes (W.push _))) (fun _ => Ex.ret (.of fun X => .n m1) rfl) (fun h => by cases h)) ?_ ?_ ?_ ?_
  ·intro _ _ _ h; cases h
  ·intro _ _ _ h; cases h
  ·intro _ _ _ h; cases h
  ·intro d h; exact .inl h
 exact ⟨v, g, h⟩
theorem pick_take {α : Type} (xs : List α) (i : Nat) (hi : i <= xs.length) : pickG xs none (some (i : Int)) none = xs.take i := by
 have e1 : sliceBounds none (some (i : Int)) none xs.length = (0, (i : Int), 1) := by
  simp only [sliceBounds, Option.getD_none]
  rw [if_neg (show ¬ ((i : Int) < 0) from by omega)]
  simp
  omega
 unfold pickG
 rw [e1]
 have e2 : sliceRange 0 (i : Int) 1 = List.range i := by
  unfold sliceRange
  simp only [show ((1 : Int) > 0) = True from by simp, if_true]
  by_cases h : (0 : Int) < i
  ·rw [if_pos h]
   have : (((i : Int) - 0 + 1 - 1) / 1).toNat = i := by simp
   rw [this]
   refine List.ext_getElem (by simp) fun n h1 h2 => by simp
  ·have : i = 0 := by omega
   subst this
   simp
 rw [e2]
 have key : ∀ (i : Nat) (xs : List α), i <= xs.length -> (List.range i).filterMap (xs[·]?) = xs.take i := by
  intro i
  induction i with
  | zero => intro xs _; rfl
  | succ i ih =>
   intro xs h
   rw [List.range_succ, List.filterMap_append, ih xs (by omega), List.take_add_one]
   congr 1
 exact key i xs hi
noncomputable def partsF (p : Str) : List Str := (Txt.split p "/").filter fun c => ((c.length : Int) != 0) && decide (c ≠ ".")
structure PathOk (p : Str) : Prop where
 abs : Txt.startswith p "/" = true
 len : p.length <= 500
 spl : (Builtin.Str.partsBetween p (Builtin.Str.occurrences p "/" 0 p.length (p.length + 1)) ("/" : Str).length).length <= 1000
 few : (Txt.split p "/").length <= 1000
 each : ∀ c ∈ Txt.split p "/", c.length <= 1000
theorem g_map (W : Wd1 c mg mb) : Glb c "map" (.type "map") := W.blt (by kernel_rfl) (by kernel_rfl)
theorem g_min (W : Wd1 c mg mb) : Glb c "min" (.builtin "min") := W.blt (by kernel_rfl) (by kernel_rfl)
theorem g_max (W : Wd1 c mg mb) : Glb c "max" (.builtin "max") := W.blt (by kernel_rfl) (by kernel_rfl)
inductive ComO (K : Act) (s : List Str) : Out K -> Prop
 | mk (Γ : Gam) (h1 : (("common", sL s) : Str × PyData) ∈ Γ) (h2 : (("isabs", PyData.bool true) : Str × PyData) ∈ Γ) (h3 : (("sep", PyData.str "/") : Str × PyData) ∈ Γ) (h4 : offB ["prefix"] (Γ.map (·.1)) = true) : ComO K s (.next Γ [] [])
noncomputable def comG (s1 s2 : List Str) : Gam := [("common", sL s1), ("s2", sL s2), ("s1", sL s1), ("isabs", .bool true), ("sep", .str "/")]
inductive ComB (K : Act) (s1 s2 : List Str) (r : Res K.c) (a : Nat) (b c : Str) : Out K -> Prop
 | nx (e : b = c) : ComB K s1 s2 r a b c (.next (("c", .str b) :: ("i", .int (a : Nat)) :: comG s1 s2) [] [r])
 | br (e : b ≠ c) : ComB K s1 s2 r a b c (.brk [("common", sL (s1.take a)), ("isabs", .bool true), ("sep", .str "/")] [] [r])
theorem c_common (W : Wd1 c mg mb) (hl : l < 57) {p q : Str} (hp : PathOk p) (hq : PathOk q) (hj : JoinOk "/" (lcp (partsF p) (partsF q)) = true) (hz : (Txt.join "/" (lcp (partsF p) (partsF q))).length <= 500) :
  Fn c l "commonpath" [.list [.str p, .str q]] (.str (("/" : Str) ++ Txt.join "/" (lcp (partsF p) (partsF q)))) := by
 refine W.call (dr1 24) (mem_at (i := 9) (by kernel_rfl)) ["paths"] (by decide +kernel) rfl (by omega) (fun pm code doc => bind1 fun a => by rfl) fun A s0 fa ad X pm code doc hX hA => ?_
 obtain ⟨fv, gf, hf⟩ := c_fspathV (l := l + 1 + 1) (W.push ad) (by omega)
 have hpq : ∀ x ∈ [p, q], PathOk x := fun x hx => by
  rcases lC hx with rfl | hx
  ·exact hp
  ·rw [lS hx]; exact hq
 refine Ex.set (Γ1 := []) (.of fun X => Ev.tupleMap (xs := [p, q]) (g_tuple (W.push ad)) (g_map (W.push ad)) (show l + 1 < 60 by omega) (by simp) gf (fun x _ => hf x) (.n m0)) ?_
 refine Ex.seq (Γ1 := _) (R1 := []) (Δ1 := []) (Ex1.ite (b := false) (EtS.of fun X => .not (.val (.n m0) (.tuple (by simp)))) (fun h => by cases h) fun _ => .nil rfl) ?_
 refine Ex.seq (Γ1 := [("curdir", .str "."), ("sep", .str "/"), ("paths", .tuple [.str p, .str q])]) (R1 := []) (Δ1 := []) (Ex1.ite (b := false) (EtS.of fun X => Et.isBytes (.itemT (.n m0) .int (by decide) (by decide) rfl) (g_isinst (W.push ad)) (g_bytes (W.push ad))) (fun h => by cases h) fun _ => Ex.new (.of fun X => .str) (Ex.new (.of fun X => .str) (.nil rfl))) ?_
 refine Ex.cons (fun o => o = .ret (.str (("/" : Str) ++ Txt.join "/" (lcp (partsF p) (partsF q))))) (Ex1.tryNo ?_) (fun _ _ _ h => by cases h) (fun _ _ _ h => by cases h) (fun _ _ _ h => by cases h) fun d h => .inl h
 refine Ex.newC hX (fun X => (EvC.nm (Γc := [("sep", .str "/")]) (L := [p, q]) (g := .str) (fun x => sL (Txt.split x "/")) inj_str (.ofTuple (.n m2)) (.cons m1 .nil) (fun cs C XL x hx => .splitS (.n m0) (.n m1) (by decide) (by have := (hpq x hx).len; omega) (by have := (hpq x hx).spl; omega)) (by simp))) ?_
 refine Ex.seq (Γ1 := [("isabs", .bool true), ("split_paths", .list [sL (Txt.split p "/"), sL (Txt.split q "/")]), ("curdir", .str "."), ("sep", .str "/"), ("paths", .tuple [.str p, .str q])]) (R1 := []) (Δ1 := []) (Ex1.tryNo (Ex.unpackB (fun X => EvB1.comp (Γc := [("sep", .str "/")]) (ds := [.str p, .str q]) (by simp) (.ofTuple (.n m3)) (.cons m2 .nil) (fun cs C XL d hd => ?_)) (.nil rfl))) ?_
 ·rcases lC hd with rfl | hd
  ·exact (Ev.startsW (.n m0) (.n m1)).as (by rw [hp.abs])
  ·rw [lS hd]
   exact (Ev.startsW (.n m0) (.n m1)).as (by rw [hq.abs])
 refine Ex.setC (Γ1 := [("isabs", .bool true), ("curdir", .str "."), ("sep", .str "/"), ("paths", .tuple [.str p, .str q])]) hX (fun X => (EvC.nm (Γc := [("curdir", .str ".")]) (L := [Txt.split p "/", Txt.split q "/"]) (g := sL) (fun s => sL (s.filter fun c => ((c.length : Int) != 0) && decide (c ≠ "."))) inj_sL (.ofList (.n m1)) (.cons m2 .nil)
  (fun cs C XL s hs => (EvC.nmIf (Γc := [("curdir", .str ".")]) (L := s) (g := .str) (fun c => ((c.length : Int) != 0) && decide (c ≠ ".")) .str inj_str (.ofList (.n m0)) (.cons m1 .nil) (fun cs C XL x hx => .and2 (.val (.n m0) (.str ?_)) fun _ => .cmp (.n m0) (.n m1) .neS) (fun cs C XL x hx _ => .n m0) ?_).ev) (by simp))) ?_
 ·rcases lC hs with rfl | hs
  ·have := hp.each x hx; omega
  ·rw [lS hs] at hx; have := hq.each x hx; omega
 ·rcases lC hs with rfl | hs
  ·have := hp.few; omega
  ·rw [lS hs]; have := hq.few; omega
 refine Ex.new (.of fun X => .callF (.of (g_min (W.push ad)) (.min2 (xs := partsF p) (ys := partsF q))) (.cons (.n m0) .nil)) ?_
 refine Ex.new (.of fun X => .callF (.of (g_max (W.push ad)) (.max2 (xs := partsF p) (ys := partsF q))) (.cons (.n m1) .nil)) ?_
 refine Ex.new (.of fun X => .n m1) ?_
 have hS := @mm_len (partsF p) (partsF q)
 have hlc := lcp_mm (partsF p) (partsF q)
 have hlen : (minL (partsF p) (partsF q)).length <= 1000 := by
  unfold minL
  split
  ·exact Nat.le_trans (List.length_filter_le ..) hq.few
  ·exact Nat.le_trans (List.length_filter_le ..) hp.few
 show Ex _ _ _ _ [("common", sL (minL (partsF p) (partsF q))), ("s2", sL (maxL (partsF p) (partsF q))), ("s1", sL (minL (partsF p) (partsF q))), ("split_paths", _), ("isabs", .bool true), ("curdir", .str "."), ("sep", .str "/"), ("paths", _)] _ _ _ _
 generalize minL (partsF p) (partsF q) = s1 at hS hlc hlen ⊢
 generalize maxL (partsF p) (partsF q) = s2 at hS hlc ⊢
 refine Ex.seqX (O1 := ComO _ (lcp s1 s2)) (Ex1.forP (L := enumL s1) (g1 := fun (i : Nat) => .int (i : Nat)) (g2 := .str)
  (fun i Γ R Δ => Γ = comG s1 s2 /\ R = ([] : Ros) /\ Δ = [] /\ s1.take i = s2.take i) _ (.of fun X => .enum (g_enum (W.push ad)) (.n m2)) (Γ' := comG s1 s2) ⟨rfl, rfl, rfl, rfl⟩ (sub_cons m0 (sub_cons m1 (sub_cons m2 (sub_cons m4 (sub_cons m6 sub_nil))))) (fun p h => h) (List.Sublist.refl _) hX ?_ ?_ ?_ inj_nat inj_str) ?_
 ·rintro i _ _ _ ⟨rfl, rfl, rfl, _⟩
  exact ⟨off_of (by kernel_rfl), offR_of (by kernel_rfl)⟩
 ·rintro i a b _ _ _ r hd ⟨rfl, rfl, rfl, hi⟩
  obtain ⟨rfl, hb⟩ := enumL_get hd
  have hlt : a < s1.length := (List.getElem?_eq_some_iff.mp hb).1
  have hlt2 := hS hi hlt
  have hc2 : s2[a]? = some s2[a] := List.getElem?_eq_getElem hlt2
  generalize s2[a] = c2 at hc2
  refine Ex.cons (ComB _ s1 s2 r a b c2)
   (Ex1.ite (b := decide (b ≠ c2)) (EtS.of fun X => .cmp (.n m0) (.item (i := (a : Nat)) (.n m3) (.n m1) (by omega) (by omega) (by rw [Int.toNat_natCast, List.getElem?_map, hc2]; rfl)) .neS) (fun h => ?_) fun h => ?_) (fun _ _ _ h => ?_) (fun _ _ _ h => ?_) (fun _ _ _ h => nomatch h) (fun _ h => nomatch h)
  ·refine Ex.set (Γ1 := [("c", .str b), ("i", .int (a : Nat)), ("s2", sL s2), ("s1", sL s1), ("isabs", .bool true), ("sep", .str "/")]) (.of fun X => (Ev.slice (lo := none) (hi := some (a : Int)) (st := none) (.n m4) .none (.some (Ev.n m1)) .none (by simp) (by simp; omega)).as (by rw [pick_take _ _ (by simp; omega), <- List.map_take])) ?_
   exact Ex.weak (sub_cons m0 (sub_cons m5 (sub_cons m6 sub_nil))) (fun p h => h) (List.Sublist.refl _) (Ex.brk (.br (of_decide_eq_true h)))
  ·exact .nil (.nx (Classical.not_not.mp (of_decide_eq_false h)))
  ·cases h with
   | nx e =>
    refine Ex.weak (Γ' := comG s1 s2) (fun p hp => .tail _ (.tail _ hp)) (fun p h => h) (List.Sublist.refl _) (.nil (.inl ⟨_, _, _, .inl rfl, rfl, rfl, rfl, ?_⟩))
    rw [List.take_add_one, List.take_add_one, hi, hb, hc2, e]
  ·cases h with
   | br e =>
    refine .inr (.inl ⟨_, _, _, rfl, .mk _ ?_ m1 m2 (by kernel_rfl)⟩)
    rw [lcp_at a s1 s2 hi hb hc2 e]
    exact m0
 ·rintro _ _ _ ⟨rfl, rfl, rfl, hi⟩
  rw [enumL_len] at hi
  refine .mk _ ?_ m3 m4 (by kernel_rfl)
  rw [lcp_all _ _ hi]
  exact m0
 ·rintro _ ⟨Γ, g1, g2, g3, g4⟩
  refine ⟨_, _, _, rfl, ?_⟩
  rw [hlc] at g1
  refine Ex.new (.of fun X => .ifexp (b := true) (.val (.n g2) .bool) (fun _ => .n g3) (fun h => by cases h)) ?_ (by kernel_rfl) g4
  exact Ex.ret (.of fun X => .binop (.n m0) (.joinS (.n (.tail _ g3)) (.n (.tail _ g1)) hj) (.addS (by
   have : (("/" : Str)).length = 1 := by decide
   omega))) rfl
end
section
variable {c : Cfg} {l : Nat} {mg mb : Str -> Option Value}
noncomputable def deepF (p : Str) : Int := if decide (p = "/") = true then 0 else (Txt.count p "/")
theorem c_deep (W : Wd1 c mg mb) (hl : l < 60) (p : Str) : Fn c l "_law_deep" [.str p] (.int (deepF p)) := by
 refine W.call (dr1 29) (mem_at (i := 13) (by kernel_rfl)) ["path"] (by decide +kernel) rfl hl (fun pm code doc => bind1 fun a => by rfl) fun A s0 a L X pm code doc hX hA => ?_
 exact Ex.ret (.of fun X => Ev.iteI (b := decide (p = "/")) (.cmp (.n m0) .str .eqS) .int (.countS (.n m0) .str)) (.inl rfl)
noncomputable def comF (p q : Str) : Str := ("/" : Str) ++ Txt.join "/" (lcp (partsF p) (partsF q))
noncomputable def stepsF (p q : Str) : Int := deepF p + deepF q - 2 * deepF (comF p q)
theorem c_steps (W : Wd1 c mg mb) (hl : l < 56) {p q : Str} (hp : PathOk p) (hq : PathOk q) (hj : JoinOk "/" (lcp (partsF p) (partsF q)) = true) (hz : (Txt.join "/" (lcp (partsF p) (partsF q))).length <= 500) :
  Fn c l "_law_steps" [.str p, .str q] (.int (stepsF p q)) := by
 refine W.call (dr1 30) (mem_at (i := 14) (by kernel_rfl)) ["one", "other"] (by decide +kernel) rfl (by omega) (fun pm code doc => bind2 fun a b => by rfl) fun A s0 a L X pm code doc hX hA => ?_
 refine Ex.ret (.of fun X => .binop (.binop (.callF (c_deep (W.push _) (show l + 1 < 60 by omega) p) (.cons (.n m0) .nil)) (.callF (c_deep (W.push _) (show l + 1 < 60 by omega) q) (.cons (.n m1) .nil)) .add)
  (.binop .int (.callF (c_deep (W.push _) (show l + 1 < 60 by omega) (comF p q)) (.cons (.callF (c_common (W.push _) (show l + 1 < 57 by omega) hp hq hj hz) (.cons (.list (.cons (.n m0) (.cons (.n m1) .nil)) (by simp)) .nil)) .nil)) (.mul (PySem.IntMulOk.of_left (by decide)))) .sub) (.inl rfl)
end
section
structure Sim (κ : Type) where
 ns : List (PN κ)
 rd : List κ
 po : Int
 nf : Int
 free : List κ
 num : Int
 order : List κ
section
variable {κ : Type} [DecidableEq κ]
noncomputable def Sim.all (s : Sim κ) : List κ := s.free ++ s.rd
noncomputable def Sim.act (s : Sim κ) : Bool := decide (s.nf < s.po) || !s.rd.isEmpty
noncomputable def Sim.cut (s : Sim κ) : Option κ := s.all[(s.num.fmod s.all.length).toNat]?
noncomputable def Sim.step (s : Sim κ) : Sim κ := match s.cut with
 | none => s
 | some k => ⟨(doneP [k] (outP s.rd s.ns, [])).1, (doneP [k] (outP s.rd s.ns, [])).2, s.po + s.rd.length, s.nf + 1, s.all.erase k, s.num.fdiv 3, s.order ++ [k]⟩
noncomputable def Sim.run : Nat -> Sim κ -> Sim κ
 | 0, s => s
 | n + 1, s => if s.act then Sim.run n s.step else s
structure SimPre (keys : List κ) (N M : Nat) (s : Sim κ) : Prop where
 ne : s.act = true -> s.all ≠ []
 key : ∀ k ∈ s.all, k ∈ keys
 out : ∀ k ∈ s.all, npOf (outP s.rd s.ns) k = -1
 ks : s.ns.map (·.1) = keys
 suk : ∀ n ∈ s.ns, ∀ x ∈ n.2.2, x ∈ keys
 sul : ∀ n ∈ s.ns, n.2.2.length <= N
 all : s.all.length <= N
 ord : s.act = true -> s.order.length < M
end
end
section
variable {c : Cfg} {l : Nat} {mg mb : Str -> Option Value} {κ : Type} [DecidableEq κ]
theorem EvS.as {K : Act} {A : Around} {s0 : Shared} {E : Err} {Γ : Gam} {R : Ros} {Δ : Del K} {e : Expr} {d d' : PyData} (h : EvS K A s0 E Γ R Δ e d) (e' : d = d') : EvS K A s0 E Γ R Δ e d' := e' ▸ h
theorem c_act (W : Wd1 c mg mb) (hF : (F1 c.w).In c.base) (hl : l < 58) (dk : DKey c.w κ) {S Sx N2 RL : Addr} {st : St κ} {L : AObs} {ks : List κ} (h : Srt (sa1 S Sx N2) dk.enc st L) (hr : st.rn = some (RL, ks)) (hz : ks.length <= 10 ^ 6) :
  FnA c l 120 [opq S] L (fun d L' => d = .bool (decide (st.nf < st.po) || !ks.isEmpty) /\ L' = L) := by
 obtain ⟨pm, code, doc, Fm⟩ := m_active hF W.lim
 refine fnA_ok (ps := ["self"]) Fm (show fnOk (dm1 9 5).scope _ = true by decide +kernel) (by omega) rfl (bindOk rfl (bind1 fun a => by rfl)) fun A s0 ad X0 hX hA => ?_
 have hF' : (F1 c.w).In (c.push ad).base := hF
 obtain ⟨fs, s1, s2, s3, s4, s5⟩ := h.self
 have s3' : (("_ready_nodes", opq RL) : Str × PyData) ∈ fs := by rw [hr] at s3; exact s3
 have e0 : ∀ (K : Act) (L : AObs), delA K.c L = delA K.c L ++ ([] : Del K) := fun K L => (List.append_nil _).symm
 rw [e0]
 refine Ex.seq (Γ1 := [("self", opq S)]) (R1 := []) (Δ1 := delA _ L ++ []) (Ex1.ite (EtS.isNone (EvS.fld (F := F1 c.w) hF' (.n m0) s1 s3' (by kernel_rfl))) (fun h => by cases h) fun _ => .nil rfl) ?_
 have hb : Fn (c.push ad) (l + 1) "bool" [.list (ks.map dk.enc)] (.bool !ks.isEmpty) := by
  have := Fn.ofT (g_bool (W.push ad)) (CallOk.boolL (l := l + 1) (ds := ks.map dk.enc) (by rw [List.length_map]; omega))
  rw [List.isEmpty_map] at this
  exact this
 refine .ret (d := .bool (decide (st.nf < st.po) || !ks.isEmpty)) (.or2 (.cmp (EvS.fld (F := F1 c.w) hF' (.n m0) s1 s5 (by kernel_rfl)) (EvS.fld (F := F1 c.w) hF' (.n m0) s1 s4 (by kernel_rfl)) rfl .ltI) fun _ => .callV hb (EvS.fld (F := F1 c.w) hF' (.n m0) s1 s3' (by kernel_rfl)) (h.rdy _ hr) rfl) trivial ?_
 exact ⟨_, List.Sublist.refl _, rfl, L, by rw [List.append_nil]; exact List.Sublist.refl _, ⟨rfl, rfl⟩, fun a h => h⟩
noncomputable def DoneQ (a : SA) (enc : κ -> PyData) (st : St κ) (RL : Addr) (rd ks : List κ) (L : AObs) : PyData -> AObs -> Prop := fun d L' => d = .none /\ SI a enc L (doneP ks (st.abs, rd)).1 (some (RL, (doneP ks (st.abs, rd)).2)) st.po (st.nf + ks.length) L'
inductive DI (a : SA) (enc : κ -> PyData) (L0 : AObs) (RL : Addr) (st : St κ) (pr : List (PN κ) × List κ) (N : Nat) (nf : Int) (L : AObs) : Prop
 | mk (st' : St κ) (rd' : List κ) (srt : Srt a enc st' L) (ext : ExtA L0 L) (ab : (st'.abs, rd') = pr) (shp : st'.shp = st.shp) (rn : st'.rn = some (RL, rd')) (len : rd'.length <= N) (po : st'.po = st.po) (nf' : st'.nf = nf) : DI a enc L0 RL st pr N nf L
noncomputable def G3 (N2 S : Addr) (enc : κ -> PyData) (ks : List κ) : Gam := [("n2i", opq N2), ("self", opq S), ("nodes", .tuple (ks.map enc))]
theorem c_done (W : Wd1 c mg mb) (hF : (F1 c.w).In c.base) (hl : l < 55) (dk : DKey c.w κ) {S Sx N2 RL : Addr} {st : St κ} {L : AObs} {rd ks : List κ} (h : Srt (sa1 S Sx N2) dk.enc st L) (hr : st.rn = some (RL, rd)) (hks : ∀ k ∈ ks, k ∈ st.keys) (hsu : ∀ n ∈ st.nds, ∀ s ∈ n.su, s ∈ st.keys)
  (hout : ∀ i k, ks[i]? = some k -> npOf (doneP (ks.take i) (st.abs, rd)).1 k = -1) {N : Nat} (hN : ∀ n ∈ st.nds, n.su.length <= N) (hz : rd.length + ks.length * N <= 10 ^ 6) (hz2 : ks.length <= 10 ^ 6) :
  FnA c l 134 (opq S :: ks.map dk.enc) L (DoneQ (sa1 S Sx N2) dk.enc st RL rd ks L) := by
 obtain ⟨pm, code, doc, Fm⟩ := m_done hF W.lim
 refine fnA_ok (ps := ["self", "nodes"]) (es := [opq S, .tuple (ks.map dk.enc)]) Fm (show fnOk (dm1 9 7).scope _ = true by decide +kernel) (by omega) rfl (bindStar1 (by rw [List.length_map]; omega) fun a vs => by cases vs <;> rfl) fun A s0 ad X0 hX hA => ?_
 have hF' : (F1 c.w).In (c.push ad).base := hF
 obtain ⟨t1, gout⟩ := g_out (W.push ad) hF'
 obtain ⟨t2, gdone⟩ := g_done (W.push ad) hF'
 obtain ⟨fs, s1, s2, s3, s4, s5⟩ := h.self
 have s3' : (("_ready_nodes", opq RL) : Str × PyData) ∈ fs := by rw [hr] at s3; exact s3
 have e0 : ∀ (K : Act) (L : AObs), delA K.c L = delA K.c L ++ ([] : Del K) := fun K L => (List.append_nil _).symm
 rw [e0]
 refine Ex.seq (Γ1 := [("self", opq S), ("nodes", .tuple (ks.map dk.enc))]) (R1 := []) (Δ1 := delA _ L ++ []) (Ex1.ite (EtS.isNone (EvS.fld (F := F1 c.w) hF' (.n m0) s1 s3' (by kernel_rfl))) (fun h => by cases h) fun _ => .nil rfl) ?_
 refine Ex.new (EvS.fld (F := F1 c.w) hF' (.n m0) s1 s2 (by kernel_rfl)) ?_
 refine Ex.seqL (Ex1.forL (ks := ks) (g := dk.enc) (Γ0 := G3 N2 S dk.enc ks) (T := []) (fun i => DI (sa1 S Sx N2) dk.enc L RL st (doneP (ks.take i) (st.abs, rd)) (rd.length + i * N) (st.nf + i))
  (.of fun X => .ofTuple (.n m2)) ⟨st, rd, h, .refl, rfl, rfl, hr, by omega, rfl, by omega⟩ (fun p h => h) hX (fun i p L1 r hp hI => ?_)) fun L' hI => ?_
 ·obtain ⟨st1, rd1, H1, hE1, hab1, hsh1, b1, hrd1, b2, b3⟩ := hI
  have hi : i < ks.length := (List.getElem?_eq_some_iff.mp hp).1
  have hpk : p ∈ st1.keys := shp_keys hsh1 ▸ hks p (lG hp)
  obtain ⟨n, hn, hnk, hg⟩ := kget_at hpk H1.nk
  obtain ⟨⟨gs, q1, q2, q3, q4⟩, q5⟩ := H1.nd n hn
  have hnp : n.np = -1 := by
   have := hout i p hp
   rw [<- hab1] at this
   rw [<- npOf_at H1.nk hn, hnk]
   exact this
  refine Ex.seq (Γ1 := ("nodeinfo", opq n.x) :: ("node", dk.enc p) :: G3 N2 S dk.enc ks) (R1 := []) (Δ1 := delA _ L1 ++ [r]) (Ex1.iteN (d := opq n.x) (EvS.as (EvS.dget (κ := κ) dk (D := N2) (W.push ad).sys (.n m1) (.n m0) H1.map) (by rw [hg]; rfl)) rfl (fun h => by cases h) fun _ => .nil rfl) ?_
  refine Ex.new (EvS.slt (F := F1 c.w) (p := 56) (i := 1) hF' (.n m0) q1 q3 (by kernel_rfl)) ?_
  rw [hnp]
  refine Ex.seq (Γ1 := ("stat", .int (-1)) :: ("nodeinfo", opq n.x) :: ("node", dk.enc p) :: G3 N2 S dk.enc ks) (R1 := []) (Δ1 := delA _ L1 ++ [r]) (Ex1.ite (b := false) (EtS.of fun X => .cmp (.n m0) (.g gout fun h => .int _ _) .neI) (fun h => by cases h) fun _ => .nil rfl) ?_
  refine Ex.seq (Ex1.setG (F := F1 c.w) (p := 56) (i := 1) (d := .int (-2)) hF' (.of fun X => .g gdone fun h => .int _ _) (.n m1) rfl q1 (by kernel_rfl)) ?_
  obtain ⟨H2, hE2⟩ := H1.setNp (v := -2) hn (putG_other q2 (by decide)) putG_same (putG_other q4 (by decide))
  have hab2 : (Srt.upK st1 n.k fun m => { m with np := -2 }).abs = upP st1.abs p (npP (-2)) := by rw [abs_upK (g' := npP (-2)) fun _ => rfl, hnk]
  obtain ⟨n2, hn2, e1, e2, e3, e4⟩ := shp_mem (shp_upK (st := st1) (k := n.k) (v := -2)) hn
  have hsu1 : suOf st1.abs p = n.su := by rw [<- hnk]; exact suOf_at H1.nk hn
  obtain ⟨gs2, p1, p2, p3, p4⟩ := (H2.nd n2 hn2).at_
  obtain ⟨n0, hn0, _, _, _, e⟩ := shp_mem hsh1.symm hn
  refine Ex.seqL (Ex1.forDL (D := n.li) (ks := n.su) (g := dk.enc) (Γ0 := ("stat", .int (-1)) :: ("nodeinfo", opq n.x) :: ("node", dk.enc p) :: G3 N2 S dk.enc ks) (T := [r]) (fun j => DI (sa1 S Sx N2) dk.enc L RL st ((n.su.take j).foldl sucP (upP st1.abs p (npP (-2)), rd1)) (rd1.length + j) (st.nf + i))
    (EvS.slt (F := F1 c.w) (p := 57) (i := 2) hF' (.n m1) (e2 ▸ p1) (e3 ▸ p4) (by kernel_rfl)) (fun k _ => dk.flat k)
    ⟨_, rd1, H2, hE1.trans hE2, by rw [hab2]; rfl, shp_upK.trans hsh1, b1, Nat.le_refl _, b2, b3⟩ (fun p h => h) hX (fun j L' hI => ?_) fun j q L3 r2 hq hI => ?_) fun L3 hI => ?_
  ·obtain ⟨st3, rd3, H, _, _, hsh, _⟩ := hI
   obtain ⟨n4, hn4, f1, f2, f3, f4⟩ := shp_mem (hsh.trans hsh1.symm) hn
   have := (H.nd n4 hn4).lst
   rw [f3, f4] at this
   exact this
  ·obtain ⟨st3, rd3, H3, hE3, hab3, hsh3, c1, hrd3, c2, c3⟩ := hI
   have hqk : q ∈ st3.keys := shp_keys hsh3 ▸ hsu n0 hn0 q (e ▸ lG hq)
   obtain ⟨m, hm, hmk, hg3⟩ := kget_at hqk H3.nk
   obtain ⟨gs3, u1, u2, u3, u4⟩ := (H3.nd m hm).at_
   have hj : j < n.su.length := (List.getElem?_eq_some_iff.mp hq).1
   have hnN : n.su.length <= N := e ▸ hN n0 hn0
   refine Ex.new (EvS.dsub (κ := κ) dk (.n m4) (.n m0) H3.map hg3) ?_
   refine Ex.seq (Ex1.augG (F := F1 c.w) (p := 56) (i := 1) (d1 := .int m.np) (d2 := .int 1) (d := .int (m.np - 1)) hF' (.n m0) (.of fun X => .int) u1 u3 .isubI rfl rfl (by kernel_rfl)) ?_
   obtain ⟨H4, hE4⟩ := H3.setNp (v := m.np - 1) hm (putG_other u2 (by decide)) putG_same (putG_other u4 (by decide))
   have hmn : npOf st3.abs q = m.np := by rw [<- hmk]; exact npOf_at H3.nk hm
   have hab4 : (Srt.upK st3 m.k fun n => { n with np := m.np - 1 }).abs = upP st3.abs q (npP (npOf st3.abs q - 1)) := by rw [abs_upK (g' := npP (m.np - 1)) fun _ => rfl, hmk, hmn]
   have hs1 : (n.su.take (j + 1)).foldl sucP (upP st1.abs p (npP (-2)), rd1) = sucP (st3.abs, rd3) q := by
    rw [List.take_add_one, hq, List.foldl_append, <- hab3]
    rfl
   rw [hs1]
   refine Ex.seqL (Γ0 := ("successor_info", opq m.x) :: ("successor", dk.enc q) :: ("stat", .int (-1)) :: ("nodeinfo", opq n.x) :: ("node", dk.enc p) :: G3 N2 S dk.enc ks) (T := [r2, r]) (P := DI (sa1 S Sx N2) dk.enc L RL st (sucP (st3.abs, rd3) q) (rd1.length + (j + 1)) (st.nf + i))
    (Ex1.ite (EtS.cmp (EvS.slt (F := F1 c.w) (p := 56) (i := 1) hF' (.n m0) (updA_mem u1) putG_same (by kernel_rfl)) (.of fun X => .int) rfl .eqI) (fun hz => ?_) fun hz => ?_) fun L5 hI5 => .atW (fun p hp => .tail _ (.tail _ hp)) hI5
   ·have hz' : m.np - 1 = 0 := by simpa using hz
    obtain ⟨fs4, w1, w2, w3, w4, w5⟩ := H4.self
    have w3' : (("_ready_nodes", opq RL) : Str × PyData) ∈ fs4 := by
     have : (Srt.upK st3 m.k fun n => { n with np := m.np - 1 }).rn = some (RL, rd3) := c1
     rw [this] at w3; exact w3
    refine Ex.seq (Ex1.appendF (D := RL) (ds := rd3.map dk.enc) (d := dk.enc q) (EvS.fld (F := F1 c.w) hF' (.n m6) w1 w3' (by kernel_rfl)) (.n m1) (dk.flat q) (H4.rdy (RL, rd3) c1) ?_) ?_
    ·rw [List.length_map]
     have h1 : i * N + N <= ks.length * N := by
      have := Nat.mul_le_mul_right N (show i + 1 <= ks.length from hi)
      rwa [Nat.add_mul, Nat.one_mul] at this
     omega
    ·have q5 := H4.setR (r := RL) (ks := rd3) (ks' := rd3 ++ [q]) c1
     rw [List.map_append] at q5
     refine .at ⟨_, rd3 ++ [q], q5.1, (hE3.trans hE4).trans q5.2, ?_, (shp_upK (st := st3) (k := m.k) (v := m.np - 1)).trans hsh3, rfl, by rw [List.length_append]; exact Nat.add_le_add_right hrd3 1, c2, c3⟩
     show ((Srt.upK st3 m.k fun n => { n with np := m.np - 1 }).abs, rd3 ++ [q]) = _
     rw [hab4]
     unfold sucP
     rw [if_pos (by rw [hmn]; exact hz')]
   ·have hz' : ¬ m.np - 1 = 0 := by simpa using hz
    refine .at ⟨_, rd3, H4, hE3.trans hE4, ?_, shp_upK.trans hsh3, c1, Nat.le_succ_of_le hrd3, c2, c3⟩
    rw [hab4]
    unfold sucP
    rw [if_neg (by rw [hmn]; exact hz')]
  ·obtain ⟨st3, rd3, H3, hE3, hab3, hsh3, c1, hrd3, c2, c3⟩ := hI
   obtain ⟨fs4, w1, w2, w3, w4, w5⟩ := H3.self
   refine Ex.seq (Ex1.augF (F := F1 c.w) (d1 := .int st3.nf) (d2 := .int 1) (d := .int (st3.nf + 1)) hF' (.n m4) (.of fun X => .int) w1 w5 .iaddI rfl rfl (by kernel_rfl) (by decide)) ?_
   obtain ⟨H4, hE4⟩ := H3.setS (po := st3.po) (nf := st3.nf + 1) (fs' := putF "_nfinished" [.int (st3.nf + 1)] fs4) (putF_other w2) (putF_other w3) (putF_other w4) putF_same
   refine .atW (fun p hp => .tail _ (.tail _ (.tail _ hp))) ⟨_, rd3, H4, hE3.trans hE4, ?_, hsh3, c1, ?_, c2, ?_⟩
   ·show (st3.abs, rd3) = _
    rw [hab3, List.take_length, List.take_add_one, hp]
    unfold doneP
    rw [List.foldl_append]
    show _ = doneP1 (doneP (ks.take i) (st.abs, rd)) p
    rw [<- hab1]
    unfold doneP1
    rw [hsu1]
   ·have hnN : n.su.length <= N := e ▸ hN n0 hn0
    rw [Nat.add_mul, Nat.one_mul]; omega
   ·show st3.nf + 1 = _
    omega
 ·obtain ⟨st', rd', H, hE, hab, hsh, b1, hrd, b2, b3⟩ := hI
  rw [List.take_length] at hab
  have h1 : st'.abs = _ := congrArg Prod.fst hab
  have h2 : rd' = _ := congrArg Prod.snd hab
  exact .nil ⟨rfl, L', by rw [List.append_nil]; exact List.Sublist.refl _, ⟨rfl, st', H, hE, h1, h2 ▸ b1, b2, b3⟩, hE⟩
end
section
variable {c : Cfg} {l : Nat} {mg mb : Str -> Option Value} {κ : Type} [DecidableEq κ]
noncomputable def ndD (N : Addr) (enc : κ -> PyData) (n : PN κ) : PyData := instD N [] [0, 1, 2] [] [enc n.1, .int n.2.1, .list (n.2.2.map enc)]
noncomputable def srtD (T N : Addr) (enc : κ -> PyData) (ns : List (PN κ)) : PyData := instD T ["_node2info"] [] [dD enc (ns.map fun n => (n.1, ndD N enc n))] []
noncomputable def RSF (K : Act) (enc : κ -> PyData) (stk : List (Frm κ)) : Del K := stk.map fun f => resNx K.c f.m f.I (f.su.map enc) f.i
theorem kget_pn {ns : List (PN κ)} (N : Addr) (enc : κ -> PyData) (hn : (ns.map (·.1)).Nodup) {n : PN κ} (h : n ∈ ns) : kget (ns.map fun n => (n.1, ndD N enc n)) n.1 = some (ndD N enc n) := by
 unfold kget
 have : (ns.map fun n => (n.1, ndD N enc n)).find? (fun p => p.1 = n.1) = some (n.1, ndD N enc n) := by
  rw [List.find?_map]
  have e : ((fun p : κ × PyData => decide (p.1 = n.1)) ∘ fun n => (n.1, ndD N enc n)) = fun m : PN κ => decide (m.1 = n.1) := rfl
  rw [e, find_of hn h]
  rfl
 rw [this]; rfl
theorem suOf_pn {ns : List (PN κ)} (hn : (ns.map (·.1)).Nodup) {n : PN κ} (h : n ∈ ns) : suOf ns n.1 = n.2.2 := by
 unfold suOf
 rw [find_of hn h]; rfl
noncomputable def cycG (enc : κ -> PyData) (ns : List (PN κ)) (D1 D2 D3 D4 : Addr) : Gam := [("node2stacki", opq D4), ("seen", opq D3), ("itstack", opq D2), ("stack", opq D1), ("n2i", dD enc (ns.map fun n => (n.1, ndD 54 enc n))), ("self", srtD 151 54 enc ns)]
noncomputable abbrev kcyc (c : Cfg) (l : Nat) (pm code doc : Value) (ad : Addr) (X : List Addr) : Act := fnAct c l (mfd (dm1 9 8) "TopologicalSorter._find_cycle" .none pm code doc) ad 141 X
theorem suOf_mem {ns : List (PN κ)} {k s : κ} (h : s ∈ suOf ns k) : ∃ n ∈ ns, n.1 = k /\ s ∈ n.2.2 := by
 unfold suOf at h
 cases e : ns.find? fun n => n.1 = k with
 | none => rw [e] at h; cases h
 | some n =>
  rw [e] at h
  exact ⟨n, List.mem_of_find?_eq_some e, by simpa using List.find?_some e, h⟩
theorem kget_none {α : Type} {kvs : List (κ × α)} {k : κ} (h : k ∉ kvs.map (·.1)) : kget kvs k = none := by
 unfold kget
 rw [Option.map_eq_none_iff, List.find?_eq_none]
 intro p hp e
 exact h (List.mem_map.mpr ⟨p, hp, by simpa using e⟩)
theorem EtS.as {K : Act} {A : Around} {s0 : Shared} {E : Err} {Γ : Gam} {R : Ros} {Δ : Del K} {e : Expr} {b b' : Bool} (h : EtS K A s0 E Γ R Δ e b) (e' : b = b') : EtS K A s0 E Γ R Δ e b' := e' ▸ h
set_option genInjectivity false in
set_option genSizeOf false in
structure CyP (κ : Type) [DecidableEq κ] where
 c : Cfg
 l : Nat
 pm : Value
 code : Value
 doc : Value
 ad : Addr
 X : List Addr
 dk : DKey c.w κ
 ns : List (PN κ)
 rk : κ -> Nat
 D1 : Addr
 D2 : Addr
 D3 : Addr
 D4 : Addr
noncomputable def CyP.K (p : CyP κ) : Act := kcyc p.c p.l p.pm p.code p.doc p.ad p.X
noncomputable def CyP.G (p : CyP κ) : Gam := cycG p.dk.enc p.ns p.D1 p.D2 p.D3 p.D4
noncomputable def CyP.N (p : CyP κ) (k : κ) : Gam := ("node", p.dk.enc k) :: p.G
noncomputable def CyP.ks (p : CyP κ) : List κ := p.ns.map (·.1)
noncomputable def CyP.L (p : CyP κ) (a b d : List PyData) (kvs : List (κ × PyData)) : AObs := [(p.D4, .data (dD p.dk.enc kvs)), (p.D2, .data (.list b)), (p.D1, .data (.list a))]
noncomputable def CyP.ms (p : CyP κ) (stk : List (Frm κ)) : List PyData := stk.reverse.map fun f => opq f.m
noncomputable def CyP.kd (p : CyP κ) (stk : List (Frm κ)) : List PyData := stk.reverse.map fun f => p.dk.enc f.k
noncomputable def CyP.T (p : CyP κ) (sk : List κ) (stk : List (Frm κ)) (r : Res p.K.c) : Del p.K := resSet p.K.c p.dk p.D3 sk :: (RSF p.K p.dk.enc stk ++ [r])
noncomputable def CyP.D (p : CyP κ) (stk : List (Frm κ)) (kvs : List (κ × PyData)) (sk : List κ) (r : Res p.K.c) : Del p.K := delA p.K.c (p.L (p.kd stk) (p.ms stk) [] kvs) ++ p.T sk stk r
structure CyOk (p : CyP κ) : Prop where
 sys : sysModules ∈ p.K.c.fr
 fr : (F1 p.c.w).In p.K.c.base
 iter : Glb p.K.c "iter" (.builtin "iter")
 stop : Glb p.K.c "StopIteration" (.type "StopIteration")
 len : Glb p.K.c "len" (.builtin "len")
 sc : Scan p.dk
 nd : (p.ns.map (·.1)).Nodup
 sz : p.ns.length <= 3000
 suk : ∀ n ∈ p.ns, ∀ s ∈ n.2.2, s ∈ p.ns.map (·.1)
 rk : ∀ n ∈ p.ns, ∀ s ∈ n.2.2, p.rk s < p.rk n.1
 h42 : p.D4 ≠ p.D2
 h41 : p.D4 ≠ p.D1
 h21 : p.D2 ≠ p.D1
section
variable {p : CyP κ} {r : Res p.K.c} {A : Around} {s0 : Shared} {E : Err}
theorem CyP.q1 : (("node2stacki", opq p.D4) : Str × PyData) ∈ p.G := by unfold CyP.G cycG; exact m0
theorem CyP.q2 : (("seen", opq p.D3) : Str × PyData) ∈ p.G := by unfold CyP.G cycG; exact m1
theorem CyP.q3 : (("itstack", opq p.D2) : Str × PyData) ∈ p.G := by unfold CyP.G cycG; exact m2
theorem CyP.q4 : (("stack", opq p.D1) : Str × PyData) ∈ p.G := by unfold CyP.G cycG; exact m3
theorem CyP.q5 : (("n2i", dD p.dk.enc (p.ns.map fun n => (n.1, ndD 54 p.dk.enc n))) : Str × PyData) ∈ p.G := by unfold CyP.G cycG; exact m4
theorem CyP.off : offB ["node"] (p.G.map (·.1)) = true := by unfold CyP.G cycG; kernel_rfl
theorem CyP.filt {d : PyData} : ((("node", d) : Str × PyData) :: p.G).filter (fun x => x.1 != ("node" : Str)) = p.G := by
 rw [List.filter_cons_of_neg (by simp)]
 exact filter_off fun x hx e => off_of CyP.off x hx (e ▸ .head _)
theorem CyP.in (ok : CyOk p) {Γ : Gam} (hΓ : ∀ x ∈ p.G, x ∈ Γ) {k : κ} (hk : (("node", p.dk.enc k) : Str × PyData) ∈ Γ) {L : AObs} {sk : List κ} {M : Del p.K} {p1 p2 p3 : Pos} :
  EtS p.K A s0 NoE Γ [] (delA p.K.c L ++ (resSet p.K.c p.dk p.D3 sk :: M)) (.Compare (.Name "node" p1) [.In] [.Name "seen" p2] p3) (decide (k ∈ sk)) :=
 EtS.inSet (K := p.K) (κ := κ) p.dk ok.sc (.n hk) (.n (hΓ _ CyP.q2)) (lR _ (.head _))
theorem CyOk.key (ok : CyOk p) {k : κ} (hk : k ∈ p.ks) : ∃ n ∈ p.ns, n.1 = k /\ suOf p.ns k = n.2.2 /\ kget (p.ns.map fun n => (n.1, ndD 54 p.dk.enc n)) k = some (ndD 54 p.dk.enc n) := by
 obtain ⟨n, h1⟩ := mem_mapI hk
 exact ⟨n, h1, rfl, suOf_pn ok.nd h1, kget_pn 54 p.dk.enc ok.nd h1⟩
theorem CyOk.klen (ok : CyOk p) : p.ks.length <= 3000 := by unfold CyP.ks; rw [List.length_map]; exact ok.sz
theorem CyOk.u2 (ok : CyOk p) {a b d e : List PyData} {kvs : List (κ × PyData)} : updA (p.L a b d kvs) p.D2 (.data (.list e)) = p.L a e d kvs := by simp [CyP.L, updA, ok.h42, ok.h21.symm]
theorem CyOk.u4 (ok : CyOk p) {a b d : List PyData} {kvs kws : List (κ × PyData)} : updA (p.L a b d kvs) p.D4 (.data (dD p.dk.enc kws)) = p.L a b d kws := by simp [CyP.L, updA, ok.h42.symm, ok.h41.symm]
theorem CyOk.u1 (ok : CyOk p) {a b d e : List PyData} {kvs : List (κ × PyData)} : updA (p.L a b d kvs) p.D1 (.data (.list e)) = p.L e b d kvs := by simp [CyP.L, updA, ok.h41, ok.h21]
theorem cyc_len {sk : List κ} (ok : CyOk p) (h : cntF p.ks sk) : sk.length <= 3000 := by
 have h1 := ok.klen
 have : sk.length + (p.ks.filter fun u => decide (u ∉ sk)).length <= p.ks.length := h
 omega
inductive CyI (p : CyP κ) (r : Res p.K.c) (n : Nat) : Gam -> Ros -> Del p.K -> Prop
 | mk (k : κ) (stk : List (Frm κ)) (sk : List κ) (kvs : List (κ × PyData)) (hk : k ∈ p.ks) (hG : GoodF p.ks (suOf p.ns) p.rk sk stk) (hc : cntF p.ks sk) (hl : stk.length <= sk.length) (hr : ∀ g ∈ stk.head?, p.rk k < p.rk g.k)
   (hkv : kvs.map (·.1) = stk.reverse.map (·.k)) (hm : muF p.ks (suOf p.ns) sk stk = n) : CyI p r n (p.N k) [] (p.D stk kvs sk r)
inductive CyM (p : CyP κ) (r : Res p.K.c) (k : κ) (n : Nat) : Out p.K -> Prop
 | mk (stk : List (Frm κ)) (sk : List κ) (kvs : List (κ × PyData)) (hG : GoodF p.ks (suOf p.ns) p.rk sk stk) (hc : cntF p.ks sk) (hl : stk.length <= sk.length)
   (hkv : kvs.map (·.1) = stk.reverse.map (·.k)) (hm : muF p.ks (suOf p.ns) sk stk <= n) : CyM p r k n (.next (p.N k) [] (p.D stk kvs sk r))
inductive CyW (p : CyP κ) (r : Res p.K.c) (k : κ) (sk : List κ) (n q : Nat) : Gam -> Ros -> Del p.K -> Prop
 | mk (stk : List (Frm κ)) (kvs : List (κ × PyData)) (hq : q = stk.length) (hG : GoodF p.ks (suOf p.ns) p.rk sk stk) (hl : stk.length <= sk.length)
   (hkv : kvs.map (·.1) = stk.reverse.map (·.k)) (hm : muF p.ks (suOf p.ns) sk stk <= n) : CyW p r k sk n q (p.N k) [] (p.D stk kvs sk r)
inductive CyO (p : CyP κ) (r : Res p.K.c) (k : κ) (sk : List κ) (n : Nat) : Out p.K -> Prop
 | nxt (s : κ) (stk : List (Frm κ)) (kvs : List (κ × PyData)) (hs : s ∈ p.ks) (hG : GoodF p.ks (suOf p.ns) p.rk sk stk) (hl : stk.length <= sk.length) (hr : ∀ g ∈ stk.head?, p.rk s < p.rk g.k)
   (hkv : kvs.map (·.1) = stk.reverse.map (·.k)) (hm : muF p.ks (suOf p.ns) sk stk < n) : CyO p r k sk n (.next (p.N s) [] (p.D stk kvs sk r))
 | brk : CyO p r k sk n (.brk (p.N k) [] (p.D [] [] sk r))
noncomputable def cycFor : List Stmt := match (dm1 9 8).body.drop 5 with
 | .For _ _ b _ _ :: _ => b
 | _ => []
noncomputable def cycTurn : List Stmt := match cycFor.drop 1 with
 | .While _ b _ _ :: _ => b
 | _ => []
noncomputable def cycIn : List Stmt × List Stmt := match cycTurn.drop 1 with
 | .While _ b e _ :: _ => (b, e)
 | _ => ([], [])
theorem cons_D {f : Frm κ} {rest : List (Frm κ)} {kvs : List (κ × PyData)} {sk : List κ} {I : Addr} {i : Nat} : p.D (⟨f.k, f.su, f.m, I, i⟩ :: rest) kvs sk r = delA p.K.c (p.L (p.kd rest ++ [p.dk.enc f.k]) (p.ms rest ++ [opq f.m]) [] kvs) ++ (resSet p.K.c p.dk p.D3 sk :: resNx p.K.c f.m I (f.su.map p.dk.enc) i :: (RSF p.K p.dk.enc rest ++ [r])) := by
 simp [CyP.D, CyP.T, CyP.kd, CyP.ms, RSF]
theorem kvs_snoc {f : Frm κ} {rest : List (Frm κ)} {kvs : List (κ × PyData)} (hkv : kvs.map (·.1) = (f :: rest).reverse.map (·.k)) : ∃ kvs' v, kvs = kvs' ++ [(f.k, v)] /\ kvs'.map (·.1) = rest.reverse.map (·.k) := by
 rw [List.reverse_cons, List.map_append] at hkv
 obtain ⟨k1, k2, e, h1, h2⟩ := List.map_eq_append_iff.mp hkv
 obtain ⟨q, rfl⟩ := List.length_eq_one_iff.mp (show k2.length = 1 by have := congrArg List.length h2; simpa using this)
 have hq : q.1 = f.k := by simpa using h2
 exact ⟨k1, q.2, by rw [e, <- hq], h1⟩
theorem cyc_in (ok : CyOk p) {k : κ} {sk : List κ} {n : Nat} (hA : ∃ outer, A.frames = some (p.K.env :: outer)) (hX : X0ok p.K s0) {f : Frm κ} {rest : List (Frm κ)} {kvs : List (κ × PyData)} (hsl : sk.length <= 3000) (hG : GoodF p.ks (suOf p.ns) p.rk sk (f :: rest)) (hl : (f :: rest).length <= sk.length)
  (hkv : kvs.map (·.1) = (f :: rest).reverse.map (·.k)) (hm : muF p.ks (suOf p.ns) sk (f :: rest) <= n) :
  Ex p.K A s0 NoE (p.N k) [] (p.D (f :: rest) kvs sk r) cycIn.1 fun o => (∃ m Γ' R' Δ', m < (f :: rest).length /\ (o = .next Γ' R' Δ' \/ o = .cont Γ' R' Δ') /\ CyW p r k sk n m Γ' R' Δ') \/ (∃ Γ' R' Δ', o = .brk Γ' R' Δ' /\ CyO p r k sk n (.next Γ' R' Δ')) \/ ∃ d, o = .ret d /\ CyO p r k sk n (.ret d) := by
 have eL0 : p.D (f :: rest) kvs sk r = _ := cons_D (I := f.I) (i := f.i)
 rw [eL0]
 have hrl : rest.length <= 3000 := by rw [List.length_cons] at hl; omega
 have hms : (p.ms rest).length = rest.length := by unfold CyP.ms; rw [List.length_map, List.length_reverse]
 have hkd : (p.kd rest).length = rest.length := by unfold CyP.kd; rw [List.length_map, List.length_reverse]
 have hlast : ∀ (E : Err) (p1 p2 p3 p4 : Pos) (M : Del p.K) (rf : Res p.K.c), EvS p.K A s0 E (p.N k) [] (rf :: (delA p.K.c (p.L (p.kd rest ++ [p.dk.enc f.k]) (p.ms rest ++ [opq f.m]) [] kvs) ++ M)) (.Subscript (.Name "itstack" p1) (.UnaryOp .USub (.Constant (.int 1) 0 p2) p3) p4) (opq f.m) := fun E p1 p2 p3 p4 M rf =>
  EvS.perm List.perm_middle.symm (EvS.last (D := p.D2) (ds := p.ms rest) (.n (.tail _ CyP.q3)) m1 (by rw [hms]; omega))
 refine Ex.perm permA ?_
 by_cases hi : f.i < f.su.length
 ·have hsi : f.su[f.i]? = some f.su[f.i] := List.getElem?_eq_getElem hi
  generalize f.su[f.i] = s at hsi
  have hfs : s ∈ suOf p.ns f.k := by rw [<- hG.suc f (.head _)]; exact lG hsi
  obtain ⟨nf, hnf, hnfk, hnfs⟩ := suOf_mem hfs
  have hsr : p.rk s < p.rk f.k := by rw [<- hnfk]; exact ok.rk nf hnf s hnfs
  refine Ex.cons (fun o => o = .brk (p.N s) [] (p.D (⟨f.k, f.su, f.m, f.I, f.i + 1⟩ :: rest) kvs sk r))
   (Ex1.try (T := "StopIteration") (cls := "StopIteration") (P := fun _ _ _ => False) ok.stop (by kernel_rfl) (by kernel_rfl) (by kernel_rfl) (by kernel_rfl) ?_ fun e s1 X1 _ _ _ h => h.elim) (fun _ _ _ e => nomatch e) (fun _ _ _ e => ?_) (fun _ _ _ e => nomatch e) (fun _ e => nomatch e)
  ·refine Ex.seq (Ex1.nextItem (d := p.dk.enc s) (hlast _ _ _ _ _ _ _) (by rw [List.getElem?_map, hsi]; rfl) (p.dk.flat s)) ?_
   unfold CyP.N
   rw [CyP.filt]
   refine Ex.perm permA.symm (Ex.brk ?_)
   rw [cons_D]
  ·refine .inr (.inl ⟨_, _, _, e, .nxt s _ kvs (ok.suk nf hnf s hnfs) hG.step hl (fun g hg => by cases hg; exact hsr) (hkv.trans (by rw [List.reverse_cons, List.reverse_cons, List.map_append, List.map_append]; rfl)) ?_⟩)
   unfold muF at hm ⊢
   simp only [List.map_cons, List.sum_cons] at hm ⊢
   omega
 ·obtain ⟨kvs', v, rfl, hkv'⟩ := kvs_snoc hkv
  have hkvl : kvs'.length = rest.length := by
   have := congrArg List.length hkv'
   rw [List.length_map, List.length_map, List.length_reverse] at this
   exact this
  have hfn : f.k ∉ kvs'.map (·.1) := fun hm => by
   rw [hkv'] at hm
   obtain ⟨g, hg, e⟩ := List.mem_map.mp hm
   have := (List.pairwise_cons.mp hG.desc).1 g (List.mem_reverse.mp hg)
   rw [e] at this
   exact Nat.lt_irrefl _ this
  refine Ex.cons (fun o => o = .next (p.N k) [] (p.D rest kvs' sk r))
   (Ex1.try (T := "StopIteration") (cls := "StopIteration") (P := fun Γ R Δ => Γ = p.N k /\ R = ([] : Ros) /\ Δ = delA p.K.c (p.L (p.kd rest ++ [p.dk.enc f.k]) (p.ms rest ++ [opq f.m]) [] (kvs' ++ [(f.k, v)])) ++ p.T sk rest r) ok.stop (by kernel_rfl) (by kernel_rfl) (by kernel_rfl) (by kernel_rfl) ?_ ?_) (fun _ _ _ e => ?_) (fun _ _ _ e => nomatch e) (fun _ _ _ e => nomatch e) (fun _ e => nomatch e)
  ·exact Ex.cons (fun _ => False) (Ex1.nextEnd (hlast _ _ _ _ _ _ _) (by rw [List.length_map]; omega) hA ⟨p.ad, rfl⟩ hX ⟨rfl, rfl, rfl⟩) (fun _ _ _ h => h.elim) (fun _ _ _ h => h.elim) (fun _ _ _ h => h.elim) (fun _ h => h.elim)
  ·rintro e s1 X1 _ _ _ ⟨rfl, rfl, rfl⟩ S1
   refine wpAny_execs_cons (wK (execDelPop (κ := κ) p.dk (D1 := p.D1) (D2 := p.D4) (ds := p.kd rest) (kvs := kvs') (k := f.k) (d := v) S1 (.tail _ CyP.q4) (.tail _ CyP.q1) m2 m0 ok.h41 (by rw [hkd]; omega) (by omega) hfn) (fun fl s2 q => ?_))
   obtain ⟨rfl, S2⟩ := q
   rw [ok.u1, ok.u4] at S2
   refine wpAny_execs_cons (wK (execPop (D := p.D2) (ds := p.ms rest) (d := opq f.m) S2 (.tail _ CyP.q3) m1 (by rw [hms]; omega)) (fun fl s3 q => ?_))
   obtain ⟨rfl, S3⟩ := q
   rw [ok.u2] at S3
   exact wpAny_execs_nil ⟨_, _, _, _, rfl, S3⟩
  ·cases e
   refine .nil (.inl ⟨rest.length, _, _, _, Nat.lt_succ_self _, .inl rfl, .mk rest kvs' rfl hG.pop (by rw [List.length_cons] at hl; omega) hkv' ?_⟩)
   unfold muF at hm ⊢
   simp only [List.map_cons, List.sum_cons] at hm ⊢
   omega
theorem perm_cyc {K : Act} {D : Del K} {r s : Res K.c} : List.Perm (r :: (D ++ [s])) (D ++ [s, r]) := by
 have : D ++ [s, r] = (D ++ [s]) ++ [r] := by simp
 rw [this]
 exact (List.perm_append_singleton r (D ++ [s])).symm
theorem cyc_turn (ok : CyOk p) {n : Nat} {Γ : Gam} {R : Ros} {Δ : Del p.K} (hA : ∃ outer, A.frames = some (p.K.env :: outer)) (hX : X0ok p.K s0) (h : CyI p r n Γ R Δ) {O : Out p.K -> Prop} :
  Ex p.K A s0 NoE Γ R Δ cycTurn fun o => (∃ m Γ' R' Δ', m < n /\ (o = .next Γ' R' Δ' \/ o = .cont Γ' R' Δ') /\ CyI p r m Γ' R' Δ') \/ (∃ Γ' R' Δ', o = .brk Γ' R' Δ' /\ ∃ k sk, cntF p.ks sk /\ Γ' = p.N k /\ R' = [] /\ Δ' = p.D [] [] sk r) \/ ∃ d, o = .ret d /\ O (.ret d) := by
 obtain ⟨k, stk, sk, kvs, hk, hG, hcnt, hlen, hrk1, hkv, hmu⟩ := h
 obtain ⟨nk, hnk1, hnk2, hnk3, hnk4⟩ := ok.key hk
 have hskl := cyc_len ok hcnt
 have hms : (p.ms stk).length = stk.length := by unfold CyP.ms; rw [List.length_map, List.length_reverse]
 have hkd : (p.kd stk).length = stk.length := by unfold CyP.kd; rw [List.length_map, List.length_reverse]
 have hkvl : kvs.length = stk.length := by
  have := congrArg List.length hkv
  rw [List.length_map, List.length_map, List.length_reverse] at this
  exact this
 have hfresh := hG.fresh hrk1
 have hkn : k ∉ kvs.map (·.1) := fun hm => by
  rw [hkv] at hm
  obtain ⟨f, hf, e⟩ := List.mem_map.mp hm
  exact hfresh f (List.mem_reverse.mp hf) e
 refine Ex.seqX (O1 := CyM p r k n) (Ex1.ite (CyP.in ok (fun x hx => .tail _ hx) (.head _)) (fun hin => ?_) fun hin => ?_) ?_
 ·refine Ex.seq (Ex1.ite (b := false) (EtS.as (EtS.inDct (K := p.K) (κ := κ) p.dk ok.sys (D := p.D4) (k := k) (kvs := kvs) (.n m0) (.n (.tail _ CyP.q1)) m0) (by rw [kget_none hkn]; rfl)) (fun h => by cases h) fun _ => .nil rfl) (.nil (.mk stk sk kvs hG hcnt hlen hkv (Nat.le_of_eq hmu)))
 ·have hin' : k ∉ sk := by simpa using hin
  refine Ex.perm List.perm_middle ?_
  refine Ex.seq (Ex1.addSet (K := p.K) (κ := κ) p.dk ok.sc (.n (.tail _ CyP.q2)) (.n m0) hin' (by omega)) ?_
  refine Ex.perm List.perm_middle.symm ?_
  refine Ex.seqX (Ex1.appendR (K := p.K) (D := p.D2) (ds := p.ms stk) (.n (.tail _ CyP.q3)) (EvR.next ok.iter fun X => Ev.sltI (F := F1 p.c.w) (p := 57) (i := 2) 2 ok.fr (Ev.dsubD (c := p.K.c) (κ := κ) p.dk (.n (.tail _ CyP.q5)) (.n m0) hnk4) rfl rfl (by kernel_rfl)) m1 (by rw [hms]; omega)) ?_
  rintro _ ⟨m, r2, ⟨I, rfl⟩, rfl⟩
  refine ⟨_, _, _, rfl, ?_⟩
  rw [ok.u2]
  have hlenF : Fn p.K.c p.K.l "len" [.list (p.kd stk)] (.int stk.length) := by
   have := Fn.of ok.len (CallOk.lenL (l := p.K.l) (ds := p.kd stk) (by rw [hkd]; omega))
   rw [hkd] at this
   exact this
  refine Ex.seq (Ex1.dstF (κ := κ) p.dk (D := p.D4) (k := k) (d := .int stk.length) (kvs := kvs) (EvS.callV (D := p.D1) hlenF (.n (.tail _ CyP.q4)) m2 rfl) (.n (.tail _ CyP.q1)) (.n m0) rfl m0 (by omega) hkn) ?_
  rw [ok.u4]
  refine Ex.seq (Ex1.appendF (D := p.D1) (ds := p.kd stk) (d := p.dk.enc k) (.n (.tail _ CyP.q4)) (.n m0) (p.dk.flat k) m2 (by rw [hkd]; omega)) ?_
  rw [ok.u1]
  refine Ex.perm (List.Perm.append_left _ (List.Perm.swap ..)) ?_
  have hD := cons_D (p := p) (r := r) (f := ⟨k, nk.2.2, m, I, 0⟩) (rest := stk) (kvs := kvs ++ [(k, .int stk.length)]) (sk := sk ++ [k]) (I := I) (i := 0)
  have fin : CyM p r k n (.next (p.N k) [] (p.D (⟨k, nk.2.2, m, I, 0⟩ :: stk) (kvs ++ [(k, .int stk.length)]) (sk ++ [k]) r)) := .mk _ _ _ (hG.push (f := ⟨k, nk.2.2, m, I, 0⟩) hnk3.symm hrk1) (hcnt.push hk hin') (by rw [List.length_append]; exact Nat.succ_le_succ hlen) (by rw [List.map_append, hkv, List.reverse_cons, List.map_append]; rfl) (by
   rw [<- hmu]
   have := sum_filter (fun u => 1 + (suOf p.ns u).length) hk hin'
   unfold muF
   simp only [List.map_cons, List.sum_cons]
   rw [hnk3] at this
   omega)
  rw [hD] at fin
  exact .nil fin
 ·rintro _ ⟨stk, sk, kvs, hG, hcnt, hlen, hkv, hmu⟩
  refine ⟨_, _, _, rfl, ?_⟩
  have hskl := cyc_len ok hcnt
  refine Ex.cons (CyO p r k sk n) (Ex1.whileElse (fun q Γ R Δ => CyW p r k sk n q Γ R Δ) _ (fun q Γ R Δ hW => ?_) _ (.mk stk kvs rfl hG hlen hkv hmu)) (fun _ _ _ h => ?_) (fun _ _ _ h => ?_) (fun _ _ _ h => nomatch h) (fun _ h => nomatch h)
  ·obtain ⟨stk, kvs, hq, hG, hlen, hkv, hmu⟩ := hW
   refine ⟨!(p.kd stk).isEmpty, EtS.truV (D := p.D1) (.n (.tail _ CyP.q4)) m2 (Tru.list (by unfold CyP.kd; rw [List.length_map, List.length_reverse]; omega)), fun hne => ?_, fun hem => ?_⟩
   ·cases stk with
    | nil => cases hne
    | cons f rest => rw [hq]; exact cyc_in ok hA hX hskl hG hlen hkv hmu
   ·obtain rfl : stk = [] := by simpa [CyP.kd] using hem
    obtain rfl : kvs = [] := by simpa using hkv
    exact .brk .brk
  ·cases h with
   | nxt s stk kvs h1 h2 h3 h4 h5 h6 => exact .nil (.inl ⟨_, _, _, _, h6, .inl rfl, .mk s stk sk kvs h1 h2 hcnt h3 h4 h5 rfl⟩)
  ·cases h
   exact .inr (.inl ⟨_, _, _, rfl, k, sk, hcnt, rfl, rfl, rfl⟩)
end
noncomputable def cycAll : List Stmt := (dm1 9 8).body.drop 5
theorem cyc_body (p : CyP κ) (ok : CyOk p) {A : Around} {s0 : Shared} (hA : ∃ outer, A.frames = some (p.K.env :: outer)) (hX : X0ok p.K s0) {O : Out p.K -> Prop} (hO : O (.ret .none)) : Ex p.K A s0 NoE p.G [] (delA p.K.c (p.L [] [] [] []) ++ [resSet p.K.c p.dk p.D3 []]) cycAll O := by
 refine Ex.seqX (O1 := fun o => ∃ sk, o = .next p.G [] (delA p.K.c (p.L [] [] [] []) ++ [resSet p.K.c p.dk p.D3 sk])) (Ex1.forN (fun i Γ R Δ => ∃ sk, Γ = p.G /\ R = ([] : Ros) /\ Δ = delA p.K.c (p.L [] [] [] []) ++ [resSet p.K.c p.dk p.D3 sk] /\ cntF p.ks sk) _
  (.of fun X => EvI.ofKeys (c := p.K.c) p.dk ok.sys (ks := p.ks) (ds := p.ns.map fun n => ndD 54 p.dk.enc n) (by unfold CyP.ks; rw [List.length_map, List.length_map]) (Ev.as (Ev.n CyP.q5) ?_)) ⟨[], rfl, rfl, rfl, cntF.nil⟩ (fun p h => h) (fun p h => h) (List.Sublist.refl _) hX ?_ ?_ ?_) ?_
 ·rw [dD_eq]
  simp [CyP.ks, List.map_map, Function.comp_def]
 ·rintro i _ _ _ ⟨sk, rfl, rfl, rfl, _⟩
  exact ⟨off_of CyP.off, offR_of (by kernel_rfl)⟩
 ·rintro i d _ _ _ r hd ⟨sk, rfl, rfl, rfl, hcnt⟩
  obtain ⟨k, hp⟩ := map_get hd
  have hkk : k ∈ p.ks := lG hp
  refine Ex.perm perm_cyc ?_
  by_cases hin : k ∈ sk
  ·refine Ex.cons (fun o => o = .cont p.G [] (r :: (delA p.K.c (p.L [] [] [] []) ++ [resSet p.K.c p.dk p.D3 sk]))) (Ex1.ite (CyP.in ok (fun x hx => .tail _ hx) (.head _)) (fun _ => Ex.weak (Γ' := p.G) (fun p hp => .tail _ hp) (fun p hp => hp) (List.Sublist.refl _) (Ex.perm perm_cyc.symm (Ex.cont rfl))) fun h => absurd h (by simp [hin])) (fun _ _ _ e => nomatch e) (fun _ _ _ e => nomatch e) (fun _ _ _ e => by cases e; exact .inl ⟨_, _, _, .inr rfl, sk, rfl, rfl, rfl, hcnt⟩) (fun _ e => nomatch e)
  ·refine Ex.seq (Γ1 := p.N k) (R1 := []) (Δ1 := p.D [] [] sk r) (Ex1.ite (CyP.in ok (fun x hx => .tail _ hx) (.head _)) (fun h => absurd h (by simp [hin])) fun _ => .nil rfl) ?_
   refine Ex.seqX (O1 := fun o => ∃ k' sk', o = .next (p.N k') [] (p.D [] [] sk' r) /\ cntF p.ks sk')
    (Ex1.while (fun n Γ R Δ => CyI p r n Γ R Δ) _ (fun n Γ R Δ hI => ⟨true, EtS.val (.of fun X => .bool) .bool, fun _ => Ex.weaken (cyc_turn ok hA hX hI (O := fun o => ∃ k' sk', o = .next (p.N k') [] (p.D [] [] sk' r) /\ cntF p.ks sk')) fun o ho => ?_, fun h => by cases h⟩) _
     (.mk k [] sk [] hkk ⟨(fun f h => nomatch h), (fun f h => nomatch h), .nil⟩ hcnt (Nat.zero_le _) (fun g h => nomatch h) rfl rfl)) ?_
   ·rcases ho with h | ⟨_, _, _, e, k', sk', h, rfl, rfl, rfl⟩ | h
    ·exact .inl h
    ·exact .inr (.inl ⟨_, _, _, e, k', sk', rfl, h⟩)
    ·exact .inr (.inr h)
   ·rintro _ ⟨k', sk', rfl, hc'⟩
    exact ⟨_, _, _, rfl, Ex.weak (Γ' := p.G) (fun p hp => .tail _ hp) (fun p hp => hp) (List.Sublist.refl _) (Ex.perm perm_cyc.symm (.nil (.inl ⟨_, _, _, .inl rfl, sk', rfl, rfl, rfl, hc'⟩)))⟩
 ·rintro _ _ _ ⟨sk, rfl, rfl, rfl, _⟩
  exact ⟨sk, rfl⟩
 ·rintro _ ⟨sk, rfl⟩
  exact ⟨_, _, _, rfl, .ret (.of fun X => .none) hO⟩
theorem c_cycle (W : Wd1 c mg mb) (hF : (F1 c.w).In c.base) (hl : l < 55) (dk : DKey c.w κ) (hsc : Scan dk) {ns : List (PN κ)} (hn : (ns.map (·.1)).Nodup) (hz : ns.length <= 3000) (hsz : ∀ n ∈ ns, n.2.2.length <= 10 ^ 5) (hsu : ∀ n ∈ ns, ∀ s ∈ n.2.2, s ∈ ns.map (·.1)) (rk : κ -> Nat) (hrk : ∀ n ∈ ns, ∀ s ∈ n.2.2, rk s < rk n.1) :
  ∀ A X s vs, Lev l A -> Bas c A X s.heap -> RdL c.w X s.heap vs [srtD 151 54 dk.enc ns] -> codeAny c.M A (.call (.ref 141) ⟨vs, []⟩) (retR (Yield c X s .none)) s := by
 obtain ⟨pm, code, doc, Fm⟩ := m_cycle hF W.lim
 refine fnC_ok (ps := ["self"]) Fm (show fnOk (dm1 9 8).scope _ = true by decide +kernel) rfl (by omega) (bind1 fun a => by rfl) fun A s0 ad X hX hA => ?_
 have hF' : (F1 c.w).In (c.push ad).base := hF
 refine Ex.new (.of fun X => Ev.fldI (F := F1 c.w) (C := 151) 0 hF' (.n m0) rfl rfl (by kernel_rfl)) ?_
 show Ex _ _ _ _ _ _ (delA _ [] ++ []) _ _
 refine Ex.newF (fun X => .nil) fun D1 _ => ?_
 refine Ex.newF (fun X => .nil) fun D2 h2 => ?_
 have g_set : Glb (c.push ad) "set" (.type "set") := (W.push ad).blt (by kernel_rfl) (by kernel_rfl)
 refine Ex.newRes (EvR.set (κ := κ) dk g_set) fun D3 r hr => ?_
 subst hr
 refine Ex.perm (perm_loop (D := delA _ [(D2, .data (.list [])), (D1, .data (.list []))]) (Δ := [])).symm.symm ?_
 refine Ex.newF (fun X => .dict0) fun D4 h4 => ?_
 have ok : CyOk (κ := κ) ⟨c, l, pm, code, doc, ad, X, dk, ns, rk, D1, D2, D3, D4⟩ := ⟨(W.push ad).sys, hF, (W.push ad).blt (by kernel_rfl) (by kernel_rfl), (W.push ad).blt (by kernel_rfl) (by kernel_rfl), g_len (W.push ad), hsc, hn, hz, hsu, hrk, fun e => h4 _ (.head _) e.symm, fun e => h4 _ (.tail _ (.head _)) e.symm, fun e => h2 _ (.head _) e.symm⟩
 exact cyc_body ⟨_, _, _, _, _, _, _, _, _, _, _, _, _, _⟩ ok hA hX (.inl rfl)
end
section
section
variable {c : Cfg} {κ : Type} [DecidableEq κ]
theorem rdl_swap {w : World} {X X' : List Addr} {h : Heap} {α : Type} {f g : α -> PyData} {l : List α} : ∀ {vs : List Value}, RdL w X h vs (l.map f) -> (∀ a ∈ l, ∀ v, Rd w X h v (f a) -> Rd w X' h v (g a)) -> RdL w X' h vs (l.map g) := by
 induction l with
 | nil => intro vs r _; rw [r.nil_inv]; exact .nil
 | cons a l ih =>
  intro vs r k
  obtain ⟨v, us, r1, r2⟩ := r.cons_inv
  exact .cons (k a (.head _) _ r1) (ih r2 fun b hb => k b (.tail _ hb))
theorem srt_rd {a : SA} {enc : κ -> PyData} (hfl : ∀ k, flat (enc k) = true) {st : St κ} {L : AObs} {X : List Addr} {h : Heap} (H : Srt a enc st L) (Ln : LentA c X h L) : Rd c.w (X.filter (· ∉ fpA L)) h (.ref a.S) (srtD a.T a.N enc st.abs) := by
 have off : ∀ {p : Addr × Desc}, p ∈ L -> ∀ b ∈ p.2.fp p.1, b ∉ X.filter (· ∉ fpA L) := fun {p} hp b hb z => by
  have hm : b ∈ fpA L := by unfold fpA; exact List.mem_flatMap.mpr ⟨p, hp, hb⟩
  exact (filter_fp b z).2 hm
 have at_ : ∀ {x : Addr} {D : Desc}, (x, D) ∈ L -> (resA c x D).P X h := fun hp => Ln.at_ _ (lM (f := fun p => resA c p.1 p.2) hp)
 obtain ⟨fs, s1, s2, _, _, _⟩ := H.self
 obtain ⟨sl, es, n, e1, e2, hk, hf, hg⟩ := at_ s1
 obtain ⟨v, hv, r⟩ := hf _ s2
 rw [rd_opq r] at hv
 refine .inst (us := [.ref a.N2]) (ws := []) (off s1 _ (.head _)) (off s1 _ (.tail _ (.head _))) e1 e2 ⟨fun p hp => ?_, fun p hp => nomatch hp⟩ (.cons ?_ .nil) .nil
 ·have hp' : p = ((("_node2info" : Str), Value.ref a.N2) : Str × Value) := by simpa using hp
  rw [hp']; exact hv
 ·have hN : Own1 c X h a.N2 (dD enc (st.nds.map fun n => (n.k, opq n.x))) := at_ H.map
  obtain ⟨es2, n2, f1, f2, f3, f4⟩ := (show DicI c.w X h a.N2 _ from hN)
  have k1 : ((st.nds.map fun n => (n.k, opq n.x)).map fun p => (enc p.1, p.2)).map (·.1) = st.nds.map fun n => enc n.k := by simp [List.map_map, Function.comp_def]
  have k2 : ((st.abs.map fun n => (n.1, ndD a.N enc n)).map fun p => (enc p.1, p.2)).map (·.1) = st.nds.map fun n => enc n.k := by simp [St.abs, List.map_map, Function.comp_def]
  have v1 : ((st.nds.map fun n => (n.k, opq n.x)).map fun p => (enc p.1, p.2)).map (·.2) = st.nds.map fun n => opq n.x := by simp [List.map_map, Function.comp_def]
  have v2 : ((st.abs.map fun n => (n.1, ndD a.N enc n)).map fun p => (enc p.1, p.2)).map (·.2) = st.nds.map fun n => ndD a.N enc (n.k, n.np, n.su) := by simp [St.abs, List.map_map, Function.comp_def]
  rw [k1] at f2 f3
  rw [v1] at f4
  refine .dict (off H.map _ (.head _)) f1 (by rw [k2]; exact f2) (by rw [k2]; exact f3) ?_
  rw [v2]
  refine rdl_swap f4 fun n hn v rv => ?_
  rw [rd_opq rv]
  obtain ⟨⟨gs, g1, g2, g3, g4⟩, g5⟩ := H.nd n hn
  obtain ⟨sl3, es3, n3, i1, i2, ik, iff, igg⟩ := at_ g1
  obtain ⟨v0, j0, r0⟩ := igg _ g2
  obtain ⟨v1, j1, r1⟩ := igg _ g3
  obtain ⟨v2, j2, r2⟩ := igg _ g4
  rw [rd_opq r2] at j2
  refine .inst (us := []) (ws := [v0, v1, .ref n.li]) (off g1 _ (.head _)) (off g1 _ (.tail _ (.head _))) i1 i2 ⟨(fun p hp => nomatch hp), fun p hp => ?_⟩ .nil (.cons (r0.flat (hfl _)) (.cons (r1.flat rfl) (.cons ?_ .nil)))
  ·have hp' : p = (0, v0) \/ p = (1, v1) \/ p = (2, Value.ref n.li) := by simpa using hp
   rcases hp' with rfl | rfl | rfl
   ·exact j0
   ·exact j1
   ·exact j2
  ·have hl : Own1 c X h n.li (.list (n.su.map enc)) := at_ g5
   exact hl.rd (off g5 _ (.head _)) fun b hb => (filter_fp b hb).1
theorem Sat.viewS {K : Act} {A : Around} {s0 s : Shared} {X : List Addr} {Γ : Gam} {R : Ros} {Δ : Del K} {L : AObs} {a : SA} {enc : κ -> PyData} (hfl : ∀ k, flat (enc k) = true) {st : St κ} {x : Str} (H : Srt a enc st L) (S : Sat K X Γ R (delA K.c L ++ Δ) A s0 s) (hx : (x, opq a.S) ∈ Γ) :
  Good K.c A (X.filter (· ∉ fpA L)) K.env ((x, srtD a.T a.N enc st.abs) :: Γ) s.heap := by
 have hF : ∀ b ∈ K.c.fr, b ∈ X.filter (· ∉ fpA L) := fun b hb => List.mem_filter.mpr ⟨S.good.bas.frs b hb, by simpa using fun z => (S.lentA.off b z).2.2 hb⟩
 have G1 : Good K.c A (X.filter (· ∉ fpA L)) K.env Γ s.heap := { S.good with
   bas := { S.good.bas with alloc := fun b hb => S.good.bas.alloc b (filter_fp b hb).1, frs := hF }
   vars := fun p hp => let ⟨v, H, r⟩ := S.good.vars p hp; ⟨v, H, r.sub fun b hb => (filter_fp b hb).1⟩ }
 obtain ⟨v, Hv, rv⟩ := S.good.vars _ hx
 rw [rd_opq rv] at Hv
 exact G1.put Hv (srt_rd hfl H S.lentA)
theorem Ex1.setFFv {K : Act} {A : Around} {s0 : Shared} {E : Err} {Γ : Gam} {R : Ros} {Δ : Del K} {L : AObs} {F : Frag} {o e : Expr} {name : Str} {np pos : Pos} {a C dx : Addr} {ns : List Str} {fs : List (Str × PyData)} {gs : List (Nat × PyData)} {d : PyData} (hF : F.In K.c.base)
  (hv : ∀ s X, Sat K X Γ R (delA K.c L ++ Δ) A s0 s -> wpAny K.c.M A (eval e K.env) (FrP K.c X d s) NoE s) (ho : ∀ D, EvS K A s0 E Γ R (delA K.c ((D, .data d) :: L) ++ Δ) o (opq a)) (h : (a, .inst C dx ns fs gs) ∈ L) (hk : okA F C name = true) (hz : ns.length <= 100)
  (hs : autoParam (swapsWith e (some (.Attribute o name np)) pos.line K.env = pure false) aR) : Ex1 K A s0 E Γ R (delA K.c L ++ Δ) (.Assign [.Attribute o name np] e pos) (fun q => ∃ D, (∀ p ∈ L, p.1 ≠ D) /\ q = .next Γ R (delA K.c ((D, .data d) :: updA L a (.inst C dx (putNs name ns) (putF name [opq D] fs) gs)) ++ Δ)) := fun s X S =>
 plainObj_wpAny_Assign_Attribute (wM (hv s X S) (fun v s1 q => by
  obtain ⟨p, D, hD, od⟩ := q
  have S1 : Sat K (D :: X) Γ R (delA K.c ((D, .data d) :: L) ++ Δ) A s0 s1 := S.take p hD od
  exact (ho D).ref S1 fun s2 S2 => Mine.setF hF S2 (.tail _ h) hk hz (ds := [opq D]) (fun d' hd' => lS hd' ▸ .opq D) fun s3 S3 => ⟨_, _, _, _, ⟨D, S1.headNe, rfl⟩, (updA_cons (Ne.symm (S1.headNe _ h))) ▸ S3⟩) fun _ _ f => f.elim) hs
end
variable {c : Cfg} {l : Nat} {mg mb : Str -> Option Value} {κ : Type} [DecidableEq κ]
noncomputable def readyP (ns : List (PN κ)) : List κ := (ns.filter fun n => n.2.1 == 0).map (·.1)
noncomputable def PrepQ (a : SA) (enc : κ -> PyData) (st : St κ) (L : AObs) : PyData -> AObs -> Prop := fun d L' => d = .none /\ ∃ RL, SI a enc L st.abs (some (RL, readyP st.abs)) st.po st.nf L'
theorem c_prepare (W : Wd1 c mg mb) (hF : (F1 c.w).In c.base) (hl : l < 52) (dk : DKey c.w κ) (hsc : Scan dk) {S Sx N2 : Addr} {st : St κ} {L : AObs} (h : Srt (sa1 S Sx N2) dk.enc st L) (hr : st.rn = none) (hz : st.nds.length <= 3000) (hsz : ∀ n ∈ st.abs, n.2.2.length <= 10 ^ 5) (hsu : ∀ n ∈ st.abs, ∀ s ∈ n.2.2, s ∈ st.keys) (rk : κ -> Nat) (hrk : ∀ n ∈ st.abs, ∀ s ∈ n.2.2, rk s < rk n.1) :
  FnA c l 106 [opq S] L (PrepQ (sa1 S Sx N2) dk.enc st L) := by
 obtain ⟨pm, code, doc, Fm⟩ := m_prepare hF W.lim
 refine fnA_ok (ps := ["self"]) Fm (show fnOk (dm1 9 3).scope _ = true by decide +kernel) (by omega) rfl (bindOk rfl (bind1 fun a => by rfl)) fun A s0 ad X0 hX hA => ?_
 have hF' : (F1 c.w).In (c.push ad).base := hF
 obtain ⟨fs, s1, s2, s3, s4, s5⟩ := h.self
 rw [hr] at s3
 have e0 : ∀ (K : Act) (L : AObs), delA K.c L = delA K.c L ++ ([] : Del K) := fun K L => (List.append_nil _).symm
 rw [e0]
 refine Ex.seq (Γ1 := [("self", opq S)]) (R1 := []) (Δ1 := delA _ L ++ []) (Ex1.ite (EtS.isNotNone (EvS.fld (F := F1 c.w) hF' (.n m0) s1 s3 (by kernel_rfl))) (fun h => by cases h) fun _ => .nil rfl) ?_
 refine Ex.seqX (Ex1.setFFv (F := F1 c.w) (d := .list ((readyP st.abs).map dk.enc)) (C := 151) (dx := Sx) (ns := sN) (fs := fs) (gs := []) (a := S) hF' (fun s X SS => ?_) (fun D => .n m0) s1 (by kernel_rfl) (by decide)) fun o ho => ?_
 ·have G := SS.viewS (x := "self") dk.flat h (.head _)
  have inj : ∀ a b : PN κ, ndD 54 dk.enc a = ndD 54 dk.enc b -> a = b := fun a b e => by
   obtain ⟨a1, a2, a3⟩ := a
   obtain ⟨b1, b2, b3⟩ := b
   simp only [ndD, PyData.dict.injEq, List.cons.injEq, Prod.mk.injEq, PyData.list.injEq, PyData.int.injEq, and_true, true_and] at e
   obtain ⟨e1, e2, e3⟩ := e
   have h1 := dk.inj _ _ e1
   have h3 := inj_list dk.inj a3 b3 (congrArg PyData.list e3)
   rw [h1, e2, h3]
  refine wK ((show EvF (c.push ad) (l + 1) _ _ [("self", srtD 151 54 dk.enc st.abs), ("self", opq S)] _ (.list ((readyP st.abs).map dk.enc)) from ?ev) A s SS.lev G) (fun v s1 q => ?_)
  case ev =>
   refine EvC.fresh (EvC.as (EvC.nmIf (c := c.push ad) (L := st.abs) (g := ndD 54 dk.enc) (Γc := []) (fun n : PN κ => n.2.1 == 0) (fun n => dk.enc n.1) inj (EvI.ofVals (c := c.push ad) dk (W.push ad).sys (ks := st.abs.map (·.1)) (ds := st.abs.map (ndD 54 dk.enc)) (by simp) (Ev.as (Ev.fldI (F := F1 c.w) (C := 151) 0 hF' (.n m0) rfl rfl (by kernel_rfl)) ?_)) .nil
    (fun cs C XL n _ => .cmp (Ev.sltI (F := F1 c.w) (p := 56) (i := 1) 1 hF' (.n m0) rfl rfl (by kernel_rfl)) .int .eqI) (fun cs C XL n _ _ => Ev.sltI (F := F1 c.w) (p := 55) (i := 0) 0 hF' (.n m0) rfl rfl (by kernel_rfl)) (by rw [abs_len]; omega)) ?_)
   ·rw [dD_eq]
    simp [List.map_map, Function.comp_def]
   ·simp [readyP, List.map_map, Function.comp_def]
  obtain ⟨p, D, hD, us, n, e, r⟩ := q
  exact ⟨p, D, hD, us, n, e, rdl_swap (f := dk.enc) (g := dk.enc) r fun k _ v rv => rv.flat (dk.flat k)⟩
 ·obtain ⟨D, hD, rfl⟩ := ho
  refine ⟨_, _, _, rfl, ?_⟩
  obtain ⟨H2, hE2⟩ := h.setP (r := D) (ks := readyP st.abs) (fs' := putF "_ready_nodes" [opq D] fs) hr (fun hm => by obtain ⟨p, hp, e⟩ := List.mem_map.mp hm; exact hD p hp e) (putF_other s2) putF_same (putF_other s4) (putF_other s5)
  have hab : ({ st with rn := some (D, readyP st.abs) } : St κ).abs = st.abs := rfl
  obtain ⟨fs2, t1, t2, _, _, _⟩ := H2.self
  refine Ex.newX (EvX.meth (F := F1 c.w) (f := 141) hF' (.n m0) t1 (by kernel_rfl) (by decide +kernel) (keep_K hF' (by kernel_rfl)) (FnA.ofC rfl (c_cycle (W.push ad) hF' (show l + 1 < 55 by omega) dk hsc (ns := st.abs) (by rw [abs_keys]; exact h.nk) (by rw [abs_len]; exact hz) hsz (by rw [abs_keys]; exact hsu) rk hrk) (fun X hp hFr Ln => srt_rd dk.flat H2 Ln)) .nil) ?_
  rintro d L2 ⟨rfl, rfl⟩
  refine Ex.seq (Γ1 := [("cycle", .none), ("self", opq S)]) (R1 := []) (Ex1.ite (EtS.val (.n m0) .none) (fun h => by cases h) fun _ => .nil rfl) (.nil ?_)
  exact ⟨rfl, _, by rw [List.append_nil]; exact List.Sublist.refl _, ⟨rfl, D, _, H2, hE2, rfl, rfl, rfl, rfl⟩, hE2⟩
end
section
variable {c : Cfg} {l : Nat} {mg mb : Str -> Option Value}
theorem scan_int {w : World} : Scan (intD w) := fun k v X h r => by
 obtain ⟨t⟩ := Rd.int_inv r
 rfl
theorem g_sorter (W : Wd1 c mg mb) (hF : (F1 c.w).In c.base) : Glb c "TopologicalSorter" (.ref 151) := glb_g W.g (mg_of hF W.g (by kernel_rfl))
theorem k_sorter (W : Wd1 c mg mb) (hF : (F1 c.w).In c.base) : Keep0 c (.ref 151) := keep_K hF (by kernel_rfl)
theorem c_new {κ : Type} [DecidableEq κ] (W : Wd1 c mg mb) (hF : (F1 c.w).In c.base) (hl : l < 46) (dk : DKey c.w κ) (g : List (κ × List κ)) (hz : gsz g <= 10 ^ 5) :
  FnA c l 151 [graphD dk.enc g] [] (fun d L' => ∃ x dx, d = opq x /\ x ∈ fpA L' /\ ∃ N2, InitQ (sa1 x dx N2) dk.enc [(x, .inst 151 dx [] [] [])] g L') :=
 makeA (F := F1 c.w) (fI := 87) hF (by omega) (by kernel_rfl) (by kernel_rfl) (by kernel_rfl) fun x dx => c_tinit W hF (by omega) dk g hz
theorem remD_int {k : Int} {l : List Int} :  remD (.int k) (l.map .int) = (l.erase k).map .int := by
 induction l with
 | nil =>
  exact rfl
 | cons x l ih =>
  rw [List.map_cons]
  unfold remD
  by_cases h : x = k
  ·subst h
   simp [PyData.eqv, List.erase_cons_head]
  ·have e : PyData.eqv (.int x) (.int k) = false := by simp [PyData.eqv, h]
   rw [e, ih, List.erase_cons_tail (by simpa using h)]
   simp
noncomputable def sim0 (g : List (Int × List Int)) (num : Int) : Sim Int := ⟨initP g, readyP (initP g), 0, 0, [], num, []⟩
theorem run_stop {κ : Type} [DecidableEq κ] {s : Sim κ} (h : s.act = false) : ∀ n, Sim.run n s = s
 | 0 => rfl
 | n + 1 => by unfold Sim.run; rw [h]; rfl
theorem outP_keys {κ : Type} [DecidableEq κ] : ∀ {ks : List κ} {ns : List (PN κ)}, (outP ks ns).map (·.1) = ns.map (·.1)
 | [], _ => rfl
 | k :: ks, ns => by
  show (outP ks (upP ns k (npP (-1)))).map (·.1) = _
  exact outP_keys.trans (up_keys (g := npP (-1)) fun _ => rfl)
theorem outP_su {κ : Type} [DecidableEq κ] {ks : List κ} : ∀ {ns : List (PN κ)} {n : PN κ}, n ∈ outP ks ns -> ∃ m ∈ ns, m.1 = n.1 /\ m.2.2 = n.2.2 := by
 induction ks with
 | nil =>
  intro _ n h
  exact ⟨n, h, rfl, rfl⟩
 | cons k ks ih =>
  intro ns n h
  obtain ⟨m, hm, e1, e2⟩ := ih (ns := upP ns k (npP (-1))) h
  obtain ⟨m', hm', rfl⟩ := mem_upP hm
  refine ⟨m', hm', ?_, ?_⟩
  ·rw [<- e1]; split <;> rfl
  ·rw [<- e2]; split <;> rfl
set_option genInjectivity false in
set_option genSizeOf false in
structure OrP where
 c : Cfg
 l : Nat
 pm : Value
 code : Value
 doc : Value
 La : Addr
 ad : Addr
 X : List Addr
 x : Addr
 dx : Addr
 N2 : Addr
 RL : Addr
 D1 : Addr
 D2 : Addr
 g : List (Int × List Int)
 z : Sim Int
 M : Nat
 N : Nat
 I : Sim Int -> Prop
noncomputable def OrP.K (p : OrP) : Act := fnAct p.c p.l (fdOf (dr1 28) p.pm p.code p.doc) p.La p.ad p.X
noncomputable def OrP.a (p : OrP) : SA := sa1 p.x p.dx p.N2
noncomputable def OrP.G (p : OrP) (s : Sim Int) : Gam := [("number", .int s.num), ("sorter", opq p.x)]
noncomputable def OrP.R (p : OrP) : Ros := [("free", p.D2), ("order", p.D1)]
noncomputable def OrP.D (p : OrP) (L : AObs) (s : Sim Int) : Del p.K := delA p.K.c L ++ [resO p.K.c p.D2 (iL s.free), resO p.K.c p.D1 (iL s.order)]
inductive OrI (p : OrP) (n : Nat) : Gam -> Ros -> Del p.K -> Prop
 | mk (s : Sim Int) (st : St Int) (L : AObs) (hI : p.I s) (hn : n + s.order.length = p.M) (hrun : Sim.run n s = Sim.run p.M p.z) (H : Srt p.a (intD p.c.w).enc st L) (a1 : st.abs = s.ns) (a2 : st.rn = some (p.RL, s.rd)) (a3 : st.po = s.po) (a4 : st.nf = s.nf) :
   OrI p n (p.G s) p.R (p.D L s)
inductive OrO (p : OrP) : Out p.K -> Prop
 | mk (s : Sim Int) (L : AObs) (h : s.order = (Sim.run p.M p.z).order) : OrO p (.next (p.G s) p.R (p.D L s))
noncomputable def ordW : Expr × List Stmt := match (dr1 28).body.drop 3 with
 | .While t b _ _ :: _ => (t, b)
 | _ => (.Constant .none 0 ⟨0, 0, 0, 0⟩, [])
theorem sim_cut {s : Sim Int} (h : s.all ≠ []) : ∃ k, s.cut = some k /\ 0 <= s.num.fmod s.all.length /\ s.num.fmod s.all.length < s.all.length := by
 have hpos : 0 < s.all.length := List.length_pos_iff.mpr h
 have h1 := Int.fmod_nonneg_of_pos s.num (show (0 : Int) < s.all.length by omega)
 have h2 := Int.fmod_lt_of_pos s.num (show (0 : Int) < s.all.length by omega)
 unfold Sim.cut
 exact ⟨_, List.getElem?_eq_getElem (show (s.num.fmod s.all.length).toNat < s.all.length by omega), h1, h2⟩
theorem ord_turn (p : OrP) (W : Wd1 (p.c.push p.La) mg mb) (hF : (F1 p.c.w).In (p.c.push p.La).base) (hl : p.l < 40) (hN : p.N <= 10 ^ 4) (hM : p.M <= 1000) (hI : ∀ s, p.I s -> SimPre ((initP p.g).map (·.1)) p.N p.M s) (hs : ∀ s, p.I s -> s.act = true -> p.I s.step) {A : Around} {s0 : Shared} {n : Nat} {Γ : Gam} {R : Ros} {Δ : Del p.K} (hi : OrI p n Γ R Δ) :
  ∃ b, EtX p.K A s0 NoE Γ R Δ ordW.1 b /\ (b = true -> Ex p.K A s0 NoE Γ R Δ ordW.2 fun o => (∃ m Γ' R' Δ', m < n /\ (o = .next Γ' R' Δ' \/ o = .cont Γ' R' Δ') /\ OrI p m Γ' R' Δ') \/ (∃ Γ' R' Δ', o = .brk Γ' R' Δ' /\ OrO p (.next Γ' R' Δ')) \/ ∃ d, o = .ret d /\ OrO p (.ret d)) /\ (b = false -> OrO p (.next Γ R Δ)) := by
 obtain ⟨s, st, L', hIs, hn, hrun, Hs, a1, a2, a3, a4⟩ := hi
 have hp := hI s hIs
 have hrdl : s.rd.length <= 10 ^ 5 := by
  have := hp.all
  unfold Sim.all at this
  rw [List.length_append] at this
  omega
 obtain ⟨fs', t1, _, _, _, _⟩ := Hs.self
 refine ⟨s.act, EtX.of (d := .bool s.act) (EvX.of (EvX.meth (F := F1 p.c.w) (f := 120) hF (.n m1) t1 (by kernel_rfl) (by decide +kernel) (keep_K hF (by kernel_rfl)) (c_act W hF (show p.l + 1 < 58 by omega) (intD p.c.w) Hs a2 (by omega)) .nil) fun d L2 h => ⟨?_, h.2⟩) .bool, fun hact => ?_, fun hact => ?_⟩
 ·rw [h.1, a3, a4]; rfl
 ·have hkeys : st.keys = (initP p.g).map (·.1) := by rw [<- abs_keys, a1, hp.ks]
  have hall := hp.all
  have hallne := hp.ne hact
  have hord := hp.ord hact
  obtain ⟨k, hcut, hf1, hf2⟩ := sim_cut hallne
  have hkall : k ∈ s.all := lG hcut
  refine Ex.seqX (Ex1.extendX (x := "free") (D := p.D2) (ds := s.free.map .int) (P := fun d L2 => d = .list (s.rd.map .int) /\ SI (p.a) (intD p.c.w).enc L' (outP s.rd st.abs) (some (p.RL, [])) (st.po + s.rd.length) st.nf L2) m0
   (EvX.call1 (EvX.meth (F := F1 p.c.w) (f := 113) hF (.n m1) t1 (by kernel_rfl) (by decide +kernel) (keep_K hF (by kernel_rfl)) (c_ready W hF (show p.l + 1 < 55 by omega) (intD p.c.w) Hs a2 (fun k hk => by rw [hkeys]; exact hp.key k (lR _ hk)) hrdl) .nil) (g_list W) keep_type
    (fun d L2 h => ⟨_, by rw [h.1]; exact CallOk.listT (by rw [List.length_map]; omega), rfl, h.2⟩)) (fun d L2 h => ⟨_, h.1, by
     unfold Sim.all at hall
     rw [List.length_append] at hall
     rw [List.length_map, List.length_map]; omega⟩) (of_decide_eq_true (by kernel_rfl)) (fun q hq => ?_) (fun q hq e => ?_)) ?_
  ·exact fun e => off_of (xs := ["free"]) (by kernel_rfl) q hq (e ▸ .head _)
  ·rcases lC hq with rfl | hq
   ·rfl
   ·exact absurd e (neR (x := "free") (R := [("order", p.D1)]) (by kernel_rfl) q hq)
  ·rintro _ ⟨es, L2, ⟨hes, st2, H2, hE2, d1, d2, d3, d4⟩, rfl⟩
   refine ⟨_, _, _, rfl, ?_⟩
   cases hes
   rw [<- List.map_append]
   have hk2 : st2.abs.map (·.1) = (initP p.g).map (·.1) := by rw [d1, outP_keys, a1, hp.ks]
   have hk2' : st2.keys = (initP p.g).map (·.1) := by rw [<- abs_keys, hk2]
   have hsub : ∀ n ∈ st2.nds, ∃ m ∈ s.ns, m.1 = n.k /\ m.2.2 = n.su := fun n hn => by
    have := mem_abs hn
    rw [d1, a1] at this
    exact outP_su this
   have hlenF : Fn (p.c.push p.La) (p.l + 1) "len" [iL s.all] (.int s.all.length) := by
    have := Fn.of (g_len W) (CallOk.lenL (l := p.l + 1) (ds := s.all.map .int) (by rw [List.length_map]; omega))
    rw [List.length_map] at this
    exact this
   have hpos : 0 < s.all.length := List.length_pos_iff.mpr hallne
   refine Ex.new (d := .int k) (EvS.view (x := "free") (D := p.D2) (d := iL s.all) (r := .int k) m0 (lR _ m0) (.inl rfl) (fun X => Ev.item (i := s.num.fmod s.all.length) (.n m0) (.binop (.n m1) (.callF hlenF (.cons (.n m0) .nil)) (.mod (by omega))) hf1 (by omega) (by rw [List.getElem?_map]; unfold Sim.cut at hcut; rw [hcut]; rfl))) ?_
   refine Ex.seq (Ex1.assign (x := "number") (d := .int (s.num.fdiv 3)) (.of fun X => .binop (.n m1) .int (.div (by decide) (PyProof.noPylong_of_log2 (by decide)))) (of_decide_eq_true (by kernel_rfl)) (neR (by kernel_rfl))) ?_
   show Ex _ _ _ _ [("number", .int (s.num.fdiv 3)), ("cut", .int k), ("sorter", opq p.x)] _ _ _ _
   have eAB := hkeys
   refine Ex.perm List.perm_middle ?_
   refine Ex.seq (Ex1.removeOk (x := "free") (D := p.D2) (ds := s.all.map .int) (d := .int k) m0 (.n m1) (by rw [List.length_map]; omega) (fun y hy => by obtain ⟨i, _⟩ := mem_mapI hy; rfl) rfl (by simp [PyData.depth]) (List.any_eq_true.mpr ⟨.int k, lM hkall, by simp [PyData.eqv]⟩)) ?_
   rw [remD_int]
   refine Ex.perm List.perm_middle.symm ?_
   obtain ⟨fs2, u1, _, _, _, _⟩ := H2.self
   refine Ex.seqX (Ex1.exprX (EvX.meth (F := F1 p.c.w) (f := 134) hF (.n m2) u1 (by kernel_rfl) (by decide +kernel) (keep_K hF (by kernel_rfl)) (c_done W hF (show p.l + 1 < 55 by omega) (intD p.c.w) H2 (rd := []) (ks := [k]) d2 (fun k' hk' => ?_) (fun n hn x hx => ?_) (fun i k' hik => ?_) (N := p.N) (fun n hn => ?_) (by simp; omega) (by simp)) (.one (.n m1))) fun d L' h => h.1) ?_
   ·rw [lS hk', hk2']
    exact hp.key k hkall
   ·obtain ⟨m, hm, _, e⟩ := hsub n hn
    rw [hk2']
    exact hp.suk m hm x (e ▸ hx)
   ·cases i with
    | zero =>
     cases hik
     show npOf st2.abs k = -1
     rw [d1, a1]
     exact hp.out k hkall
    | succ i => cases hik
   ·obtain ⟨m, hm, _, e⟩ := hsub n hn
    rw [<- e]
    exact hp.sul m hm
   ·rintro _ ⟨d, L5, ⟨rfl, st5, H5, hE5, f1, f2, f3, f4⟩, rfl⟩
    refine ⟨_, _, _, rfl, ?_⟩
    refine Ex.perm permA ?_
    refine Ex.seq (Ex1.append (x := "order") (D := p.D1) (ds := s.order.map .int) (d := .int k) m1 (.n m1) (by rw [List.length_map]; omega)) ?_
    refine Ex.weak (Γ' := [("number", .int (s.num.fdiv 3)), ("sorter", opq p.x)]) (sub_cons m0 (sub_cons m2 sub_nil)) (fun _ h => h) (List.Sublist.refl _) ?_
    refine Ex.perm permA.symm ?_
    have hstep : s.step = ⟨(doneP [k] (outP s.rd s.ns, [])).1, (doneP [k] (outP s.rd s.ns, [])).2, s.po + s.rd.length, s.nf + 1, s.all.erase k, s.num.fdiv 3, s.order ++ [k]⟩ := by
     unfold Sim.step
     rw [hcut]
    obtain ⟨n', rfl⟩ : ∃ n', n = n' + 1 := ⟨n - 1, by omega⟩
    have fin : OrI p n' (p.G s.step) p.R (p.D L5 s.step) := .mk s.step st5 L5 (hs s hIs hact) (by
      rw [hstep, <- hn, List.length_append]
      exact (Nat.add_right_comm n' _ 1)) (by
      rw [<- hrun]
      conv => rhs; unfold Sim.run
      rw [hact]; rfl) H5 (by rw [f1, hstep, d1, a1]) (by rw [f2, hstep, d1, a1]) (by rw [f3, hstep, d3, a3]) (by rw [f4, hstep, d4, a4]; rfl)
    refine .nil (.inl ⟨n', _, _, _, Nat.lt_succ_self _, .inl rfl, ?_⟩)
    unfold OrP.G OrP.D at fin
    rw [hstep] at fin
    rw [show iL (s.order ++ [k]) = .list (s.order.map .int ++ [.int k]) by simp [iL]] at fin
    exact fin
 ·exact .mk s L' (by rw [<- hrun, run_stop hact])
theorem c_order (W : Wd1 c mg mb) (hF : (F1 c.w).In c.base) (hl : l < 40) (g : List (Int × List Int)) (num : Int) (hz : gsz g <= 1000) (rk : Int -> Nat) (hrk : ∀ n ∈ initP g, ∀ s ∈ n.2.2, rk s < rk n.1) (hsu : ∀ n ∈ initP g, ∀ s ∈ n.2.2, s ∈ (initP g).map (·.1))
  {N M : Nat} (hN : N <= 10 ^ 4) (hM : M <= 1000) (I : Sim Int -> Prop) (h0 : I (sim0 g num)) (hI : ∀ s, I s -> SimPre ((initP g).map (·.1)) N M s) (hs : ∀ s, I s -> s.act = true -> I s.step) :
  Fn c l "_law_order" [graphD .int g, .int num] (iL (Sim.run M (sim0 g num)).order) := by
 refine W.call (dr1 28) (mem_at (i := 12) (by kernel_rfl)) ["waits", "number"] (by decide +kernel) rfl (by omega) (fun pm code doc => bind2 fun a b => by rfl) fun A s0 ad La X pm code doc hX hA => ?_
 have hF' : (F1 c.w).In (c.push La).base := hF
 have hlim : limP (gsz g) (initP g) := by
  have := lim_init (g := g) (N := 0) (ns := []) ⟨Nat.le_refl _, fun _ h => nomatch h⟩
  rwa [Nat.zero_add] at this
 show Ex _ _ _ _ _ _ (delA _ [] ++ []) _ _
 refine Ex.newX (EvX.cls (g_sorter (W.push La) hF') (k_sorter (W.push La) hF') (c_new (W.push La) hF' (show l + 1 < 46 by omega) (intD c.w) g (by omega)) (.one (.n m0))) ?_
 rintro d L1 ⟨L2, ⟨x, dx, rfl, _, N2, st, H, _, hab, b1, b2, b3⟩, rfl⟩
 rw [List.append_nil L2]
 obtain ⟨fs, s1, _, _, _, _⟩ := H.self
 have hlen : st.nds.length <= 3000 := by rw [<- abs_len, hab]; have := hlim.1; omega
 refine Ex.seqX (Ex1.exprX (EvX.meth (F := F1 c.w) (f := 106) hF' (.n m0) s1 (by kernel_rfl) (by decide +kernel) (keep_K hF' (by kernel_rfl)) (c_prepare (W.push La) hF' (show l + 1 < 52 by omega) (intD c.w) scan_int H b1 hlen (by rw [hab]; intro n hn; have := hlim.2 n hn; omega) (by rw [hab, <- abs_keys, hab]; exact hsu) rk (by rw [hab]; exact hrk)) .nil) fun d L' h => h.1) ?_
 rintro _ ⟨d, L3, ⟨rfl, RL, st3, H3, hE3, hab3, c1, c2, c3⟩, rfl⟩
 refine ⟨_, _, _, rfl, ?_⟩
 refine Ex.two (k := fun D1 D2 hne => ?_)
 refine Ex.toR (x := "order") (D := D1) m0 (Ex.toR (x := "free") (D := D2) m1 ?_)
 refine Ex.weak (Γ' := [("number", .int num), ("sorter", opq x)]) (fun p hp => by
  rcases lC hp with rfl | hp
  ·exact m4
  ·rw [lS hp]; exact m2) (fun p hp => hp) (List.Sublist.refl _) ?_
 refine Ex.perm (Δ' := delA _ L3 ++ [resO _ D2 (iL []), resO _ D1 (iL [])]) (by rw [List.append_nil]; exact List.perm_append_comm) ?_
 have g0 : ∃ m, m + (sim0 g num).order.length = M /\ Sim.run m (sim0 g num) = Sim.run M (sim0 g num) := ⟨M, rfl, rfl⟩
 refine Ex.seqX (Ex1.whileX (fun n Γ R Δ => OrI ⟨c, l, pm, code, doc, La, ad, X, x, dx, N2, RL, D1, D2, g, sim0 g num, M, N, I⟩ n Γ R Δ) _ (fun n Γ R Δ hi => ord_turn _ (W.push La) hF' hl hN hM hI hs hi) M
  (.mk (sim0 g num) st3 L3 h0 rfl rfl H3 (hab3.trans hab) (by rw [c1, hab]; rfl) (c2.trans b2) (c3.trans b3))) ?_
 rintro _ ⟨s, L', e⟩
 refine ⟨_, _, _, rfl, ?_⟩
 rw [<- e]
 refine Ex.weak (Γ' := []) (R' := [("order", D1)]) (Δ' := [resO _ D1 (iL s.order)]) (fun p hp => nomatch hp) (fun p hp => .tail _ hp) ?_ (Ex.freeze hX (.ret (.of fun X => .n m0) (.inl rfl)))
 exact List.sublist_append_of_sublist_right (List.sublist_cons_self ..)
end
section
section
variable {κ : Type} [DecidableEq κ]
noncomputable def cntZ (Z : List (κ × List κ)) (ex : List κ) (x : κ) : Nat := ((Z.filter fun p => decide (p.1 ∉ ex)).map fun p => p.2.count x).sum
noncomputable def shpP (ns : List (PN κ)) : List (κ × List κ) := ns.map fun n => (n.1, n.2.2)
theorem npOf_nil {x : κ} : npOf ([] : List (PN κ)) x = 0 := rfl
theorem npOf_cons {n : PN κ} {ns : List (PN κ)} {x : κ} : npOf (n :: ns) x = if n.1 = x then n.2.1 else npOf ns x := by
 unfold npOf
 rw [List.find?_cons]
 by_cases h : n.1 = x <;> simp [h]
theorem suOf_cons {n : PN κ} {ns : List (PN κ)} {x : κ} : suOf (n :: ns) x = if n.1 = x then n.2.2 else suOf ns x := by
 unfold suOf
 rw [List.find?_cons]
 by_cases h : n.1 = x <;> simp [h]
theorem npOf_up {k x : κ} {v : Int} {ns : List (PN κ)} :  k ∈ ns.map (·.1) -> npOf (upP ns k (npP v)) x = if x = k then v else npOf ns x := by
 induction ns with
 | nil =>
  intro h
  exact nomatch h
 | cons n ns ih =>
  intro h
  show npOf ((if n.1 = k then npP v n else n) :: upP ns k (npP v)) x = _
  rw [npOf_cons, npOf_cons]
  by_cases hn : n.1 = k
  ·rw [if_pos hn]
   show (if n.1 = x then v else _) = _
   by_cases hx : x = k
   ·simp [hx, hn]
   ·have h1 : ¬ n.1 = x := fun e => hx (by rw [<- e, hn])
    rw [if_neg h1, if_neg hx, if_neg h1]
    by_cases hk : k ∈ ns.map (·.1)
    ·rw [ih hk, if_neg hx]
    ·have : upP ns k (npP v) = ns := by
      unfold upP
      conv => rhs; rw [<- List.map_id ns]
      exact List.map_congr_left fun m hm => if_neg fun e : m.1 = k => hk (by rw [<- e]; exact lM (f := (·.1)) hm)
     rw [this]
  ·rw [if_neg hn]
   have hk : k ∈ ns.map (·.1) := by
    rcases lC h with e | e
    ·exact absurd e.symm hn
    ·exact e
   rw [ih hk]
   by_cases hx : x = k
   ·have h1 : ¬ n.1 = x := fun e => hn (by rw [e, hx])
    simp [hx, hn]
   ·simp [hx]
theorem shp_up {ns : List (PN κ)} {k : κ} {v : Int} : shpP (upP ns k (npP v)) = shpP ns := by
 unfold shpP upP
 rw [List.map_map]
 refine List.map_congr_left fun n _ => ?_
 simp only [Function.comp]
 split <;> rfl
theorem keys_up {ns : List (PN κ)} {k : κ} {v : Int} : (upP ns k (npP v)).map (·.1) = ns.map (·.1) := by
 unfold upP
 rw [List.map_map]
 refine List.map_congr_left fun n _ => ?_
 simp only [Function.comp]
 split <;> rfl
theorem suOf_shp {x : κ} : ∀ {ns ms : List (PN κ)}, shpP ns = shpP ms -> suOf ns x = suOf ms x
 | [], [], _ => rfl
 | [], _ :: _, h => nomatch h
 | _ :: _, [], h => nomatch h
 | n :: ns, m :: ms, h => by
  simp only [shpP, List.map_cons, List.cons.injEq, Prod.mk.injEq] at h
  rw [suOf_cons, suOf_cons, h.1.1, h.1.2, suOf_shp (ns := ns) (ms := ms) h.2]
theorem out_np {x : κ} {ks : List κ} : ∀ {ns : List (PN κ)}, (∀ k ∈ ks, k ∈ ns.map (·.1)) -> npOf (outP ks ns) x = if x ∈ ks then -1 else npOf ns x := by
 induction ks with
 | nil =>
  intro ns _
  simp [outP]
 | cons k ks ih =>
  intro ns h
  show npOf (outP ks (upP ns k (npP (-1)))) x = _
  rw [ih fun j hj => by rw [keys_up]; exact h j (.tail _ hj), npOf_up (h k (.head _))]
  by_cases h1 : x ∈ ks
  ·simp [h1]
  ·by_cases h2 : x = k <;> simp [h1, h2]
theorem out_shp : ∀ {ks : List κ} {ns : List (PN κ)}, shpP (outP ks ns) = shpP ns
 | [], _ => rfl
 | k :: ks, ns => by
  show shpP (outP ks (upP ns k (npP (-1)))) = _
  rw [out_shp, shp_up]
theorem shp_keys' {ns : List (PN κ)} : (shpP ns).map (·.1) = ns.map (·.1) := by unfold shpP; rw [List.map_map]; rfl
theorem suc_fold {l : List κ} : ∀ {ns : List (PN κ)} {r : List κ}, (∀ y ∈ l, y ∈ ns.map (·.1)) -> (∀ y ∈ l, (l.count y : Int) <= npOf ns y) -> (∀ y ∈ l, y ∉ r) -> r.Nodup ->
  (∀ x, npOf (l.foldl sucP (ns, r)).1 x = npOf ns x - l.count x) /\ shpP (l.foldl sucP (ns, r)).1 = shpP ns /\ (l.foldl sucP (ns, r)).2.Nodup /\ ∀ y, y ∈ (l.foldl sucP (ns, r)).2 ↔ y ∈ r \/ (y ∈ l /\ npOf ns y = l.count y) := by
 induction l with
 | nil =>
  intro ns r _ _ _ hr
  exact ⟨fun x => by simp, rfl, hr, fun y => by simp⟩
 | cons s l ih =>
  intro ns r hk hc hd hr
  have hs := hk s (.head _)
  have hcs : ((s :: l).count s : Int) <= npOf ns s := hc s (.head _)
  rw [List.count_cons_self] at hcs
  have np1 : ∀ x, npOf (upP ns s (npP (npOf ns s - 1))) x = if x = s then npOf ns s - 1 else npOf ns x := fun x => npOf_up hs
  rw [List.foldl_cons]
  show (∀ x, npOf (l.foldl sucP (upP ns s (npP (npOf ns s - 1)), if npOf ns s - 1 = 0 then r ++ [s] else r)).1 x = _) /\ _
  have hs0 : npOf ns s - 1 = 0 -> s ∉ l := fun h hm => by
   have := List.count_pos_iff.mpr hm
   omega
  have hrs : s ∉ r := hd s (.head _)
  obtain ⟨i1, i2, i3, i4⟩ := ih (ns := upP ns s (npP (npOf ns s - 1))) (r := if npOf ns s - 1 = 0 then r ++ [s] else r) (fun y hy => by rw [keys_up]; exact hk y (.tail _ hy)) (fun y hy => by
   rw [np1]
   by_cases e : y = s
   ·subst e; rw [if_pos rfl]; omega
   ·rw [if_neg e]
    have := hc y (.tail _ hy)
    rwa [List.count_cons_of_ne (Ne.symm e)] at this) (fun y hy hm => by
   split at hm
   ·rename_i h0
    rcases lA hm with hm | hm
    ·exact hd y (.tail _ hy) hm
    ·rw [lS hm] at hy; exact hs0 h0 hy
   ·exact hd y (.tail _ hy) hm) (by
   split
   ·rw [List.nodup_append]
    exact ⟨hr, by simp, fun a ha b hb e => by rw [lS hb] at e; exact hrs (e ▸ ha)⟩
   ·exact hr)
  refine ⟨fun x => ?_, i2.trans shp_up, i3, fun y => ?_⟩
  ·rw [i1, np1]
   by_cases e : x = s
   ·subst e; rw [if_pos rfl, List.count_cons_self]; omega
   ·rw [if_neg e, List.count_cons_of_ne (Ne.symm e)]
  ·refine (i4 y).trans ?_
   rw [np1]
   by_cases e : y = s
   ·subst e
    rw [if_pos rfl, List.count_cons_self]
    by_cases h0 : npOf ns y - 1 = 0
    ·rw [if_pos h0]
     have hnl := hs0 h0
     have h2 : l.count y = 0 := List.count_eq_zero.mpr hnl
     simp only [List.mem_append, List.mem_singleton, List.mem_cons, true_or, or_true, true_and, true_iff]
     right
     omega
    ·rw [if_neg h0]
     constructor
     ·rintro (h | ⟨h1, h2⟩)
      ·exact .inl h
      ·exact .inr ⟨.head _, by omega⟩
     ·rintro (h | ⟨_, h2⟩)
      ·exact .inl h
      ·refine .inr ⟨?_, by omega⟩
       have : 0 < l.count y := by omega
       exact List.count_pos_iff.mp this
   ·rw [if_neg e, List.count_cons_of_ne (Ne.symm e)]
    have h1 : (y ∈ if npOf ns s - 1 = 0 then r ++ [s] else r) ↔ y ∈ r := by
     split
     ·simp [e]
     ·rfl
    rw [h1]
    simp [e]
theorem cnt_cons {Z : List (κ × List κ)} {p : κ × List κ} {ex : List κ} {x : κ} : cntZ (p :: Z) ex x = (if p.1 ∈ ex then 0 else p.2.count x) + cntZ Z ex x := by
 unfold cntZ
 by_cases h : p.1 ∈ ex
 ·simp [h]
 ·simp [h]
theorem cnt_off {Z : List (κ × List κ)} {k : κ} {ex : List κ} {x : κ} (h : k ∉ Z.map (·.1)) : cntZ Z (ex ++ [k]) x = cntZ Z ex x := by
 induction Z with
 | nil => rfl
 | cons p Z ih =>
  rw [List.map_cons, List.mem_cons, not_or] at h
  rw [cnt_cons, cnt_cons, ih h.2]
  have : (p.1 ∈ ex ++ [k]) ↔ p.1 ∈ ex := by simp [Ne.symm h.1]
  by_cases h1 : p.1 ∈ ex <;> simp [h1, Ne.symm h.1]
theorem cnt_step {Z : List (κ × List κ)} {k : κ} {l ex : List κ} {x : κ} (hn : (Z.map (·.1)).Nodup) (hk : (k, l) ∈ Z) (he : k ∉ ex) : cntZ Z (ex ++ [k]) x + l.count x = cntZ Z ex x := by
 induction Z with
 | nil => cases hk
 | cons p Z ih =>
  rw [List.map_cons, List.nodup_cons] at hn
  rw [cnt_cons, cnt_cons]
  rcases lC hk with rfl | hk
  ·rw [cnt_off hn.1]
   simp [he]
   omega
  ·have := ih hn.2 hk
   have hne : p.1 ≠ k := fun e => hn.1 (e ▸ lM (f := (·.1)) hk)
   by_cases h1 : p.1 ∈ ex
   ·simp [h1]; omega
   ·simp [h1, hne]; omega
theorem cnt_pos {Z : List (κ × List κ)} {ex : List κ} {x : κ} (h : 0 < cntZ Z ex x) : ∃ p ∈ Z, p.1 ∉ ex /\ x ∈ p.2 := by
 induction Z with
 | nil => simp [cntZ] at h
 | cons p Z ih =>
  rw [cnt_cons] at h
  by_cases h1 : p.1 ∈ ex
  ·rw [if_pos h1, Nat.zero_add] at h
   obtain ⟨q, hq, r⟩ := ih h
   exact ⟨q, .tail _ hq, r⟩
  ·rw [if_neg h1] at h
   by_cases h2 : 0 < p.2.count x
   ·exact ⟨p, .head _, h1, List.count_pos_iff.mp h2⟩
   ·obtain ⟨q, hq, r⟩ := ih (by omega)
    exact ⟨q, .tail _ hq, r⟩
theorem nodup_len {l : List κ} : ∀ {keys : List κ}, l.Nodup -> (∀ x ∈ l, x ∈ keys) -> l.length <= keys.length := by
 induction l with
 | nil =>
  intro _ _ _
  exact Nat.zero_le _
 | cons x l ih =>
  intro keys hn h
  rw [List.nodup_cons] at hn
  have hx := h x (.head _)
  have := ih (keys := keys.erase x) hn.2 fun y hy => (List.mem_erase_of_ne (fun e : y = x => hn.1 (e ▸ hy))).mpr (h y (.tail _ hy))
  rw [List.length_erase_of_mem hx] at this
  have hp : 0 < keys.length := List.length_pos_of_mem hx
  rw [List.length_cons]
  omega
theorem su_mem {ns : List (PN κ)} {Z : List (κ × List κ)} (hs : shpP ns = Z) (hn : (Z.map (·.1)).Nodup) {k : κ} (hk : k ∈ Z.map (·.1)) : (k, suOf ns k) ∈ Z := by
 subst hs
 rw [shp_keys'] at hk hn
 obtain ⟨n, h, rfl⟩ := List.mem_map.mp hk
 have : suOf ns n.1 = n.2.2 := by unfold suOf; rw [find_of hn h]; rfl
 rw [this]
 exact lM (f := fun n : PN κ => (n.1, n.2.2)) h
theorem le_sum : ∀ {l : List Nat} {n : Nat}, n ∈ l -> n <= l.sum
 | x :: l, n, h => by
  rw [List.sum_cons]
  rcases lC h with rfl | h
  ·omega
  ·have := le_sum h; omega
structure SimOk (Z : List (κ × List κ)) (s : Sim κ) : Prop where
 shp : shpP s.ns = Z
 part : (s.order ++ s.all).Nodup
 sub : ∀ k ∈ s.order ++ s.all, k ∈ Z.map (·.1)
 vord : ∀ k ∈ s.order, npOf s.ns k = -2
 vfree : ∀ k ∈ s.free, npOf s.ns k = -1
 vrd : ∀ k ∈ s.rd, npOf s.ns k = 0
 vwait : ∀ k ∈ Z.map (·.1), k ∉ s.order ++ s.all -> npOf s.ns k = cntZ Z s.order k /\ 0 < cntZ Z s.order k
 rem0 : ∀ k ∈ s.order ++ s.all, cntZ Z s.order k = 0
 pof : s.po - s.nf = s.free.length
 topo : ∀ a k b, s.order = a ++ k :: b -> ∀ p ∈ Z, k ∈ p.2 -> p.1 ∈ a
theorem SimOk.pre {Z : List (κ × List κ)} (hnd : (Z.map (·.1)).Nodup) (hsu : ∀ p ∈ Z, ∀ x ∈ p.2, x ∈ Z.map (·.1)) {N : Nat} (hN : ∀ p ∈ Z, p.2.length <= N) (hN2 : Z.length <= N) {s : Sim κ} (h : SimOk Z s) : SimPre (Z.map (·.1)) N Z.length s where
 ne := fun ha e => by
  unfold Sim.act at ha
  unfold Sim.all at e
  obtain ⟨e1, e2⟩ := List.append_eq_nil_iff.mp e
  have := h.pof
  rw [e1] at this
  rw [e2] at ha
  simp at ha this
  omega
 key := fun k hk => h.sub k (lR _ hk)
 out := fun k hk => by
  rw [out_np fun j hj => by rw [<- shp_keys', h.shp]; exact h.sub j (lR _ (lR _ hj))]
  by_cases hr : k ∈ s.rd
  ·rw [if_pos hr]
  ·rw [if_neg hr]
   exact h.vfree k ((lA hk).resolve_right hr)
 ks := by rw [<- shp_keys', h.shp]
 suk := fun n hn => by
  have : (n.1, n.2.2) ∈ Z := by rw [<- h.shp]; exact lM (f := fun n : PN κ => (n.1, n.2.2)) hn
  exact hsu _ this
 sul := fun n hn => by
  have : (n.1, n.2.2) ∈ Z := by rw [<- h.shp]; exact lM (f := fun n : PN κ => (n.1, n.2.2)) hn
  exact hN _ this
 all := by
  have h1 := nodup_len h.part h.sub
  rw [List.length_append, List.length_map] at h1
  omega
 ord := fun ha => by
  have h1 := nodup_len h.part h.sub
  rw [List.length_append, List.length_map] at h1
  have h2 : s.all ≠ [] := fun e => by
   unfold Sim.act at ha
   unfold Sim.all at e
   obtain ⟨e1, e2⟩ := List.append_eq_nil_iff.mp e
   have := h.pof
   rw [e1] at this
   rw [e2] at ha
   simp at ha this
   omega
  have := List.length_pos_iff.mpr h2
  omega
theorem SimOk.step {Z : List (κ × List κ)} (hnd : (Z.map (·.1)).Nodup) (hsu : ∀ p ∈ Z, ∀ x ∈ p.2, x ∈ Z.map (·.1)) {s : Sim κ} (h : SimOk Z s) (ha : s.act = true) : SimOk Z s.step := by
 have P := h.pre hnd hsu (N := Z.length + (Z.map fun p => p.2.length).sum) (fun p hp => by
  have : p.2.length <= (Z.map fun p => p.2.length).sum := le_sum (lM (f := fun p : κ × List κ => p.2.length) hp)
  omega) (by omega)
 have hne := P.ne ha
 obtain ⟨k, hcut⟩ : ∃ k, s.cut = some k := by
  unfold Sim.cut
  have hpos : 0 < s.all.length := List.length_pos_iff.mpr hne
  have h1 := Int.fmod_nonneg_of_pos s.num (show (0 : Int) < s.all.length by omega)
  have h2 := Int.fmod_lt_of_pos s.num (show (0 : Int) < s.all.length by omega)
  exact ⟨_, List.getElem?_eq_getElem (show (s.num.fmod s.all.length).toNat < s.all.length by omega)⟩
 have hka : k ∈ s.all := lG hcut
 have hstep : s.step = ⟨(doneP [k] (outP s.rd s.ns, [])).1, (doneP [k] (outP s.rd s.ns, [])).2, s.po + s.rd.length, s.nf + 1, s.all.erase k, s.num.fdiv 3, s.order ++ [k]⟩ := by
  unfold Sim.step
  rw [hcut]
 have hp := List.nodup_append.mp h.part
 have hkO : k ∉ s.order := fun hm => hp.2.2 k hm k hka rfl
 have hkK : k ∈ Z.map (·.1) := h.sub k (lR _ hka)
 have hl : (k, suOf s.ns k) ∈ Z := su_mem h.shp hnd hkK
 have hkeys : s.ns.map (·.1) = Z.map (·.1) := P.ks
 have hrdk : ∀ j ∈ s.rd, j ∈ s.ns.map (·.1) := fun j hj => by rw [hkeys]; exact h.sub j (lR _ (lR _ hj))
 have np1 : ∀ x, npOf (outP s.rd s.ns) x = if x ∈ s.rd then -1 else npOf s.ns x := fun x => out_np hrdk
 have hk1 : (outP s.rd s.ns).map (·.1) = Z.map (·.1) := by rw [<- shp_keys', out_shp, h.shp]
 have hsu1 : suOf (outP s.rd s.ns) k = suOf s.ns k := suOf_shp out_shp
 have np2 : ∀ x, npOf (upP (outP s.rd s.ns) k (npP (-2))) x = if x = k then -2 else npOf (outP s.rd s.ns) x := fun x => npOf_up (by rw [hk1]; exact hkK)
 generalize hL : suOf s.ns k = l at hl hsu1
 have cs : ∀ x, cntZ Z (s.order ++ [k]) x + l.count x = cntZ Z s.order x := fun x => cnt_step hnd hl hkO
 have hw : ∀ y ∈ l, y ∉ s.order ++ s.all := fun y hy hm => by
  have h1 := h.rem0 y hm
  have h2 := cs y
  have h3 := List.count_pos_iff.mpr hy
  omega
 have hlk : ∀ y ∈ l, y ∈ Z.map (·.1) := hsu _ hl
 have hyk : ∀ y ∈ l, y ≠ k := fun y hy e => hw y hy (lR _ (e ▸ hka))
 have hyr : ∀ y ∈ l, y ∉ s.rd := fun y hy hm => hw y hy (lR _ (lR _ hm))
 have npl : ∀ y ∈ l, npOf (upP (outP s.rd s.ns) k (npP (-2))) y = cntZ Z s.order y := fun y hy => by
  rw [np2, if_neg (hyk y hy), np1, if_neg (hyr y hy)]
  exact (h.vwait y (hlk y hy) (hw y hy)).1
 obtain ⟨i1, i2, i3, i4⟩ := suc_fold (l := l) (ns := upP (outP s.rd s.ns) k (npP (-2))) (r := []) (fun y hy => by rw [keys_up, hk1]; exact hlk y hy) (fun y hy => by
  rw [npl y hy]
  have := cs y
  omega) (fun y _ h => nomatch h) .nil
 have hdone : doneP [k] (outP s.rd s.ns, []) = l.foldl sucP (upP (outP s.rd s.ns) k (npP (-2)), []) := by
  show (suOf (outP s.rd s.ns) k).foldl sucP _ = _
  rw [hsu1]
 rw [<- hdone] at i1 i2 i3 i4
 generalize doneP [k] (outP s.rd s.ns, []) = res at hstep i1 i2 i3 i4
 have c0 : ∀ x, x ∉ l -> l.count x = 0 := fun x hx => List.count_eq_zero.mpr hx
 have newm : ∀ y, y ∈ res.2 ↔ y ∈ l /\ cntZ Z (s.order ++ [k]) y = 0 := fun y => by
  rw [i4]
  constructor
  ·rintro (h | ⟨h1, h2⟩)
   ·cases h
   ·refine ⟨h1, ?_⟩
    rw [npl y h1] at h2
    have := cs y
    omega
  ·rintro ⟨h1, h2⟩
   refine .inr ⟨h1, ?_⟩
   rw [npl y h1]
   have := cs y
   omega
 have hperm : List.Perm (s.order ++ [k] ++ s.all.erase k) (s.order ++ s.all) := by
  rw [List.append_assoc]
  exact List.Perm.append_left _ (List.perm_cons_erase hka).symm
 have hallp : (s.order ++ [k] ++ (s.all.erase k ++ res.2)).Nodup := by
  rw [<- List.append_assoc, List.nodup_append]
  refine ⟨hperm.nodup_iff.mpr h.part, i3, fun x hx y hy e => ?_⟩
  subst e
  exact hw x ((newm x).mp hy).1 (hperm.mem_iff.mp hx)
 have memall : ∀ x, x ∈ s.order ++ [k] ++ (s.all.erase k ++ res.2) ↔ x ∈ s.order ++ s.all \/ x ∈ res.2 := fun x => by
  rw [<- List.append_assoc, List.mem_append, hperm.mem_iff]
 have npold : ∀ x ∈ s.order ++ s.all, x ≠ k -> npOf res.1 x = npOf (outP s.rd s.ns) x := fun x hx hxk => by
  rw [i1, np2, if_neg hxk, c0 x fun hm => hw x hm hx]
  simp
 rw [hstep]
 exact
 {shp := by
   show shpP res.1 = Z
   rw [i2, shp_up, out_shp, h.shp]
  part := hallp
  sub := fun x hx => by
   rcases (memall x).mp hx with hx | hx
   ·exact h.sub x hx
   ·exact hlk x ((newm x).mp hx).1
  vord := fun x hx => by
   show npOf res.1 x = -2
   rcases lA hx with hx | hx
   ·have hxk : x ≠ k := fun e => hkO (e ▸ hx)
    rw [npold x (lL _ hx) hxk, np1, if_neg fun hm => hp.2.2 x hx x (lR _ hm) rfl]
    exact h.vord x hx
   ·rw [lS hx, i1, np2, if_pos rfl, c0 k fun hm => hyk k hm rfl]
    simp
  vfree := fun x hx => by
   show npOf res.1 x = -1
   have hx' : x ∈ s.all.erase k := hx
   have hxa := List.mem_of_mem_erase hx'
   have hxk : x ≠ k := fun e => by
    rw [e] at hx'
    exact (List.Nodup.not_mem_erase hp.2.1) hx'
   rw [npold x (lR _ hxa) hxk, np1]
   split
   ·rfl
   ·rename_i hr
    exact h.vfree x ((lA hxa).resolve_right hr)
  vrd := fun x hx => by
   show npOf res.1 x = 0
   obtain ⟨h1, h2⟩ := (newm x).mp hx
   rw [i1, npl x h1]
   have := cs x
   omega
  vwait := fun x hx hn => by
   show npOf res.1 x = cntZ Z (s.order ++ [k]) x /\ 0 < cntZ Z (s.order ++ [k]) x
   have hn' : ¬ (x ∈ s.order ++ s.all \/ x ∈ res.2) := fun hm => hn ((memall x).mpr hm)
   rw [not_or] at hn'
   obtain ⟨w1, w2⟩ := h.vwait x hx hn'.1
   have hxk : x ≠ k := fun e => hn'.1 (lR _ (e ▸ hka))
   have hxr : x ∉ s.rd := fun hm => hn'.1 (lR _ (lR _ hm))
   have c1 := cs x
   refine ⟨?_, ?_⟩
   ·rw [i1, np2, if_neg hxk, np1, if_neg hxr, w1]
    omega
   ·apply Nat.pos_of_ne_zero
    intro h0
    have hm : x ∈ l := List.count_pos_iff.mp (by omega)
    exact hn'.2 ((newm x).mpr ⟨hm, h0⟩)
  rem0 := fun x hx => by
   show cntZ Z (s.order ++ [k]) x = 0
   rcases (memall x).mp hx with hx | hx
   ·have := h.rem0 x hx
    have := cs x
    omega
   ·exact ((newm x).mp hx).2
  pof := by
   show s.po + s.rd.length - (s.nf + 1) = ((s.all.erase k).length : Int)
   have h1 := h.pof
   have h2 : s.all.length = s.free.length + s.rd.length := List.length_append
   have h3 := List.length_pos_of_mem hka
   rw [List.length_erase_of_mem hka]
   omega
  topo := fun a j b e p hpZ hjp => by
   have e' : s.order ++ [k] = a ++ j :: b := e
   rcases List.eq_nil_or_concat b with rfl | ⟨b', z, rfl⟩
   ·obtain ⟨e1, e2⟩ := List.append_inj' e' rfl
    cases e2
    subst e1
    have h1 := h.rem0 k (lR _ hka)
    by_cases hm : p.1 ∈ s.order
    ·exact hm
    ·exfalso
     have h2 : p.2.count k <= cntZ Z s.order k := by
      have := cnt_step (x := k) hnd (show (p.1, p.2) ∈ Z from hpZ) hm
      omega
     have := List.count_pos_iff.mpr hjp
     omega
   ·rw [List.concat_eq_append] at e'
    have e3 : s.order ++ [k] = (a ++ j :: b') ++ [z] := by simpa using e'
    obtain ⟨e1, _⟩ := List.append_inj' e3 rfl
    exact h.topo a j b' e1 p hpZ hjp }
end
end
section
section
variable {κ : Type} [DecidableEq κ]
theorem step_len {Z : List (κ × List κ)} {s : Sim κ} (hne : s.all ≠ []) : s.step.order.length = s.order.length + 1 := by
 obtain ⟨k, hcut⟩ : ∃ k, s.cut = some k := by
  unfold Sim.cut
  have hpos : 0 < s.all.length := List.length_pos_iff.mpr hne
  have h1 := Int.fmod_nonneg_of_pos s.num (show (0 : Int) < s.all.length by omega)
  have h2 := Int.fmod_lt_of_pos s.num (show (0 : Int) < s.all.length by omega)
  exact ⟨_, List.getElem?_eq_getElem (show (s.num.fmod s.all.length).toNat < s.all.length by omega)⟩
 unfold Sim.step
 rw [hcut]
 show (s.order ++ [k]).length = _
 rw [List.length_append]; rfl
theorem big {Z : List (κ × List κ)} : ∃ N, (∀ p ∈ Z, p.2.length <= N) /\ Z.length <= N := ⟨Z.length + (Z.map fun p => p.2.length).sum, fun p hp => by
  have : p.2.length <= (Z.map fun p => p.2.length).sum := le_sum (lM (f := fun p : κ × List κ => p.2.length) hp)
  omega, by omega⟩
theorem run_ok {Z : List (κ × List κ)} (hnd : (Z.map (·.1)).Nodup) (hsu : ∀ p ∈ Z, ∀ x ∈ p.2, x ∈ Z.map (·.1)) : ∀ {n : Nat} {s : Sim κ}, SimOk Z s -> n + s.order.length = Z.length -> SimOk Z (Sim.run n s) /\ (Sim.run n s).act = false
 | 0, s, h, hn => by
  refine ⟨h, ?_⟩
  obtain ⟨N, hN, hN2⟩ := big (Z := Z)
  have P := h.pre hnd hsu hN hN2
  cases ha : (Sim.run 0 s).act with
  | false => rfl
  | true =>
   have := P.ord ha
   omega
 | n + 1, s, h, hn => by
  unfold Sim.run
  obtain ⟨N, hN, hN2⟩ := big (Z := Z)
  have P := h.pre hnd hsu hN hN2
  cases ha : s.act with
  | false => exact ⟨h, ha⟩
  | true =>
   rw [if_pos rfl]
   exact run_ok hnd hsu (h.step hnd hsu ha) (by rw [step_len (Z := Z) (P.ne ha)]; omega)
theorem all_done {Z : List (κ × List κ)} {s : Sim κ} (h : SimOk Z s) (ha : s.act = false) (rk : κ -> Nat) (hrk : ∀ p ∈ Z, ∀ x ∈ p.2, rk x < rk p.1) : ∀ k ∈ Z.map (·.1), k ∈ s.order := by
 have hall : s.all = [] := by
  unfold Sim.act at ha
  rw [Bool.or_eq_false_iff] at ha
  obtain ⟨h1, h2⟩ := ha
  have h3 : s.rd = [] := by simpa using h2
  have h4 := h.pof
  have h5 : ¬ s.nf < s.po := by simpa using h1
  have h6 : s.free = [] := List.length_eq_zero_iff.mp (by omega)
  unfold Sim.all
  rw [h3, h6]; rfl
 have key : ∀ n k, k ∈ Z.map (·.1) -> k ∉ s.order -> (Z.map fun p => rk p.1).sum - rk k < n -> False := by
  intro n
  induction n with
  | zero => intro k _ _ h; omega
  | succ n ih =>
   intro k hk hn hlt
   obtain ⟨_, w2⟩ := h.vwait k hk (by rw [hall, List.append_nil]; exact hn)
   obtain ⟨p, hp, hp1, hp2⟩ := cnt_pos w2
   have h1 := hrk p hp k hp2
   have h2 : rk p.1 <= (Z.map fun p => rk p.1).sum := le_sum (lM (f := fun p : κ × List κ => rk p.1) hp)
   exact ih p.1 (lM (f := (·.1)) hp) hp1 (by omega)
 intro k hk
 by_cases hm : k ∈ s.order
 ·exact hm
 ·exact (key _ k hk hm (Nat.lt_succ_self _)).elim
noncomputable def tot (ns : List (PN κ)) (x : κ) : Nat := (ns.map fun n => n.2.2.count x).sum
theorem cnt_tot {ns : List (PN κ)} {x : κ} : cntZ (shpP ns) [] x = tot ns x := by
 unfold cntZ shpP tot
 have : ((ns.map fun n => (n.1, n.2.2)).filter fun p => decide (p.1 ∉ ([] : List κ))) = ns.map fun n => (n.1, n.2.2) := List.filter_eq_self.mpr fun p _ => by simp
 rw [this, List.map_map]
 rfl
noncomputable def relP (ns : List (PN κ)) (y x : κ) : Prop := ∃ n ∈ ns, n.1 = y /\ x ∈ n.2.2
structure InitOk (ns : List (PN κ)) (ex : κ -> Int) : Prop where
 nd : (ns.map (·.1)).Nodup
 suk : ∀ n ∈ ns, ∀ x ∈ n.2.2, x ∈ ns.map (·.1)
 np : ∀ x ∈ ns.map (·.1), npOf ns x = tot ns x + ex x
theorem info_keys {ns : List (PN κ)} {k x : κ} : x ∈ (infoP ns k).map (·.1) ↔ x ∈ ns.map (·.1) \/ x = k := by
 unfold infoP
 split
 ·rename_i h
  exact ⟨.inl, fun h' => h'.elim id fun e => e ▸ h⟩
 ·simp
theorem npOf_append {ns : List (PN κ)} {n : PN κ} {x : κ} : npOf (ns ++ [n]) x = if x ∈ ns.map (·.1) then npOf ns x else if n.1 = x then n.2.1 else 0 := by
 induction ns with
 | nil =>
  show npOf (n :: []) x = _
  rw [npOf_cons]
  simp [npOf_nil]
 | cons m ns ih =>
  show npOf (m :: (ns ++ [n])) x = _
  rw [npOf_cons, npOf_cons, ih]
  by_cases h : m.1 = x
  ·simp [h]
  ·have : (x ∈ (m :: ns).map (·.1)) ↔ x ∈ ns.map (·.1) := by
    rw [List.map_cons, List.mem_cons]
    exact ⟨fun z => z.resolve_left fun e => h e.symm, .inr⟩
   rw [if_neg h, if_neg h]
   by_cases h2 : x ∈ ns.map (·.1)
   ·rw [if_pos h2, if_pos (this.mpr h2)]
   ·rw [if_neg h2, if_neg fun z => h2 (this.mp z)]
theorem tot_zero {ns : List (PN κ)} {x : κ} (h : ∀ n ∈ ns, x ∉ n.2.2) : tot ns x = 0 := by
 unfold tot
 induction ns with
 | nil => rfl
 | cons n ns ih =>
  rw [List.map_cons, List.sum_cons, List.count_eq_zero.mpr (h n (.head _)), ih fun m hm => h m (.tail _ hm)]
theorem InitOk.info {ns : List (PN κ)} {ex : κ -> Int} {k : κ} (h : InitOk ns ex) (hex : k ∉ ns.map (·.1) -> ex k = 0) : InitOk (infoP ns k) ex := by
 unfold infoP
 split
 ·exact h
 ·rename_i hk
  refine ⟨?_, ?_, ?_⟩
  ·rw [List.map_append, List.nodup_append]
   exact ⟨h.nd, by simp, fun a ha b hb e => hk (by rw [lS (show b ∈ [k] from hb)] at e; exact e ▸ ha)⟩
  ·intro n hn x hx
   rcases lA hn with hn | hn
   ·rw [List.map_append]; exact lL _ (h.suk n hn x hx)
   ·rw [lS hn] at hx; cases hx
  ·intro x hx
   have ht : tot (ns ++ [(k, 0, [])]) x = tot ns x := by
    unfold tot
    rw [List.map_append, List.sum_append]
    simp
   rw [npOf_append, ht]
   by_cases h1 : x ∈ ns.map (·.1)
   ·rw [if_pos h1]; exact h.np x h1
   ·rw [if_neg h1]
    have hxk : x = k := by
     rw [List.map_append] at hx
     exact (lA hx).elim (fun z => absurd z h1) fun z => lS z
    subst hxk
    rw [tot_zero fun n hn hm => h1 (h.suk n hn x hm), hex h1]
    simp
theorem npOf_upG {k x : κ} {g : PN κ -> PN κ} (hg : ∀ n, (g n).1 = n.1) : ∀ {ns : List (PN κ)}, (ns.map (·.1)).Nodup -> npOf (upP ns k g) x = if x = k then ((ns.find? fun n => n.1 = k).map fun n => (g n).2.1).getD 0 else npOf ns x
 | [], _ => by simp [upP, npOf]
 | n :: ns, h => by
  rw [List.map_cons, List.nodup_cons] at h
  show npOf ((if n.1 = k then g n else n) :: upP ns k g) x = _
  rw [npOf_cons, npOf_cons, npOf_upG hg h.2, List.find?_cons]
  by_cases hn : n.1 = k
  ·rw [if_pos hn, hg]
   by_cases hx : x = k
   ·simp [hx, hn]
   ·have h1 : ¬ n.1 = x := fun e => hx (by rw [<- e, hn])
    simp [hx, h1]
  ·rw [if_neg hn]
   by_cases hx : x = k
   ·have h1 : ¬ n.1 = x := fun e => hn (by rw [e, hx])
    simp [hx, hn]
   ·simp [hx]
theorem npOf_find {ns : List (PN κ)} {k : κ} {n : PN κ} (hn : (ns.map (·.1)).Nodup) (h : n ∈ ns) (hk : n.1 = k) : ns.find? (fun n => n.1 = k) = some n /\ npOf ns k = n.2.1 := by
 subst hk
 have := find_of hn h
 refine ⟨this, ?_⟩
 unfold npOf
 rw [this]; rfl
theorem up_keysG {ns : List (PN κ)} {k : κ} {g : PN κ -> PN κ} (hg : ∀ n, (g n).1 = n.1) : (upP ns k g).map (·.1) = ns.map (·.1) := by
 unfold upP
 rw [List.map_map]
 refine List.map_congr_left fun n _ => ?_
 simp only [Function.comp]
 split
 ·exact hg n
 ·rfl
theorem keys_S {ns : List (PN κ)} {p k : κ} : (upP ns p fun n => (n.1, n.2.1, n.2.2 ++ [k])).map (·.1) = ns.map (·.1) := up_keysG fun _ => rfl
theorem keys_N {ns : List (PN κ)} {p : κ} {m : Nat} : (upP ns p fun n => (n.1, n.2.1 + (m : Int), n.2.2)).map (·.1) = ns.map (·.1) := up_keysG fun _ => rfl
theorem InitOk.addN {ns : List (PN κ)} {ex : κ -> Int} {k : κ} {m : Nat} (h : InitOk ns ex) (hk : k ∈ ns.map (·.1)) : InitOk (upP ns k fun n => (n.1, n.2.1 + m, n.2.2)) (fun x => ex x + if x = k then (m : Int) else 0) := by
 have hg : ∀ n : PN κ, ((n.1, n.2.1 + (m : Int), n.2.2) : PN κ).1 = n.1 := fun _ => rfl
 have ht : ∀ x, tot (upP ns k fun n => (n.1, n.2.1 + m, n.2.2)) x = tot ns x := fun x => by
  unfold tot upP
  rw [List.map_map]
  congr 1
  refine List.map_congr_left fun n _ => ?_
  simp only [Function.comp]
  split <;> rfl
 refine ⟨by rw [up_keysG hg]; exact h.nd, fun n hn x hx => ?_, fun x hx => ?_⟩
 ·rw [up_keysG hg]
  obtain ⟨q, hq, rfl⟩ := mem_upP hn
  refine h.suk q hq x ?_
  split at hx <;> exact hx
 ·rw [up_keysG hg] at hx
  rw [npOf_upG hg h.nd, ht]
  by_cases e : x = k
  ·subst e
   obtain ⟨q, hq, hqk⟩ := List.mem_map.mp hx
   obtain ⟨f1, f2⟩ := npOf_find h.nd hq hqk
   rw [if_pos rfl, if_pos rfl, f1]
   have := h.np x hx
   rw [f2] at this
   show q.2.1 + (m : Int) = _
   omega
  ·rw [if_neg e, if_neg e, h.np x hx]
   omega
theorem tot_upS {ns : List (PN κ)} {p k x : κ} (hn : (ns.map (·.1)).Nodup) (hp : p ∈ ns.map (·.1)) : tot (upP ns p fun n => (n.1, n.2.1, n.2.2 ++ [k])) x = tot ns x + if x = k then 1 else 0 := by
 induction ns with
 | nil => cases hp
 | cons n ns ih =>
  rw [List.map_cons, List.nodup_cons] at hn
  have e1 : tot (upP (n :: ns) p fun n => (n.1, n.2.1, n.2.2 ++ [k])) x = (if n.1 = p then n.2.2 ++ [k] else n.2.2).count x + tot (upP ns p fun n => (n.1, n.2.1, n.2.2 ++ [k])) x := by
   unfold tot upP
   rw [List.map_cons, List.map_cons, List.sum_cons]
   congr 1
   split <;> rfl
  have e2 : tot (n :: ns) x = n.2.2.count x + tot ns x := by
   unfold tot
   rw [List.map_cons, List.sum_cons]
  rw [e1, e2]
  by_cases h : n.1 = p
  ·have hoff : upP ns p (fun n => (n.1, n.2.1, n.2.2 ++ [k])) = ns := by
    unfold upP
    conv => rhs; rw [<- List.map_id ns]
    exact List.map_congr_left fun m hm => if_neg fun e : m.1 = p => hn.1 (by rw [h, <- e]; exact lM (f := (·.1)) hm)
   rw [if_pos h, hoff, List.count_append]
   by_cases hx : x = k
   ·subst hx; simp; omega
   ·simp [hx, Ne.symm hx]
  ·rw [if_neg h, ih hn.2 ((lC hp).resolve_left fun e => h e.symm)]
   omega
theorem InitOk.pred {ns : List (PN κ)} {ex : κ -> Int} {k p : κ} (h : InitOk ns ex) (hk : k ∈ ns.map (·.1)) (hex : p ∉ ns.map (·.1) -> ex p = 0) : InitOk (predP k ns p) (fun x => ex x - if x = k then (1 : Int) else 0) := by
 have hg : ∀ n : PN κ, ((n.1, n.2.1, n.2.2 ++ [k]) : PN κ).1 = n.1 := fun _ => rfl
 have hi := h.info hex
 have hki : k ∈ (infoP ns p).map (·.1) := info_keys.mpr (.inl hk)
 have hpi : p ∈ (infoP ns p).map (·.1) := info_keys.mpr (.inr rfl)
 unfold predP
 refine ⟨by rw [up_keysG hg]; exact hi.nd, fun n hn x hx => ?_, fun x hx => ?_⟩
 ·rw [up_keysG hg]
  obtain ⟨q, hq, rfl⟩ := mem_upP hn
  split at hx
  ·rcases lA hx with hx | hx
   ·exact hi.suk q hq x hx
   ·rw [lS hx]; exact hki
  ·exact hi.suk q hq x hx
 ·rw [up_keysG hg] at hx
  rw [tot_upS hi.nd hpi]
  have hnp : npOf (upP (infoP ns p) p fun n => (n.1, n.2.1, n.2.2 ++ [k])) x = npOf (infoP ns p) x := by
   rw [npOf_upG hg hi.nd]
   by_cases e : x = p
   ·subst e
    obtain ⟨q, hq, hqk⟩ := List.mem_map.mp hx
    obtain ⟨f1, f2⟩ := npOf_find hi.nd hq hqk
    rw [if_pos rfl, f1, f2]
    rfl
   ·rw [if_neg e]
  rw [hnp, hi.np x hx]
  by_cases e : x = k
  ·subst e; simp; omega
  ·simp [e]
theorem InitOk.preds {ps : List κ} : ∀ {ns : List (PN κ)} {ex : κ -> Int} {k : κ}, InitOk ns ex -> k ∈ ns.map (·.1) -> (∀ x, x ≠ k -> ex x = 0) -> InitOk (ps.foldl (predP k) ns) (fun x => ex x - if x = k then (ps.length : Int) else 0) := by
 induction ps with
 | nil =>
  intro ns ex k h _ _
  have : (fun x => ex x - if x = k then (([] : List κ).length : Int) else 0) = ex := by funext x; simp
  rw [this]; exact h
 | cons p ps ih =>
  intro ns ex k h hk hex
  have h1 := h.pred (p := p) hk fun hp => hex p fun e => hp (e ▸ hk)
  have hk1 : k ∈ (predP k ns p).map (·.1) := by
   unfold predP
   rw [keys_S]
   exact info_keys.mpr (.inl hk)
  have := ih h1 hk1 fun x hx => by simp [hx, hex x hx]
  rw [List.foldl_cons]
  have e : (fun x => ex x - if x = k then ((p :: ps).length : Int) else 0) = fun x => (ex x - if x = k then (1 : Int) else 0) - if x = k then (ps.length : Int) else 0 := by
   funext x
   by_cases e : x = k
   ·simp [e]; omega
   ·simp [e]
  rw [e]; exact this
theorem InitOk.add {ns : List (PN κ)} {k : κ} {ps : List κ} (h : InitOk ns fun _ => 0) : InitOk (addP ns k ps) fun _ => 0 := by
 have h0 := h.info (k := k) fun _ => rfl
 have hk0 : k ∈ (infoP ns k).map (·.1) := info_keys.mpr (.inr rfl)
 have h1 := h0.addN (m := ps.length) hk0
 have hk1 : k ∈ (add0 ns k ps.length).map (·.1) := by
  unfold add0
  rw [keys_N]; exact hk0
 have h2 := InitOk.preds (ps := ps) h1 hk1 fun x hx => by simp [hx]
 unfold addP
 have e : (fun _ : κ => (0 : Int)) = fun x => ((0 : Int) + if x = k then (ps.length : Int) else 0) - if x = k then (ps.length : Int) else 0 := by
  funext x; split <;> omega
 rw [e]; exact h2
theorem rel_info {ns : List (PN κ)} {p y x : κ} : relP (infoP ns p) y x ↔ relP ns y x := by
 unfold infoP
 split
 ·rfl
 ·constructor
  ·rintro ⟨n, hn, h1, h2⟩
   rcases lA hn with hn | hn
   ·exact ⟨n, hn, h1, h2⟩
   ·rw [lS hn] at h2; cases h2
  ·rintro ⟨n, hn, h⟩
   exact ⟨n, lL _ hn, h⟩
theorem rel_add0 {ns : List (PN κ)} {k y x : κ} {m : Nat} : relP (add0 ns k m) y x ↔ relP ns y x := by
 unfold add0
 rw [<- rel_info (ns := ns) (p := k)]
 constructor
 ·rintro ⟨n, hn, h1, h2⟩
  obtain ⟨q, hq, rfl⟩ := mem_upP hn
  refine ⟨q, hq, ?_⟩
  split at h1 <;> split at h2 <;> simp_all
 ·rintro ⟨n, hn, h1, h2⟩
  refine ⟨_, lM (f := fun n : PN κ => if n.1 = k then ((n.1, n.2.1 + (m : Int), n.2.2) : PN κ) else n) hn, ?_⟩
  split <;> exact ⟨h1, h2⟩
theorem rel_pred {ns : List (PN κ)} {k p y x : κ} : relP (predP k ns p) y x ↔ relP ns y x \/ (y = p /\ x = k) := by
 unfold predP
 rw [<- rel_info (ns := ns) (p := p)]
 constructor
 ·rintro ⟨n, hn, h1, h2⟩
  obtain ⟨q, hq, rfl⟩ := mem_upP hn
  by_cases e : q.1 = p
  ·rw [if_pos e] at h1 h2
   rcases lA h2 with h2 | h2
   ·exact .inl ⟨q, hq, h1, h2⟩
   ·exact .inr ⟨by rw [<- h1, <- e], lS h2⟩
  ·rw [if_neg e] at h1 h2
   exact .inl ⟨q, hq, h1, h2⟩
 ·rintro (⟨n, hn, h1, h2⟩ | ⟨rfl, rfl⟩)
  ·refine ⟨_, lM (f := fun n : PN κ => if n.1 = p then ((n.1, n.2.1, n.2.2 ++ [k]) : PN κ) else n) hn, ?_⟩
   split
   ·exact ⟨h1, lL _ h2⟩
   ·exact ⟨h1, h2⟩
  ·obtain ⟨n, hn, h1⟩ := List.mem_map.mp (info_keys (ns := ns) (k := y) (x := y) |>.mpr (.inr rfl))
   refine ⟨_, lM (f := fun n : PN κ => if n.1 = y then ((n.1, n.2.1, n.2.2 ++ [x]) : PN κ) else n) hn, ?_⟩
   rw [if_pos h1]
   exact ⟨h1, lR _ (.head _)⟩
theorem rel_preds {k y x : κ} {ps : List κ} : ∀ {ns : List (PN κ)}, relP (ps.foldl (predP k) ns) y x ↔ relP ns y x \/ (y ∈ ps /\ x = k) := by
 induction ps with
 | nil =>
  intro ns
  simp
 | cons p ps ih =>
  intro ns
  rw [List.foldl_cons, ih, rel_pred]
  constructor
  ·rintro ((h | ⟨h1, h2⟩) | ⟨h1, h2⟩)
   ·exact .inl h
   ·exact .inr ⟨h1 ▸ .head _, h2⟩
   ·exact .inr ⟨.tail _ h1, h2⟩
  ·rintro (h | ⟨h1, h2⟩)
   ·exact .inl (.inl h)
   ·rcases lC h1 with h1 | h1
    ·exact .inl (.inr ⟨h1, h2⟩)
    ·exact .inr ⟨h1, h2⟩
theorem keys_preds {k x : κ} {ps : List κ} : ∀ {ns : List (PN κ)}, x ∈ (ps.foldl (predP k) ns).map (·.1) ↔ x ∈ ns.map (·.1) \/ x ∈ ps := by
 induction ps with
 | nil =>
  intro ns
  simp
 | cons p ps ih =>
  intro ns
  rw [List.foldl_cons, ih]
  unfold predP
  rw [keys_S, info_keys, List.mem_cons, or_assoc]
theorem keys_add {ns : List (PN κ)} {k x : κ} {ps : List κ} : x ∈ (addP ns k ps).map (·.1) ↔ x ∈ ns.map (·.1) \/ x = k \/ x ∈ ps := by
 unfold addP add0
 rw [keys_preds, keys_N, info_keys, or_assoc]
noncomputable def foldG (g : List (κ × List κ)) (ns : List (PN κ)) : List (PN κ) := g.foldl (fun ns p => addP ns p.1 p.2) ns
theorem fold_ok : ∀ {g : List (κ × List κ)} {ns : List (PN κ)}, InitOk ns (fun _ => 0) -> InitOk (foldG g ns) fun _ => 0
 | [], _, h => h
 | p :: g, ns, h => fold_ok (g := g) h.add
theorem fold_rel {y x : κ} {g : List (κ × List κ)} : ∀ {ns : List (PN κ)}, relP (foldG g ns) y x ↔ relP ns y x \/ ∃ ps, (x, ps) ∈ g /\ y ∈ ps := by
 induction g with
 | nil =>
  intro ns
  simp [foldG]
 | cons p g ih =>
  intro ns
  show relP (foldG g (addP ns p.1 p.2)) y x ↔ _
  rw [ih]
  unfold addP
  rw [rel_preds, rel_add0]
  constructor
  ·rintro ((h | ⟨h1, h2⟩) | ⟨ps, h1, h2⟩)
   ·exact .inl h
   ·exact .inr ⟨p.2, by rw [h2]; exact .head _, h1⟩
   ·exact .inr ⟨ps, .tail _ h1, h2⟩
  ·rintro (h | ⟨ps, h1, h2⟩)
   ·exact .inl (.inl h)
   ·rcases lC h1 with h1 | h1
    ·subst h1; exact .inl (.inr ⟨h2, rfl⟩)
    ·exact .inr ⟨ps, h1, h2⟩
theorem fold_keys {x : κ} {g : List (κ × List κ)} : ∀ {ns : List (PN κ)}, x ∈ (foldG g ns).map (·.1) ↔ x ∈ ns.map (·.1) \/ ∃ p ∈ g, x = p.1 \/ x ∈ p.2 := by
 induction g with
 | nil =>
  intro ns
  simp [foldG]
 | cons p g ih =>
  intro ns
  show x ∈ (foldG g (addP ns p.1 p.2)).map (·.1) ↔ _
  rw [ih, keys_add]
  simp only [List.mem_cons, exists_eq_or_imp, or_assoc]
end
end
section
section
variable {κ : Type} [DecidableEq κ]
noncomputable def initQ (g : List (κ × List κ)) : List (PN κ) := foldG g []
noncomputable def readyQ (ns : List (PN κ)) : List κ := (ns.filter fun n => n.2.1 == 0).map (·.1)
noncomputable def simQ (g : List (κ × List κ)) (num : Int) : Sim κ := ⟨initQ g, readyQ (initQ g), 0, 0, [], num, []⟩
theorem initQ_ok (g : List (κ × List κ)) : InitOk (initQ g) fun _ => 0 := fold_ok ⟨.nil, (fun _ h => nomatch h), (fun _ h => nomatch h)⟩
theorem initQ_rel {g : List (κ × List κ)} {y x : κ} : relP (initQ g) y x ↔ ∃ ps, (x, ps) ∈ g /\ y ∈ ps := by
 unfold initQ
 rw [fold_rel]
 constructor
 ·rintro (⟨n, hn, _⟩ | h)
  ·cases hn
  ·exact h
 ·exact .inr
theorem initQ_keys {g : List (κ × List κ)} {x : κ} : x ∈ (initQ g).map (·.1) ↔ ∃ p ∈ g, x = p.1 \/ x ∈ p.2 := by
 unfold initQ
 rw [fold_keys]
 simp
theorem shp_suk {ns : List (PN κ)} (h : ∀ n ∈ ns, ∀ x ∈ n.2.2, x ∈ ns.map (·.1)) : ∀ p ∈ shpP ns, ∀ x ∈ p.2, x ∈ (shpP ns).map (·.1) := fun p hp x hx => by
 rw [shp_keys']
 obtain ⟨n, hn, rfl⟩ := List.mem_map.mp hp
 exact h n hn x hx
theorem simQ_ok (g : List (κ × List κ)) (num : Int) : SimOk (shpP (initQ g)) (simQ g num) := by
 have I := initQ_ok g
 have hr : ∀ k ∈ readyQ (initQ g), ∃ n ∈ initQ g, n.1 = k /\ n.2.1 = 0 := fun k hk => by
  obtain ⟨n, hn, rfl⟩ := List.mem_map.mp hk
  obtain ⟨h1, h2⟩ := List.mem_filter.mp hn
  exact ⟨n, h1, rfl, by simpa using h2⟩
 have hnp0 : ∀ k ∈ readyQ (initQ g), npOf (initQ g) k = 0 := fun k hk => by
  obtain ⟨n, hn, h1, h2⟩ := hr k hk
  rw [(npOf_find I.nd hn h1).2, h2]
 have hcnt : ∀ x, cntZ (shpP (initQ g)) [] x = tot (initQ g) x := fun x => cnt_tot
 have hke : ∀ k ∈ readyQ (initQ g), k ∈ (initQ g).map (·.1) := fun k hk => by
  obtain ⟨n, hn, h1, _⟩ := hr k hk
  exact h1 ▸ lM (f := (·.1)) hn
 refine ⟨rfl, ?_, fun k hk => ?_, (fun _ h => nomatch h), (fun _ h => nomatch h), hnp0, fun k hk hn => ?_, fun k hk => ?_, rfl, fun a k b e => ?_⟩
 ·show ([] ++ ([] ++ readyQ (initQ g))).Nodup
  rw [List.nil_append, List.nil_append]
  exact I.nd.sublist ((List.filter_sublist).map _)
 ·rw [shp_keys']
  exact hke k hk
 ·rw [shp_keys'] at hk
  have h1 := I.np k hk
  show npOf (initQ g) k = cntZ (shpP (initQ g)) [] k /\ 0 < cntZ (shpP (initQ g)) [] k
  rw [hcnt]
  refine ⟨by omega, Nat.pos_of_ne_zero fun h0 => hn ?_⟩
  obtain ⟨n, hn1, hn2⟩ := List.mem_map.mp hk
  have h2 := (npOf_find I.nd hn1 hn2).2
  show k ∈ readyQ (initQ g)
  refine List.mem_map.mpr ⟨n, List.mem_filter.mpr ⟨hn1, ?_⟩, hn2⟩
  have : n.2.1 = 0 := by omega
  simp [this]
 ·show cntZ (shpP (initQ g)) [] k = 0
  rw [hcnt]
  have hk' : k ∈ readyQ (initQ g) := hk
  have h1 := I.np k (hke k hk')
  have h2 := hnp0 k hk'
  omega
 ·exact absurd (show ([] : List κ) = a ++ k :: b from e) (by simp)
theorem order_ok (g : List (κ × List κ)) (num : Int) (rk : κ -> Nat) (hrk : ∀ p ∈ g, ∀ q ∈ p.2, rk p.1 < rk q) :
  (Sim.run (initQ g).length (simQ g num)).order.Nodup /\ (∀ x, x ∈ (Sim.run (initQ g).length (simQ g num)).order ↔ ∃ p ∈ g, x = p.1 \/ x ∈ p.2) /\
   ∀ a k b, (Sim.run (initQ g).length (simQ g num)).order = a ++ k :: b -> ∀ ps, (k, ps) ∈ g -> ∀ p ∈ ps, p ∈ a := by
 have I := initQ_ok g
 have hnd : ((shpP (initQ g)).map (·.1)).Nodup := by rw [shp_keys']; exact I.nd
 have hsu := shp_suk I.suk
 have hlen : (shpP (initQ g)).length = (initQ g).length := List.length_map _
 obtain ⟨h1, h2⟩ := run_ok hnd hsu (n := (initQ g).length) (simQ_ok g num) (by rw [hlen]; rfl)
 have hall := all_done h1 h2 rk fun p hp x hx => by
  obtain ⟨n, hn, rfl⟩ := List.mem_map.mp hp
  obtain ⟨ps, hps, hy⟩ := initQ_rel.mp ⟨n, hn, rfl, hx⟩
  exact hrk _ hps n.1 hy
 refine ⟨(List.nodup_append.mp h1.part).1, fun x => ?_, fun a k b e ps hps p hp => ?_⟩
 ·rw [<- initQ_keys, <- shp_keys']
  exact ⟨fun h => h1.sub x (lL _ h), hall x⟩
 ·obtain ⟨n, hn, hn1, hn2⟩ := initQ_rel.mpr ⟨ps, hps, hp⟩
  have := h1.topo a k b e (n.1, n.2.2) (lM (f := fun n : PN κ => (n.1, n.2.2)) hn) hn2
  rw [<- hn1]; exact this
end
end
section
variable {c : Cfg} {l : Nat} {mg mb : Str -> Option Value}
noncomputable def ordF (g : List (Int × List Int)) (num : Int) : List Int := (Sim.run (initQ g).length (simQ g num)).order
theorem c_orderR (W : Wd1 c mg mb) (hF : (F1 c.w).In c.base) (hl : l < 40) (g : List (Int × List Int)) (num : Int) (hz : gsz g <= 1000) (rk : Int -> Nat) (hrk : ∀ p ∈ g, ∀ q ∈ p.2, rk p.1 < rk q) :
  Fn c l "_law_order" [graphD .int g, .int num] (iL (ordF g num)) := by
 have I := initQ_ok g
 have hnd : ((shpP (initQ g)).map (·.1)).Nodup := by rw [shp_keys']; exact I.nd
 have hsu := shp_suk I.suk
 have hlen : (shpP (initQ g)).length = (initQ g).length := List.length_map _
 have hlim : limP (gsz g) (initP g) := by
  have := lim_init (g := g) (N := 0) (ns := []) ⟨Nat.le_refl _, fun _ h => nomatch h⟩
  rwa [Nat.zero_add] at this
 have hks : (shpP (initQ g)).map (·.1) = (initP g).map (·.1) := shp_keys'
 have key := c_order W hF hl g num hz rk (fun n hn s hs => by
  obtain ⟨ps, h1, h2⟩ := initQ_rel.mp ⟨n, hn, rfl, hs⟩
  exact hrk _ h1 _ h2) (fun n hn s hs => I.suk n hn s hs) (N := 1000) (M := (initQ g).length) (by omega) (by have := hlim.1; show (initP g).length <= 1000; omega) (SimOk (shpP (initQ g))) (simQ_ok g num) (fun s h => by
   have := h.pre hnd hsu (N := 1000) (fun p hp => by
    obtain ⟨n, hn⟩ := mem_mapI hp
    have := hlim.2 n hn
    show n.2.2.length <= 1000
    omega) (by rw [hlen]; have := hlim.1; show (initP g).length <= 1000; omega)
   rw [hlen, hks] at this
   exact this) (fun s h ha => h.step hnd hsu ha)
 exact key
end
section
noncomputable def dcount (ns : List Int) : Nat := (firstMet (fun i => ns.getD i 0) ns.length).length
section
variable {c : Cfg} {l : Nat} {X : List Addr} {env : Env} {Γ : Gam}
theorem Ev.lenSet {n1 n2 p1 pos : Pos} {e : Expr} {ns : List Int} (g1 : Glb c "len" (.builtin "len")) (g2 : Glb c "set" (.type "set")) (hz : ns.length <= 1000) (h : Ev c l X env Γ e (iL ns))
  (k1 : autoParam (env.kindOf "len" = some .globalImplicit) aR) (k2 : autoParam (env.kindOf "set" = some .globalImplicit) aR)
  (he1 : autoParam (starEach [.Call (.Name "set" n2) [e] [] p1] env = (false, eval (.Call (.Name "set" n2) [e] [] p1) env) :: starEach [] env) aR)
  (he2 : autoParam (starEach [e] env = (false, eval e env) :: starEach [] env) aR) :
  Ev c l X env Γ (.Call (.Name "len" n1) [.Call (.Name "set" n2) [e] [] p1] [] pos) (.int (dcount ns)) := fun A s L G => by
 refine wpAny_Call_ofName (wpAny_Name (g1 A _ s env _ G.bas.stays G.globals G.builtins G.kind k1 ?_) (by kernel_rfl))
 show wpAny c.M A (callWith pos (.builtin "len") [] (backTo pos (starEach [.Call (.Name "set" n2) [e] [] p1] env)) []) _ _ s
 rw [he1]
 refine callWith_of (P := fun _ => True) rfl keep_meth (evalArgs_plain (Calls.spliced_cons ?_))
 refine wpAny_Call_ofName (wpAny_Name (g2 A _ s env _ G.bas.stays G.globals G.builtins G.kind k2 ?_) (by kernel_rfl))
 show wpAny c.M A (callWith p1 (.type "set") [] (backTo p1 (starEach [e] env)) []) _ _ s
 rw [he2]
 refine callWith_of (P := fun h => c.base.StaysIn h) rfl keep_type (evalArgs_plain (Calls.spliced_cons (h.use L G fun v1 s1 p1 r1 G1 => Calls.spliced_nil ⟨G1.bas.stays, ?_⟩)))
 have hz := r1.list_inv; clear r1; obtain ⟨a, vs, n, ha, ea, q⟩ := hz
 have hlen : vs.length = ns.length := by rw [q.length, List.length_map]
 refine call_set_list (items := vs.toArray) (ns := ns) G1.bas.handled ⟨_, ea, rfl, _, rfl⟩ q.ints (by rw [List.size_toArray, hlen]; unfold scanBound; omega) fun h' tk hS hk => ?_
 obtain ⟨o, es, ep, t, ho, hex, hd, hel, hmem, hb, hf, hn⟩ := hS
 refine Calls.spliced_nil ⟨trivial, ?_⟩
 refine call_len_set (s := { s1 with heap := h', toks := tk }) ho hex hd hf (by have : scanBound = 4096 := rfl; omega) ?_
 have hn' : es.size = dcount ns := by rw [hn, List.size_toArray, hlen]; rfl
 rw [hn']
 exact ⟨p1.trans ⟨h', _, .keep0 fun b o e => hk b o (Heap.lt_size e) e⟩, .int _ _⟩
end
end
section
noncomputable def NMS : List Str := ["a", "ab", "aba", "b"]
noncomputable def allR : Nat -> List (List Str)
 | 0 => [[]]
 | n + 1 => (allR n).flatMap fun L => L :: (NMS.filter fun x => decide (x ∉ L)).map fun x => L ++ [x]
noncomputable def pathB (L : List Str) : Bool :=
 let p := L.foldl joinF "/"
 Txt.startswith p "/" && decide (p.length <= 500) && decide ((Builtin.Str.partsBetween p (Builtin.Str.occurrences p "/" 0 p.length (p.length + 1)) ("/" : Str).length).length <= 1000) && decide ((Txt.split p "/").length <= 1000) && (Txt.split p "/").all (fun c => decide (c.length <= 1000)) && decide (partsF p = L) && decide (deepF p = L.length) && JoinOk "/" L && decide ((Txt.join "/" L).length <= 500) && decide (deepF (("/" : Str) ++ Txt.join "/" L) = L.length)
theorem all_paths : (allR 4).all pathB = true := by decide +kernel
theorem allR_mono : ∀ {n : Nat} {L : List Str}, L ∈ allR n -> L ∈ allR (n + 1) := fun {n} {L} h => List.mem_flatMap.mpr ⟨L, h, .head _⟩
theorem allR_pre : ∀ (n : Nat) (L : List Str), L.length <= n -> L.Nodup -> (∀ x ∈ L, x ∈ NMS) -> L ∈ allR n
 | 0, L, h, _, _ => by
  have : L = [] := List.eq_nil_of_length_eq_zero (by omega)
  subst this; exact .head _
 | n + 1, L, h, hn, hm => by
  rcases List.eq_nil_or_concat L with rfl | ⟨L', x, rfl⟩
  ·exact allR_mono (allR_pre n [] (Nat.zero_le _) .nil (fun _ h => nomatch h))
  ·rw [List.concat_eq_append] at *
   rw [List.nodup_append] at hn
   refine List.mem_flatMap.mpr ⟨L', allR_pre n L' (by simp at h; omega) hn.1 (fun y hy => hm y (lL _ hy)), .tail _ (List.mem_map.mpr ⟨x, List.mem_filter.mpr ⟨hm x (by simp), ?_⟩, rfl⟩)⟩
   exact decide_eq_true fun hx => hn.2.2 x hx x (by simp) rfl
theorem len4 {L : List Str} (hn : L.Nodup) (hm : ∀ x ∈ L, x ∈ NMS) : L.length <= 4 := by
 have := nodup_len hn hm
 simpa [NMS] using this
theorem path_ok {L : List Str} (hn : L.Nodup) (hm : ∀ x ∈ L, x ∈ NMS) : PathOk (L.foldl joinF "/") /\ partsF (L.foldl joinF "/") = L /\ deepF (L.foldl joinF "/") = L.length /\ JoinOk "/" L = true /\ (Txt.join "/" L).length <= 500 /\ deepF (("/" : Str) ++ Txt.join "/" L) = L.length := by
 have h := List.all_eq_true.mp all_paths L (allR_pre 4 L (len4 hn hm) hn hm)
 unfold pathB at h
 simp only [Bool.and_eq_true, decide_eq_true_eq, List.all_eq_true] at h
 obtain ⟨⟨⟨⟨⟨⟨⟨⟨⟨h1, h2⟩, h3⟩, h4⟩, h5⟩, h6⟩, h7⟩, h8⟩, h9⟩, h10⟩ := h
 exact ⟨⟨h1, h2, h3, h4, h5⟩, h6, h7, h8, h9, h10⟩
end
section
noncomputable def cellsF (script : List Int) : List Int := (script.take 12).map fun i => i.fmod 1000000
noncomputable def STARTS : List Int := [56, 31, 124, 120, 8]
noncomputable def numsF (cells : List Int) : List Int := (enumL STARTS).map fun z => z.2 + (pickG cells (some (z.1 : Int)) none (some 5)).sum
noncomputable def rowsF (nums : List Int) : List (List Int) := (nums.take 4).map fun n => (List.range 3).map fun (p : Nat) => (n.fdiv (5 ^ p)).fmod 5
noncomputable def nameF (n4 : Int) (cut : Int) : Str := NMS[((cut + n4).fmod 4).toNat]?.getD "a"
noncomputable def namesF (n4 : Int) : List Str := (List.range 4).map fun (cut : Nat) => nameF n4 cut
noncomputable def pairsN (n : Nat) : List (Nat × Nat) := (List.range n).flatMap fun a => (List.range a).map fun b => (a, b)
noncomputable def rowAt (rows : List (List Int)) (i : Nat) : List Int := rows[i]?.getD []
noncomputable def tiesF (rows : List (List Int)) : List (List Int × List Int) := (pairsN 4).map fun z => (rowAt rows z.1, rowAt rows z.2)
noncomputable def kindsF (rows : List (List Int)) : List (List Int) := (tiesF rows).map fun z => kinds z.1 z.2
noncomputable def sameF (rows : List (List Int)) : List Bool := (tiesF rows).map fun z => cmpO (z.1.map .int) (z.2.map .int)
noncomputable def kindB (k : List Int) : Bool := !decide ((1 : Int) ∈ k) && !decide ((2 : Int) ∈ k)
noncomputable def crossF (rows : List (List Int)) : Bool := decide ((4 : Int) ∈ (kindsF rows).map fun k => (dcount k : Int))
noncomputable def partF (rows : List (List Int)) : List Int := (pairsN 5).map fun z => parted rows z.1 z.2
noncomputable def sidesF (rows : List (List Int)) (r : Int) : List (List Int) := rows.map fun row => side row r
noncomputable def gW (sides : List (List Int)) : List (Int × List Int) := (List.range 4).map fun (late : Nat) => ((late : Int), waitsOf (wMat sides) late)
noncomputable def orderF (sides : List (List Int)) (n4 : Int) : List Int := ordF (gW sides) (n4.fdiv 16)
noncomputable def leafL (n4 : Int) (sides : List (List Int)) (order : List Int) (leaf : Int) : List Str := (order.filter fun cut => decide (leaf ∈ rowAt sides cut.toNat)).map fun cut => nameF n4 cut
noncomputable def pathF (n4 : Int) (sides : List (List Int)) (order : List Int) (leaf : Int) : Str := (leafL n4 sides order leaf).foldl joinF "/"
noncomputable def farF (n4 : Int) (sides : List (List Int)) (order : List Int) : List Int := (pairsN 5).map fun z => stepsF (pathF n4 sides order z.1) (pathF n4 sides order z.2)
structure RootOk (rows : List (List Int)) (n4 r : Int) : Prop where
 rk : ∃ rk : Int -> Nat, ∀ p ∈ gW (sidesF rows r), ∀ q ∈ p.2, rk p.1 < rk q
 ord : ∀ cut ∈ orderF (sidesF rows r) n4, 0 <= cut /\ cut < 4
 few : (orderF (sidesF rows r) n4).length <= 4
 path : ∀ leaf : Nat, leaf < 5 -> (leafL n4 (sidesF rows r) (orderF (sidesF rows r) n4) leaf).Nodup
 far : ∀ z ∈ (farF n4 (sidesF rows r) (orderF (sidesF rows r) n4)).zip (partF rows), ¬ z.1 < z.2
 same : (decide (farF n4 (sidesF rows r) (orderF (sidesF rows r) n4) = partF rows) == crossF rows) = false
structure RowsOk (rows : List (List Int)) : Prop where
 len : rows.length = 4
 each : ∀ r ∈ rows, r.length = 3 /\ ∀ x ∈ r, 0 <= x /\ x < 5
theorem fmod5 (a : Int) : 0 <= a.fmod 5 /\ a.fmod 5 < 5 := ⟨Int.fmod_nonneg_of_pos a (by decide), Int.fmod_lt_of_pos a (by decide)⟩
theorem nums_len (cells : List Int) : (numsF cells).length = 5 := by simp [numsF, enumL_len, STARTS]
theorem rows_ok (cells : List Int) : RowsOk (rowsF (numsF cells)) := by
 refine ⟨by simp [rowsF, nums_len], fun r hr => ?_⟩
 obtain ⟨n, _, rfl⟩ := List.mem_map.mp hr
 refine ⟨by simp, fun x hx => ?_⟩
 obtain ⟨p, _, rfl⟩ := List.mem_map.mp hx
 exact fmod5 _
theorem name_at (n4 cut : Int) : ∃ k, k < 4 /\ ((cut + n4).fmod 4).toNat = k /\ NMS[k]? = some (nameF n4 cut) /\ 0 <= (cut + n4).fmod 4 := by
 have h1 := Int.fmod_nonneg_of_pos (cut + n4) (show (0 : Int) < 4 by decide)
 have h2 := Int.fmod_lt_of_pos (cut + n4) (show (0 : Int) < 4 by decide)
 have hk : ((cut + n4).fmod 4).toNat < 4 := by omega
 refine ⟨_, hk, rfl, ?_, h1⟩
 unfold nameF
 generalize ((cut + n4).fmod 4).toNat = k at hk
 have : k < NMS.length := hk
 rw [List.getElem?_eq_getElem this]; rfl
theorem name_mem (n4 cut : Int) : nameF n4 cut ∈ NMS := by
 obtain ⟨k, _, _, h, _⟩ := name_at n4 cut
 exact lG h
theorem leaf_mem {n4 : Int} {sides : List (List Int)} {order : List Int} {leaf : Int} : ∀ x ∈ leafL n4 sides order leaf, x ∈ NMS := fun x hx => by
 obtain ⟨cut, _, rfl⟩ := List.mem_map.mp hx
 exact name_mem n4 cut
theorem pick_map {α β : Type} (f : α -> β) (l : List α) (lo hi st : Option Int) : pickG (l.map f) lo hi st = (pickG l lo hi st).map f := by
 unfold pickG
 rw [List.length_map, List.map_filterMap]
 congr 1
 funext i
 simp
end
section
theorem canBools : ∀ bs : List Bool, PyData.canLayAll0 (bs.map .bool) = true
 | [] => rfl
 | b :: bs => by simp [PyData.canLayAll0, PyData.canLay0, canBools bs]
theorem depBools (bs : List Bool) : (PyData.list (bs.map .bool)).depth <= 1000 := by
 have : ∀ bs : List Bool, PyData.depthAll (bs.map .bool) <= 1 := fun bs => by
  induction bs with
  | nil => simp [PyData.depthAll]
  | cons b bs ih => simp only [List.map_cons, PyData.depthAll, PyData.depth]; omega
 have := this bs
 simp only [PyData.depth]; omega
theorem eqvBools : ∀ bs : List Bool, PyData.eqvAll (bs.map .bool) (bs.map .bool) = true
 | [] => rfl
 | b :: bs => by simp [PyData.eqvAll, PyData.eqv, eqvBools bs]
theorem depInts (bs : List Int) : (PyData.list (bs.map .int)).depth <= 1000 := by
 have : ∀ bs : List Int, PyData.depthAll (bs.map .int) <= 1 := fun bs => by
  induction bs with
  | nil => simp [PyData.depthAll]
  | cons b bs ih => simp only [List.map_cons, PyData.depthAll, PyData.depth]; omega
 have := this bs
 simp only [PyData.depth]; omega
theorem eqvInts : ∀ as bs : List Int, PyData.eqvAll (as.map .int) (bs.map .int) = decide (as = bs)
 | [], [] => rfl
 | [], b :: bs => rfl
 | a :: as, [] => rfl
 | a :: as, b :: bs => by
  simp only [List.map_cons, PyData.eqvAll, PyData.eqv, eqvInts as bs]
  by_cases h : a = b
  ·subst h; simp
  ·simp [h]
variable {c : Cfg}
theorem P2.eqIL {a b : List Int} : P2 c (compareOp .Eq) (iL a) (iL b) (.bool (decide (a = b))) := by
 have := P2.eq (c := c) (d1 := iL a) (d2 := iL b) (by simpa [PyData.canLay0] using canInts a) (by simpa [PyData.canLay0] using canInts b) (depInts a)
 rw [show PyData.eqv (iL a) (iL b) = decide (a = b) from eqvInts a b] at this
 exact this
theorem P2.neBL {a : List Bool} : P2 c (compareOp .NotEq) (.list (a.map .bool)) (.list (a.map .bool)) (.bool false) := by
 have := P2.ne (c := c) (d1 := .list (a.map .bool)) (d2 := .list (a.map .bool)) (by simpa [PyData.canLay0] using canBools a) (by simpa [PyData.canLay0] using canBools a) (depBools a)
 rw [show PyData.eqv (.list (a.map .bool)) (.list (a.map .bool)) = true from eqvBools a] at this
 exact this
theorem lcp_take : ∀ xs ys : List Str, ∃ k, lcp xs ys = xs.take k
 | [], ys => ⟨0, by cases ys <;> rfl⟩
 | x :: xs, [] => ⟨0, rfl⟩
 | x :: xs, y :: ys => by
  obtain ⟨k, e⟩ := lcp_take xs ys
  unfold lcp
  by_cases h : x = y
  ·exact ⟨k + 1, by rw [if_pos h, e]; rfl⟩
  ·exact ⟨0, by rw [if_neg h]; rfl⟩
theorem take_ok {L : List Str} (hn : L.Nodup) (hm : ∀ x ∈ L, x ∈ NMS) (k : Nat) : (L.take k).Nodup /\ ∀ x ∈ L.take k, x ∈ NMS := ⟨hn.sublist (List.take_sublist k L), fun x hx => hm x (List.mem_of_mem_take hx)⟩
theorem name_len : ∀ x ∈ NMS, x.length <= 100 := by decide
theorem gsz_W (sides : List (List Int)) : gsz (gW sides) <= 1000 := by
 have h : ∀ p ∈ gW sides, p.2.length + 1 <= 5 := fun p hp => by
  obtain ⟨late, _, rfl⟩ := List.mem_map.mp hp
  show (waitsOf (wMat sides) late).length + 1 <= 5
  unfold waitsOf
  rw [List.length_map]
  have := List.length_filter_le (fun early => wAt (wMat sides) late early && !wAt (wMat sides) early late) (List.range 4)
  rw [List.length_range] at this
  omega
 have hl : (gW sides).length = 4 := by simp [gW]
 unfold gsz
 have : ∀ (g : List (Int × List Int)), (∀ p ∈ g, p.2.length + 1 <= 5) -> (g.map fun p => p.2.length + 1).sum <= 5 * g.length := by
  intro g
  induction g with
  | nil => intro _; simp
  | cons p g ih =>
   intro h
   have h1 := h p (.head _)
   have h2 := ih fun q hq => h q (.tail _ hq)
   simp only [List.map_cons, List.sum_cons, List.length_cons]
   omega
 have := this _ h
 omega
theorem side_len (row : List Int) (r : Int) (h : row.length <= 5) : (side row r).length <= 5 := by
 unfold side
 split
 ·rw [List.length_map]
  have := List.length_filter_le (fun (i : Nat) => !decide ((i : Int) ∈ row)) (List.range 5)
  rw [List.length_range] at this
  exact this
 ·exact h
end
section
noncomputable def FnG (c : Cfg) (l : Nat) (mg : Str -> Option Value) (f : Str) (ds : List PyData) (d : PyData) : Prop := ∃ a, mg f = some (.ref a) /\ CallOk c l (.ref a) ds d
theorem Wd.callG {c : Cfg} {l : Nat} {p : Program} {loose : List Str} {mg mb : Str -> Option Value} (W : Wd c p loose mg mb) (d : DefRec) (hd : d ∈ recsOf p) {ds : List PyData} {r : PyData} (ps : List Str) (hok : fnOk d.scope ps = true) (hlen : ps.length = ds.length) (hl : l < 60)
  (hbind : ∀ (pm code doc : Value) (vs : List Value), vs.length = ps.length -> bindArgs (fdOf d pm code doc) ⟨vs, []⟩ = pure (ps.zip vs))
  (h : ∀ (A : Around) (s0 : Shared) (a L : Addr) (X : List Addr) (pm code doc : Value), X0ok (fnAct c l (fdOf d pm code doc) L a X) s0 -> (∃ outer, A.frames = some ((fnAct c l (fdOf d pm code doc) L a X).env :: outer)) -> Ex (fnAct c l (fdOf d pm code doc) L a X) A s0 NoE (ps.zip ds) [] [] d.body fun o => o = .ret r \/ (r = .none /\ ∃ Γ R Δ, o = .next Γ R Δ)) : FnG c l mg d.name ds r := by
 obtain ⟨a, pm, code, doc, hm, F⟩ := W.fn d hd
 exact ⟨a, hm, fn_ok F hok hlen hl (fun vs hv => hbind pm code doc vs hv) fun A s0 L X hX hA => h A s0 a L X pm code doc hX hA⟩
theorem intsW {xs : List WData} :  WShape.hasItems [] xs .int = true -> ∃ ns : List Int, xs = ns.map .int := by
 induction xs with
 | nil =>
  intro _
  exact ⟨[], rfl⟩
 | cons x xs ih =>
  intro h
  have h' : WShape.has [] x .int = true /\ WShape.hasItems [] xs .int = true := by simpa [WShape.hasItems] using h
  obtain ⟨i, rfl⟩ := hasW_int h'.1
  obtain ⟨ns, rfl⟩ := ih h'.2
  exact ⟨i :: ns, rfl⟩
theorem rd_ints {P : Params} {w : World} {X : List Addr} {h : Heap} {ns : List Int} : ∀ {vs : List Value}, WellAll P h vs (ns.map .int) -> RdL w X h vs (ns.map .int) := by
 induction ns with
 | nil => intro vs x; cases x; exact .nil
 | cons n ns ih =>
  intro vs x
  obtain ⟨v, us, rfl, w1, w2⟩ := wellAll_cons_inv x
  cases w1
  exact .cons (.int _ _) (ih w2)
theorem well_list_inv {P : Params} {h : Heap} {v : Value} {xs : List WData} (x : Well P h v (.list xs)) : ∃ a vs, v = .ref a /\ h.get? a = some (lstO vs 0) /\ WellAll P h vs xs := by
 cases x with | list e w => exact ⟨_, _, rfl, e, w⟩
theorem reads_list_mem {R : WRecords} {cl : Str -> Option Addr} {h : Heap} {a : Addr} {xs : List WData} {as : List Addr} (r : ReadsW R cl h (.ref a) (.list xs) as) : a ∈ as := by
 cases r with | list => exact .head _
theorem rd_arg {R : WRecords} {cl : Str -> Option Addr} {P : Params} {h : Heap} {vals : List Value} {ns : List Int} {as : List Addr} {w : World} (hrd : ReadsAllW R cl h vals [.list (ns.map .int)] as) (hwl : WellAll P h vals [.list (ns.map .int)]) (hlo : ∀ a ∈ as, (a == sysModules) = false) : RdL w [sysModules] h vals [iL ns] := by
 obtain ⟨v, us, rfl, w1, w2⟩ := wellAll_cons_inv hwl
 obtain ⟨a, vs, rfl, e, w3⟩ := well_list_inv w1
 cases w2
 cases hrd with
 | cons r _ =>
  refine .cons (.list (fun hx => ?_) e (rd_ints w3)) .nil
  have := hlo _ (lL _ (reads_list_mem r))
  rw [lS hx] at this
  cases this
theorem lenW {xs : List WData} (h : (WTm.and (.not (.lt (.lit (.int 63)) (.len (.arg 0)))) (.lit (.bool true))).holds [] { args := [.list xs] } = true) : xs.length <= 63 := by
 have := (holds_andW h).1
 have e : (WTm.lt (.lit (.int 63)) (.len (.arg 0))).value [] { args := [.list xs] } = some (.bool (decide ((63 : Int) < (xs.length : Int)))) := w_lt w_lit (by simp [WTm.value])
 unfold WTm.holds at this
 rw [w_not e] at this
 by_cases h2 : (63 : Int) < (xs.length : Int)
 ·simp [h2] at this
 ·omega
theorem lev0 : Lev 0 callerA := by
 refine ⟨?_, ?_, by decide⟩
 ·show 1 + claimMargin <= 400 + 0
  decide +kernel
 ·show 4 <= 100 + 8 * 0
  decide
theorem join {l : OpenLaw} {q : Program} {loose : List Str} {YP : World -> Heap -> Prop} {d : DefRec} (hm : l.most = some 63) (hb : l.bound = none) (hsys : ∀ w h, YP w h -> ∃ o, h.get? sysModules = some o)
  (h : ∀ (c : Cfg) (mg mb : Str -> Option Value), c.prog = l.prog -> YP c.w c.base -> Wd c q (looseW q loose) mg mb -> ∀ script : List Int, script.length <= 63 -> FnG c 0 mg d.name [iL script] (.bool true)) :
  WalkO q loose (fun _ _ => True) YP l.row.toRowW d [] fun f vs => PySem.call f vs := by
 intro w s₀ s₁ mg mb G Y fa o pm cd doc dV kV ho hd hcd hD hmg hg args vals as hpre hlay hrd hwl hlo
 obtain ⟨hsh, hcond⟩ := pre_splitW hpre
 obtain ⟨d0, r0, rfl, h1, h2⟩ := hasAllW_cons hsh
 obtain rfl := hasAllW_nil h2
 obtain ⟨xs, rfl, h3⟩ := hasW_list h1
 obtain ⟨ns, rfl⟩ := intsW h3
 have hlen : ns.length <= 63 := by
  have e : l.row.toRowW.pre = WTm.and (.not (.lt (.lit (.int 63)) (.len (.arg 0)))) (.lit (.bool true)) := by
   show l.pre = _
   unfold OpenLaw.pre
   rw [hm, hb]
   rfl
  rw [e] at hcond
  have := lenW hcond
  rwa [List.length_map] at this
 obtain ⟨o1, ho1⟩ := hsys w _ Y
 let c : Cfg := { prog := l.prog, w := w, base := s₁.heap, fr := [sysModules] }
 have W : Wd c q (looseW q loose) mg mb := {
  sys := .head _
  g := G.T.g
  b := G.T.b
  builtins := G.T.builtins
  free := G.T.free
  fn := fun d hd => by
   obtain ⟨a, o, pm, code, doc, e1, e2, e3, e4⟩ := G.T.fn d hd
   exact ⟨a, pm, code, doc, e1, ⟨⟨o, e2, e3⟩, e4, G.T.nolimit, rfl, rfl, rfl, rfl⟩⟩ }
 obtain ⟨a, ea, hcall⟩ := h c mg mb rfl Y W ns hlen
 rw [hmg] at ea
 obtain rfl : fa = a := by injection ea with e; injection e
 have hB : Bas c callerA [sysModules] s₁.heap := ⟨rfl, ⟨[], below_caller _, fun env he => nomatch he⟩, fun a ha => by rw [lS ha]; exact ⟨o1, ho1⟩, fun a ha => ha⟩
 refine wM (hcall callerA [sysModules] s₁ vals lev0 hB (rd_arg hrd hwl hlo)) (fun v s' hq => ?_) fun _ _ f => f.elim
 obtain ⟨⟨h', tk, q⟩, r⟩ := hq
 rw [r.bool_inv]
 refine ⟨Or.inl ⟨_, WData.bool true, [], rfl, raisesW_false (r := l.row.toRowW) (fun ct h => by cases h), ReadsW.bool true, ?_, fun _ => ⟨List.Pairwise.nil, fun _ h => nomatch h⟩⟩, ⟨fun b o e => .inl (q.st (fun _ _ e => e) b o e), fun b o e => ⟨o, q.st (fun _ _ e => e) b o e⟩⟩, rfl, .of_eq hg⟩
 exact postW_of (r := l.row.toRowW) (X := (true == true)) (by rfl) (w_eq_bool (w_res rfl) w_lit) rfl
end
section
variable {c : Cfg} {l : Nat} {ad : Addr} {mg mb : Str -> Option Value}
theorem pick_takeA {α : Type} (xs : List α) (i : Nat) : pickG xs none (some (i : Int)) none = xs.take i := by
 by_cases h : i <= xs.length
 ·exact pick_take xs i h
 ·have e : sliceBounds none (some (i : Int)) none xs.length = sliceBounds none (some (xs.length : Int)) none xs.length := by
   simp only [sliceBounds, Option.getD_none]
   rw [if_neg (show ¬ ((i : Int) < 0) from by omega), if_neg (show ¬ ((xs.length : Int) < 0) from by omega)]
   simp
   omega
  have h2 := pick_take xs xs.length (Nat.le_refl _)
  unfold pickG at h2 ⊢
  rw [e, h2, List.take_length, List.take_of_length_le (by omega)]
theorem pmap {α β : Type} (g : β -> PyData) (f : α -> β) (L : List α) : PyData.list (L.map fun a => g (f a)) = .list ((L.map f).map g) := congrArg PyData.list List.map_map.symm
theorem pairs_map {γ : Type} (n : Nat) (F : Nat -> Nat -> γ) : ((List.range n).flatMap fun a => (List.range a).map fun b => F a b) = (pairsN n).map fun z => F z.1 z.2 := by
 unfold pairsN
 rw [List.map_flatMap]
 refine congrArg (List.flatMap · _) (funext fun a => ?_)
 rw [List.map_map]; rfl
theorem g_int (W : Wd1 c mg mb) : Glb c "int" (.type "int") := W.blt (by kernel_rfl) (by kernel_rfl)
theorem g_sum (W : Wd1 c mg mb) : Glb c "sum" (.builtin "sum") := W.blt (by kernel_rfl) (by kernel_rfl)
theorem g_zip (W : Wd1 c mg mb) : Glb c "zip" (.type "zip") := W.blt (by kernel_rfl) (by kernel_rfl)
theorem g_set (W : Wd1 c mg mb) : Glb c "set" (.type "set") := W.blt (by kernel_rfl) (by kernel_rfl)
noncomputable def topG (rows : List (List Int)) (nums : List Int) (n4 : Int) : Gam := [("parted", iL (partF rows)), ("pairs", .list ((pairsN 5).map fun z => .tuple [.int (z.1 : Nat), .int (z.2 : Nat)])), ("crossed", .bool (crossF rows)), ("names", sL (namesF n4)), ("rows", rL rows), ("numbers", iL nums)]
noncomputable def lawBody : List Stmt := match ((dr1 33).body.drop 11).head? with
 | some (Stmt.For _ _ b _ _) => b
 | _ => []
theorem c_root (W : Wd1 (c.push ad) mg mb) (hF : (F1 c.w).In (c.push ad).base) (hl : l < 30) {A : Around} {s0 : Shared} {fa : Addr} {X : List Addr} {pm code doc : Value} (hX : X0ok (fnAct c l (fdOf (dr1 33) pm code doc) ad fa X) s0)
  {nums : List Int} {rows : List (List Int)} {n4 r : Int} (hnl : nums.length = 5) (hn4 : nums[4]? = some n4) (hro : RowsOk rows) (ok : RootOk rows n4 r) {rr : Res (c.push ad)} :
  Ex (fnAct c l (fdOf (dr1 33) pm code doc) ad fa X) A s0 NoE (("root", .int r) :: topG rows nums n4) [] [rr] lawBody (nextO (topG rows nums n4) [] [rr]) := by
 obtain ⟨rk, hrk⟩ := ok.rk
 have hford := ok.ord
 have hfew := ok.few
 have hpath := ok.path
 have hfar := ok.far
 have hsm := ok.same
 have hsl : (sidesF rows r).length = 4 := by unfold sidesF; rw [List.length_map]; exact hro.len
 have hse : ∀ s ∈ sidesF rows r, s.length <= 10 := fun s hs => by
  obtain ⟨row, hr⟩ := mem_mapI hs
  have := side_len row r (by rw [(hro.each row hr).1]; decide)
  omega
 refine Ex.new (.of fun X => ((EvC.nm (L := rows) (g := iL) (Γc := [("root", .int r)]) (fun row => iL (side row r)) inj_iL (.ofList (.n m5)) (.cons m0 .nil) (fun cs C XL row hrow => .callF (c_side W (show l + 1 < 60 by omega) row r) (.cons (.n m0) (.cons (.n m1) .nil))) (by rw [hro.len]; decide)).as (d' := rL (sidesF rows r)) (pmap iL _ _)).ev) ?_
 refine Ex.new (.of fun X => .callF (c_orderR W hF (show l + 1 < 40 by omega) (gW (sidesF rows r)) (n4.fdiv 16) (gsz_W _) rk hrk) (.cons ((Ev.callF (c_waits W (show l + 1 < 58 by omega) (sidesF rows r) hsl hse) (.cons (.n m0) .nil)).as (by simp [gW, Function.comp_def])) (.cons (.binop (.item (i := 4) (.n m7) .int (by decide) (by decide) (by rw [show (4 : Int).toNat = 4 from rfl, List.getElem?_map, hn4]; rfl)) .int (.div (by decide) (PyProof.noPylong_of_log2 (by decide)))) .nil))) ?_
 change Ex _ _ _ _ (("order", iL (orderF (sidesF rows r) n4)) :: _) _ _ _ _
 generalize hsd : sidesF rows r = sides at *
 generalize hod : orderF sides n4 = order at *
 have hside : ∀ cut ∈ order, sides[cut.toNat]? = some (rowAt sides cut.toNat) := fun cut hc => by
  have := hford cut hc
  have h4 : cut.toNat < sides.length := by rw [hsl]; omega
  unfold rowAt
  rw [List.getElem?_eq_getElem h4]; rfl
 have hnm : ∀ cut ∈ order, (namesF n4)[cut.toNat]? = some (nameF n4 cut) := fun cut hc => by
  have := hford cut hc
  unfold namesF
  rw [List.getElem?_map, List.getElem?_range (by omega)]
  have : ((cut.toNat : Nat) : Int) = cut := by omega
  simp [this]
 have hlf : ∀ leaf : Nat, leaf < 5 -> (leafL n4 sides order leaf).Nodup /\ ∀ x ∈ leafL n4 sides order leaf, x ∈ NMS := fun leaf hl => ⟨hpath leaf hl, leaf_mem⟩
 refine Ex.new (.of fun X => ((EvC.nm (L := List.range 5) (g := fun (i : Nat) => .int (i : Nat)) (Γc := [("names", sL (namesF n4)), ("order", iL order), ("sides", rL sides)]) (fun leaf => .str (pathF n4 sides order leaf)) inj_nat (.range (n := 5) (g_range W) .int (by decide)) (.cons m6 (.cons m0 (.cons m1 .nil)))
  (fun cs C XL leaf hleaf => Ev.callStar (c_join W (show l + 1 < 58 by omega) "/" (leafL n4 sides order leaf) ?_ ?_ ?_) .str
   ((EvC.nmIf (L := order) (g := .int) (Γc := [("leaf", .int (leaf : Nat)), ("names", sL (namesF n4)), ("sides", rL sides)]) (fun cut => decide ((leaf : Int) ∈ rowAt sides cut.toNat)) (fun cut => .str (nameF n4 cut)) inj_int (.ofList (.n m2)) (.cons m0 (.cons m1 (.cons m3 .nil)))
    (fun cs C XL cut hc => .cmp (.n m1) (.item (i := cut) (.n m3) (.n m0) (hford cut hc).1 (by have := hford cut hc; omega) (by simp [hside cut hc])) .inI)
    (fun cs C XL cut hc _ => .item (i := cut) (.n m2) (.n m0) (hford cut hc).1 (by have := hford cut hc; omega) (by simp [hnm cut hc])) (by omega)).ev) (by simp [isRow, leafL, Function.comp_def]) ?_) (by decide)).as (d' := sL ((List.range 5).map fun (leaf : Nat) => pathF n4 sides order leaf)) (pmap .str _ _)).ev) ?_
 ·have := len4 (hlf leaf (List.mem_range.mp hleaf)).1 (hlf leaf (List.mem_range.mp hleaf)).2; omega
 ·exact fun b hb => name_len b ((hlf leaf (List.mem_range.mp hleaf)).2 b hb)
 ·intro i
  obtain ⟨h1, h2⟩ := take_ok (hlf leaf (List.mem_range.mp hleaf)).1 (hlf leaf (List.mem_range.mp hleaf)).2 i
  exact (path_ok h1 h2).1.len
 ·have := len4 (hlf leaf (List.mem_range.mp hleaf)).1 (hlf leaf (List.mem_range.mp hleaf)).2
  rw [List.length_map]; omega
 have hpok : ∀ leaf : Nat, leaf < 5 -> PathOk (pathF n4 sides order leaf) /\ partsF (pathF n4 sides order leaf) = leafL n4 sides order leaf := fun leaf hl => by
  have := path_ok (hlf leaf hl).1 (hlf leaf hl).2
  exact ⟨this.1, this.2.1⟩
 have hpat : ∀ leaf : Nat, leaf < 5 -> ((List.range 5).map fun (leaf : Nat) => pathF n4 sides order leaf)[leaf]? = some (pathF n4 sides order leaf) := fun leaf hl => by
  rw [List.getElem?_map, List.getElem?_range hl]; rfl
 have hpatD : ∀ leaf : Nat, leaf < 5 -> (((List.range 5).map fun (leaf : Nat) => pathF n4 sides order leaf).map PyData.str)[((leaf : Int)).toNat]? = some (.str (pathF n4 sides order leaf)) := fun leaf hl => by
  rw [Int.toNat_natCast, List.getElem?_map, hpat leaf hl]; rfl
 have hpr : ∀ a b, (a, b) ∈ pairsN 5 -> a < 5 /\ b < 5 := fun a b hy => by
  obtain ⟨a', ha, hy⟩ := List.mem_flatMap.mp hy
  obtain ⟨b', hb, e⟩ := List.mem_map.mp hy
  cases e
  have h1 := List.mem_range.mp ha
  have h2 := List.mem_range.mp hb
  exact ⟨h1, by omega⟩
 refine Ex.newC hX (fun X => (EvC.pr (L := pairsN 5) (g1 := fun (i : Nat) => .int (i : Nat)) (g2 := fun (i : Nat) => .int (i : Nat)) (Γc := [("paths", sL ((List.range 5).map fun (leaf : Nat) => pathF n4 sides order leaf))]) (fun a b => .int (stepsF (pathF n4 sides order a) (pathF n4 sides order b))) inj_nat inj_nat (.ofList (.n m5) (fun _ d hd => by obtain ⟨z, _⟩ := mem_mapI hd; exact ⟨_, rfl⟩)) (.cons m0 .nil)
  (fun cs C XL a b hab => .callF (c_steps W (show l + 1 < 56 by omega) (hpok a (hpr a b hab).1).1 (hpok b (hpr a b hab).2).1 ?_ ?_) (.cons (.item (i := (a : Nat)) (.n m2) (.n m1) (by omega) (by have := hpr a b hab; omega) (hpatD a (hpr a b hab).1)) (.cons (.item (i := (b : Nat)) (.n m2) (.n m0) (by omega) (by have := hpr a b hab; omega) (hpatD b (hpr a b hab).2)) .nil))) (by decide)).as (d' := iL (farF n4 sides order)) (pmap .int _ _)) ?_
 ·rw [(hpok a (hpr a b hab).1).2, (hpok b (hpr a b hab).2).2]
  obtain ⟨k, e⟩ := lcp_take (leafL n4 sides order a) (leafL n4 sides order b)
  obtain ⟨h1, h2⟩ := take_ok (hlf a (hpr a b hab).1).1 (hlf a (hpr a b hab).1).2 k
  rw [e]
  exact (path_ok h1 h2).2.2.2.1
 ·rw [(hpok a (hpr a b hab).1).2, (hpok b (hpr a b hab).2).2]
  obtain ⟨k, e⟩ := lcp_take (leafL n4 sides order a) (leafL n4 sides order b)
  obtain ⟨h1, h2⟩ := take_ok (hlf a (hpr a b hab).1).1 (hlf a (hpr a b hab).1).2 k
  rw [e]
  exact (path_ok h1 h2).2.2.2.2.1
 have hff : ((farF n4 sides order).zip (partF rows)).filter (fun z => decide (z.1 < z.2)) = [] := List.filter_eq_nil_iff.mpr fun z hz => by simpa using hfar z hz
 have hfl : (farF n4 sides order).length = (partF rows).length := by simp [farF, partF]
 have hfn : (farF n4 sides order).length <= 100 := by
  have : (pairsN 5).length <= 100 := by decide
  simpa [farF] using this
 refine Ex.seq (Γ1 := _) (R1 := []) (Δ1 := [rr]) (Ex1.ite (b := false) (EtS.of fun X => Et.cmp (((EvC.prIf (L := (farF n4 sides order).zip (partF rows)) (g1 := .int) (g2 := .int) (Γc := []) (fun a b => decide (a < b)) (fun _ _ => .int 1) inj_int inj_int (.zip (L := farF n4 sides order) (M := partF rows) (g1 := .int) (g2 := .int) (g_zip W) (.n m0) (.n m5) hfl) .nil (fun cs C XL a b hab => .cmp (.n m1) (.n m0) .ltI) (fun cs C XL a b hab _ => .int) (by rw [List.length_zip]; omega)).as (d' := .list (([] : List Bool).map .bool)) (by rw [hff]; rfl)).ev) (.list .nil) (.neBL (a := []))) (fun h => by cases h) fun _ => .nil rfl) ?_
 refine Ex.seq (Γ1 := _) (R1 := []) (Δ1 := [rr]) (Ex1.ite (b := false) (EtS.of fun X => (Et.cmp (.cmp (.n m0) (.n m5) .eqIL) (.n m7) .eqB).as hsm) (fun h => by cases h) fun _ => .nil rfl) ?_
 refine Ex.weak (fun p hp => ?_) (fun p h => h) (List.Sublist.refl _) (.nil rfl)
 exact .tail _ (.tail _ (.tail _ (.tail _ (.tail _ hp))))
theorem c_law (W : Wd1 c mg mb) (hF : (F1 c.w).In c.base) (hl : l < 30) (script : List Int) (hz : script.length <= 1000) (n4 : Int) (hn4 : (numsF (cellsF script))[4]? = some n4)
  (hsame : sameF (rowsF (numsF (cellsF script))) = (kindsF (rowsF (numsF (cellsF script)))).map kindB)
  (hr : ∀ r ∈ [0, 1 + (n4.fdiv 4).fmod 4], RootOk (rowsF (numsF (cellsF script))) n4 r) : FnG c l mg "law" [iL script] (.bool true) := by
 refine W.callG (dr1 33) (mem_at (i := 17) (by kernel_rfl)) ["script"] (by decide +kernel) rfl (by omega) (fun pm code doc => bind1 fun a => by rfl) fun A s0 fa ad X pm code doc hX hA => ?_
 have Wp := W.push ad
 have hF' : (F1 c.w).In (c.push ad).base := hF
 refine Ex.new (.of fun X => ((EvC.nm (Γc := []) (L := script.take 12) (g := .int) (fun i => .int (i.fmod 1000000)) inj_int
  (.ofList ((Ev.slice (lo := none) (hi := some (12 : Int)) (st := none) (.n m0) .none (.some Ev.int) .none (by simp) (by simp; omega)).as (congrArg PyData.list ((pick_takeA (script.map PyData.int) 12).trans List.map_take.symm)))) .nil
  (fun cs C XL a ha => (Ev.binop (.callF (.ofT (g_int Wp) .int) (.cons (.n m0) .nil)) (.binop .int .int (.pow (by decide) (by decide) (by decide))) (.mod (by decide))).as rfl) (by simp; omega)).as (d' := iL (cellsF script)) (pmap .int _ _)).ev) ?_
 refine Ex.new (.of fun X => ((EvC.pr (L := enumL STARTS) (g1 := fun (i : Nat) => .int (i : Nat)) (g2 := .int) (Γc := [("cells", iL (cellsF script))]) (fun (p : Nat) (s : Int) => .int (s + (pickG (cellsF script) (some (p : Int)) none (some 5)).sum)) inj_nat inj_int
  (.enum (L := STARTS) (g := .int) (g_enum Wp) (.list (.cons .int (.cons .int (.cons .int (.cons .int (.cons .int .nil))))))) (.cons m0 .nil)
  (fun cs C XL p s hm => .binop (.n m0) (.callF (.of (g_sum Wp) .sum) (.cons ((Ev.slice (lo := some (p : Int)) (hi := none) (st := some 5) (.n m2) (.some (Ev.n m1)) .none (.some Ev.int) (by simp) (by simp [cellsF]; omega)).as (by rw [pick_map])) .nil)) .add) (by simp [enumL_len, STARTS])).as (d' := iL (numsF (cellsF script))) (pmap .int _ _)).ev) ?_
 generalize hN : numsF (cellsF script) = nums at hsame hr hn4 ⊢
 have hnl : nums.length = 5 := by rw [<- hN]; exact nums_len _
 have hro : RowsOk (rowsF nums) := by rw [<- hN]; exact rows_ok _
 refine Ex.new (.of fun X => ((EvC.nm (Γc := []) (L := nums.take 4) (g := .int) (fun n => iL ((List.range 3).map fun (p : Nat) => (n.fdiv (5 ^ p)).fmod 5)) inj_int
  (.ofList ((Ev.slice (lo := none) (hi := some (4 : Int)) (st := none) (.n m0) .none (.some Ev.int) .none (by simp) (by simp [hnl])).as (congrArg PyData.list ((pick_takeA (nums.map PyData.int) 4).trans List.map_take.symm)))) .nil
  (fun cs C XL n hn => (EvC.nm (Γc := [("number", .int n)]) (fun (p : Nat) => .int ((n.fdiv (5 ^ p)).fmod 5)) inj_nat (.range (n := 3) (g_range Wp) .int (by decide)) (.cons m0 .nil) (fun cs C XL p hp => .binop (.binop (.n m1) (.binop .int (.n m0) (.pow (by omega) (by have := List.mem_range.mp hp; omega) (by decide))) (.div ?_ ?_)) .int (.mod (by decide))) (by simp)).ev.as (pmap .int _ _)) (by simp; omega)).as (d' := rL (rowsF nums)) (pmap iL _ _)).ev) ?_
 ·have : (5 : Int) ^ ((p : Int)).toNat ≠ 0 := Int.pow_ne_zero (by decide)
  exact this
 ·have hp3 := List.mem_range.mp hp
  have : p = 0 \/ p = 1 \/ p = 2 := by omega
  rcases this with rfl | rfl | rfl <;> exact PyProof.noPylong_of_log2 (by decide)
 generalize hR : rowsF nums = rows at hsame hr hro ⊢
 refine Ex.new (.of fun X => ((EvC.nm (Γc := [("numbers", iL nums)]) (fun (cut : Nat) => .str (nameF n4 cut)) inj_nat (.range (n := 4) (g_range Wp) .int (by decide)) (.cons m1 .nil)
  (fun cs C XL cut hc => ?_) (by simp)).as (d' := sL (namesF n4)) (pmap .str _ _)).ev) ?_
 ·obtain ⟨k, hk, h1, h2, h3⟩ := name_at n4 (cut : Int)
  exact .item (i := ((cut : Int) + n4).fmod 4) (.list (.cons .str (.cons .str (.cons .str (.cons .str .nil))))) (.binop (.binop (.n m0) (.item (i := 4) (.n m1) .int (by decide) (by decide) (by rw [show (4 : Int).toNat = 4 from rfl, List.getElem?_map, hn4]; rfl)) .add) .int (.mod (by decide))) h3 (by omega) (by rw [h1]; show (NMS.map PyData.str)[k]? = _; rw [List.getElem?_map, h2]; rfl)
 have hrow : ∀ i, i < 4 -> rows[i]? = some (rowAt rows i) /\ rowAt rows i ∈ rows := fun i hi => by
  have : i < rows.length := by rw [hro.len]; exact hi
  unfold rowAt
  rw [List.getElem?_eq_getElem this]
  exact ⟨rfl, List.getElem_mem this⟩
 have hrl : ∀ r ∈ rows, r.length <= 100 := fun r hr => by rw [(hro.each r hr).1]; decide
 have hties : ∀ z ∈ tiesF rows, z.1.length <= 100 /\ z.2.length <= 100 := fun z hz => by
  obtain ⟨y, hy⟩ := mem_mapI hz
  obtain ⟨a, ha, hy⟩ := List.mem_flatMap.mp hy
  obtain ⟨b, hb⟩ := mem_mapI hy
  have h1 := List.mem_range.mp ha
  have h2 := List.mem_range.mp hb
  exact ⟨hrl _ (hrow a h1).2, hrl _ (hrow b (by omega)).2⟩
 have hlt : (tiesF rows).length = 6 := by unfold tiesF; rw [List.length_map]; decide
 refine Ex.newC hX (fun X => (EvC.nm2 (Γc := [("rows", rL rows)]) (L := List.range 4) (M := fun a => List.range a) (fun (a b : Nat) => .tuple [iL (rowAt rows a), iL (rowAt rows b)]) inj_nat inj_nat (.range (n := 4) (g_range Wp) .int (by decide)) (.cons m1 .nil)
  (fun cs C XL a ha => .range (g_range Wp) (.n m0) (by have := List.mem_range.mp ha; omega)) (fun cs C XL a ha b hb => ?_) (by decide)).as (d' := .list ((tiesF rows).map fun (z : List Int × List Int) => PyData.tuple [iL z.1, iL z.2])) ?_) ?_
 ·have h1 := List.mem_range.mp ha
  have h2 := List.mem_range.mp hb
  exact .tuple (.cons (.item (i := (a : Nat)) (.n m2) (.n m1) (by omega) (by omega) (by simp [(hrow a h1).1])) (.cons (.item (i := (b : Nat)) (.n m2) (.n m0) (by omega) (by omega) (by simp [(hrow b (by omega)).1])) .nil)) (by simp)
 ·exact congrArg PyData.list ((pairs_map 4 _).trans List.map_map.symm)
 refine Ex.newC hX (fun X => (EvC.pr (L := tiesF rows) (g1 := iL) (g2 := iL) (Γc := []) (fun a b => iL (kinds a b)) inj_iL inj_iL (.ofList (.n m0) (fun _ d hd => by obtain ⟨z, _⟩ := mem_mapI hd; exact ⟨_, rfl⟩)) .nil
  (fun cs C XL a b hab => .callF (c_kinds Wp (show l + 1 < 60 by omega) a b) (.cons (.n m1) (.cons (.n m0) .nil))) (by omega)).as (d' := rL (kindsF rows)) (pmap iL _ _)) ?_
 refine Ex.newC hX (fun X => (EvC.pr (L := tiesF rows) (g1 := iL) (g2 := iL) (Γc := []) (fun a b => .bool (cmpO (a.map .int) (b.map .int))) inj_iL inj_iL (.ofList (.n m1) (fun _ d hd => by obtain ⟨z, _⟩ := mem_mapI hd; exact ⟨_, rfl⟩)) .nil
  (fun cs C XL a b hab => .callF (c_cmp Wp (show l + 1 < 59 by omega) (flat_ints (by have := hties _ hab; simp at this; omega)) (flat_ints (by have := hties _ hab; simp at this; omega))) (.cons (.n m1) (.cons (.n m0) .nil))) (by omega)).as (d' := .list ((sameF rows).map .bool)) (pmap .bool _ _)) ?_
 refine Ex.seq (Γ1 := _) (R1 := []) (Δ1 := []) (Ex1.ite (b := false) (EtS.of fun X => Et.cmp (.n m0) (((EvC.nm (Γc := []) (L := kindsF rows) (g := iL) (fun k => .bool (kindB k)) inj_iL (.ofList (.n m1)) .nil
  (fun cs C XL k hk => .and2 (.cmp .int (.n m0) .notInI) fun _ => .cmp .int (.n m0) .notInI) (by simp [kindsF, hlt])).as (d' := .list ((sameF rows).map .bool)) (by rw [hsame, List.map_map]; rfl)).ev) .neBL) (fun h => by cases h) fun _ => .nil rfl) ?_
 refine Ex.new (.of fun X => .cmp .int ((EvC.nm (Γc := []) (L := kindsF rows) (g := iL) (fun k => .int (dcount k : Nat)) inj_iL (.ofList (.n m1)) .nil (fun cs C XL k hk => .lenSet (g_len Wp) (g_set Wp) (by obtain ⟨z, _⟩ := mem_mapI hk; simp [Mine.kinds]) (.n m0)) (by simp [kindsF, hlt])).ev.as (d' := iL ((kindsF rows).map fun k => (dcount k : Int))) (pmap .int _ _)) .inI) ?_
 refine Ex.newC hX (fun X => (EvC.nm2 (Γc := []) (L := List.range 5) (M := fun a => List.range a) (fun (a b : Nat) => .tuple [.int (a : Nat), .int (b : Nat)]) inj_nat inj_nat (.range (n := 5) (g_range Wp) .int (by decide)) .nil
  (fun cs C XL a ha => .range (g_range Wp) (.n m0) (by have := List.mem_range.mp ha; omega)) (fun cs C XL a ha b hb => .tuple (.cons (.n m1) (.cons (.n m0) .nil)) (by simp)) (by decide)).as (d' := .list ((pairsN 5).map fun (z : Nat × Nat) => PyData.tuple [.int (z.1 : Nat), .int (z.2 : Nat)])) (congrArg PyData.list (pairs_map 5 _))) ?_
 refine Ex.newC hX (fun X => (EvC.pr (L := pairsN 5) (g1 := fun (i : Nat) => .int (i : Nat)) (g2 := fun (i : Nat) => .int (i : Nat)) (Γc := [("rows", rL rows)]) (fun a b => .int (parted rows a b)) inj_nat inj_nat (.ofList (.n m0) (fun _ d hd => by obtain ⟨z, _⟩ := mem_mapI hd; exact ⟨_, rfl⟩)) (.cons m6 .nil)
  (fun cs C XL a b hab => .callF (c_parted Wp (show l + 1 < 60 by omega) rows a b (by rw [hro.len]; decide)) (.cons (.n m2) (.cons (.n m1) (.cons (.n m0) .nil)))) (by decide)).as (d' := iL (partF rows)) (pmap .int _ _)) ?_
 refine Ex.seq (Γ1 := topG rows nums n4) (R1 := []) (Δ1 := []) (Ex1.forN (fun i Γ R Δ => Γ = topG rows nums n4 /\ R = ([] : Ros) /\ Δ = []) (nextO (topG rows nums n4) [] []) (ds := [.int 0, .int (1 + (n4.fdiv 4).fmod 4)])
  (.of fun X => .ofTuple (.tuple (.cons .int (.cons (.binop .int (.binop (.binop (.item (i := 4) (.n m8) .int (by decide) (by decide) (by rw [show (4 : Int).toNat = 4 from rfl, List.getElem?_map, hn4]; rfl)) .int (.div (by decide) (PyProof.noPylong_of_log2 (by decide)))) .int (.mod (by decide))) .add) .nil)) (by simp)))
  (Γ' := topG rows nums n4) ⟨rfl, rfl, rfl⟩ (sub_cons m0 (sub_cons m1 (sub_cons m2 (sub_cons m6 (sub_cons m7 (sub_cons m8 sub_nil)))))) (fun p h => h) (List.Sublist.refl _) hX ?_ ?_ ?_) (Ex.ret (.of fun X => .bool) (.inl rfl))
 ·rintro i _ _ _ ⟨rfl, rfl, rfl⟩
  exact ⟨off_of (by kernel_rfl), offR_of (by kernel_rfl)⟩
 ·rintro i d _ _ _ rr hd ⟨rfl, rfl, rfl⟩
  obtain ⟨r, hrm, rfl⟩ : ∃ r, r ∈ [0, 1 + (n4.fdiv 4).fmod 4] /\ d = .int r := by
   have := lG hd
   simp only [List.mem_cons, List.not_mem_nil, or_false] at this ⊢
   rcases this with rfl | rfl
   ·exact ⟨_, .inl rfl, rfl⟩
   ·exact ⟨_, .inr rfl, rfl⟩
  refine Ex.weaken (c_root Wp hF' (by omega) hX hnl hn4 hro (hr r hrm)) fun o ho => .inl ⟨_, _, _, .inl ho, rfl, rfl, rfl⟩
 ·rintro _ _ _ ⟨rfl, rfl, rfl⟩
  rfl
end
section
section
variable {G : PyData -> Prop}
theorem any_eqvG (hG : ∀ x y, G x -> G y -> (PyData.eqv x y = true ↔ x = y)) {ds : List PyData} {d : PyData} (hd : G d) (h : ∀ x ∈ ds, G x) : (ds.any fun y => PyData.eqv y d) = true ↔ d ∈ ds := by
 rw [List.any_eq_true]
 constructor
 ·rintro ⟨x, hx, e⟩
  rw [<- (hG x d (h x hx) hd).mp e]; exact hx
 ·exact fun hx => ⟨d, hx, (hG d d hd hd).mpr rfl⟩
theorem dedup_set (hG : ∀ x y, G x -> G y -> (PyData.eqv x y = true ↔ x = y)) : ∀ (n : Nat) (ds : List PyData), ds.length = n -> (∀ x ∈ ds, G x) -> (dedup ds).Nodup /\ ∀ x, x ∈ dedup ds ↔ x ∈ ds
 | 0, ds, hn, h => by
  rw [List.length_eq_zero_iff] at hn; subst hn
  exact ⟨.nil, fun x => Iff.rfl⟩
 | n + 1, ds, hn, h => by
  rcases List.eq_nil_or_concat ds with rfl | ⟨ds', d, rfl⟩
  ·cases hn
  rw [List.concat_eq_append] at *
  have hl : ds'.length = n := by rw [List.length_append] at hn; simpa using hn
  have hds : ∀ x ∈ ds', G x := fun x hx => h x (lL _ hx)
  obtain ⟨h1, h2⟩ := dedup_set hG n ds' hl hds
  have hd : G d := h d (by simp)
  have hany := any_eqvG hG hd (ds := dedup ds') fun x hx => hds x ((h2 x).mp hx)
  rw [dedup_snoc]
  by_cases hm : d ∈ dedup ds'
  ·rw [if_pos (hany.mpr hm)]
   refine ⟨h1, fun x => ?_⟩
   rw [h2, List.mem_append]
   refine ⟨.inl, fun hx => hx.elim id fun hx => ?_⟩
   rw [lS hx]; exact (h2 d).mp hm
  ·rw [if_neg fun e => hm (hany.mp e)]
   refine ⟨?_, fun x => by rw [List.mem_append, List.mem_append, h2]⟩
   rw [List.nodup_append]
   exact ⟨h1, by simp, fun a ha b hb e => by rw [lS hb] at e; exact hm (e ▸ ha)⟩
theorem remD_set (hG : ∀ x y, G x -> G y -> (PyData.eqv x y = true ↔ x = y)) {d : PyData} (hd : G d) : ∀ {ds : List PyData}, (∀ x ∈ ds, G x) -> ds.Nodup -> (remD d ds).Nodup /\ ∀ x, x ∈ remD d ds ↔ x ∈ ds /\ x ≠ d
 | [], _, _ => ⟨.nil, fun x => by simp [remD]⟩
 | y :: ys, h, hn => by
  rw [List.nodup_cons] at hn
  obtain ⟨h1, h2⟩ := remD_set hG hd (ds := ys) (fun x hx => h x (.tail _ hx)) hn.2
  unfold remD
  have hy := hG y d (h y (.head _)) hd
  by_cases e : y = d
  ·rw [if_pos (hy.mpr e)]
   refine ⟨hn.2, fun x => ⟨fun hx => ⟨.tail _ hx, fun e' => hn.1 (by rw [e, <- e']; exact hx)⟩, fun ⟨hx, hne⟩ => ?_⟩⟩
   rcases lC hx with rfl | hx
   ·exact absurd e hne
   ·exact hx
  ·rw [if_neg fun e' => e (hy.mp e')]
   refine ⟨List.nodup_cons.mpr ⟨fun hx => hn.1 ((h2 y).mp hx).1, h1⟩, fun x => ?_⟩
   rw [List.mem_cons, List.mem_cons, h2]
   constructor
   ·rintro (rfl | ⟨hx, hne⟩)
    ·exact ⟨.inl rfl, e⟩
    ·exact ⟨.inr hx, hne⟩
   ·rintro ⟨rfl | hx, hne⟩
    ·exact .inl rfl
    ·exact .inr ⟨hx, hne⟩
theorem rem_set (hG : ∀ x y, G x -> G y -> (PyData.eqv x y = true ↔ x = y)) : ∀ {es t : List PyData}, (∀ x ∈ t, G x) -> (∀ x ∈ es, G x) -> t.Nodup -> es.Nodup -> ((match remAll t es with | some t' => t'.isEmpty | none => false) = true ↔ ∀ x, x ∈ t ↔ x ∈ es)
 | [], t, ht, _, _, _ => by
  rw [remAll]
  show t.isEmpty = true ↔ _
  rw [List.isEmpty_iff]
  constructor
  ·rintro rfl x; exact Iff.rfl
  ·intro h
   exact List.eq_nil_iff_forall_not_mem.mpr fun x hx => nomatch (h x).mp hx
 | e :: es, t, ht, he, hn, hm => by
  rw [List.nodup_cons] at hm
  have hge := he e (.head _)
  have hany := any_eqvG hG hge ht
  rw [remAll]
  by_cases hmem : e ∈ t
  ·rw [if_pos (hany.mpr hmem)]
   obtain ⟨h1, h2⟩ := remD_set hG hge ht hn
   rw [rem_set hG (fun x hx => ht x ((h2 x).mp hx).1) (fun x hx => he x (.tail _ hx)) h1 hm.2]
   constructor
   ·intro h x
    have hx := h x
    rw [h2] at hx
    rw [List.mem_cons]
    by_cases ex : x = e
    ·subst ex; exact ⟨fun _ => .inl rfl, fun _ => hmem⟩
    ·exact ⟨fun z => .inr (hx.mp ⟨z, ex⟩), fun z => (hx.mpr (z.resolve_left ex)).1⟩
   ·intro h x
    rw [h2]
    have hx := h x
    rw [List.mem_cons] at hx
    constructor
    ·rintro ⟨z, ne⟩; exact (hx.mp z).resolve_left ne
    ·exact fun z => ⟨hx.mpr (.inr z), fun ex => hm.1 (ex ▸ z)⟩
  ·rw [if_neg fun z => hmem (hany.mp z)]
   constructor
   ·intro z; cases z
   ·intro h; exact absurd ((h e).mpr (.head _)) hmem
theorem cmp_set (hG : ∀ x y, G x -> G y -> (PyData.eqv x y = true ↔ x = y)) {a b : List PyData} (ha : ∀ x ∈ a, G x) (hb : ∀ x ∈ b, G x) : cmpO a b = true ↔ ∀ x, x ∈ a ↔ x ∈ b := by
 obtain ⟨a1, a2⟩ := dedup_set hG _ a rfl ha
 obtain ⟨b1, b2⟩ := dedup_set hG _ b rfl hb
 refine Iff.trans (rem_set hG (fun x hx => hb x ((b2 x).mp hx)) (fun x hx => ha x ((a2 x).mp hx)) b1 a1) ?_
 constructor
 ·intro h x; rw [<- a2, <- b2]; exact (h x).symm
 ·intro h x; rw [a2, b2]; exact (h x).symm
end
theorem cmp_ints {a b : List Int} : cmpO (a.map .int) (b.map .int) = true ↔ ∀ x, x ∈ a ↔ x ∈ b := by
 have hG : ∀ x y : PyData, (∃ i, x = .int i) -> (∃ i, y = .int i) -> (PyData.eqv x y = true ↔ x = y) := by
  rintro _ _ ⟨i, rfl⟩ ⟨j, rfl⟩
  simp [PyData.eqv]
 have hm : ∀ l : List Int, ∀ x ∈ l.map PyData.int, ∃ i, x = .int i := fun l x hx => by
  obtain ⟨i, _, rfl⟩ := List.mem_map.mp hx
  exact ⟨i, rfl⟩
 rw [cmp_set hG (hm a) (hm b)]
 have hi : ∀ (l : List Int) (i : Int), PyData.int i ∈ l.map PyData.int ↔ i ∈ l := fun l i => by
  rw [List.mem_map]
  constructor
  ·rintro ⟨j, hj, e⟩; cases e; exact hj
  ·exact fun h => ⟨i, h, rfl⟩
 constructor
 ·intro h x; rw [<- hi, <- hi]; exact h _
 ·intro h x
  constructor
  ·intro hx
   obtain ⟨i, rfl⟩ := hm a x hx
   exact (hi b i).mpr ((h i).mp ((hi a i).mp hx))
  ·intro hx
   obtain ⟨i, rfl⟩ := hm b x hx
   exact (hi a i).mpr ((h i).mpr ((hi b i).mp hx))
theorem inW_iff {one other : List Int} : inW one other = true ↔ ∀ x ∈ one, x ∈ other := by
 unfold inW
 rw [cmp_ints]
 constructor
 ·exact fun h x hx => (h x).mp (lL _ hx)
 ·exact fun h x => ⟨fun hx => (lA hx).elim (h x) id, fun hx => lR _ hx⟩
section
variable {f : Int -> Str} {p q : Int -> Bool}
noncomputable def RR (p q : Int -> Bool) (c d : Int) : Prop := p d = true -> q d = true -> p c = q c
theorem lcp_ne {x : Str} {xs ys : List Str} (h : x ∉ ys) : lcp (x :: xs) ys = [] := by
 cases ys with
 | nil => rfl
 | cons y ys => unfold lcp; rw [if_neg fun e => h (by rw [e]; exact .head _)]
theorem lcp_count {o : List Int} :  o.Nodup -> (∀ c ∈ o, ∀ d ∈ o, f c = f d -> c = d) ->
  (lcp ((o.filter p).map f) ((o.filter q).map f)).length <= (o.filter fun c => p c && q c).length /\
   ((lcp ((o.filter p).map f) ((o.filter q).map f)).length = (o.filter fun c => p c && q c).length ↔ o.Pairwise (RR p q)) := by
 induction o with
 | nil =>
  intro _ _
  exact ⟨Nat.le_refl _, by simp [lcp]⟩
 | cons c o ih =>
  intro hn hi
  rw [List.nodup_cons] at hn
  obtain ⟨h1, h2⟩ := ih hn.2 fun a ha b hb => hi a (.tail _ ha) b (.tail _ hb)
  have hnot : f c ∉ o.map f := fun h => by
   obtain ⟨d, hd, e⟩ := List.mem_map.mp h
   rw [<- hi c (.head _) d (.tail _ hd) e.symm] at hd
   exact hn.1 hd
  have hsub : ∀ r : Int -> Bool, f c ∉ (o.filter r).map f := fun r h => hnot (by
   obtain ⟨d, hd, e⟩ := List.mem_map.mp h
   exact List.mem_map.mpr ⟨d, (List.mem_filter.mp hd).1, e⟩)
  have hnone : (o.filter fun c => p c && q c) = [] -> o.Pairwise (RR p q) /\ ∀ d ∈ o, RR p q c d := fun h => by
   have hz : ∀ d ∈ o, p d = true -> q d = true -> False := fun d hd hp hq => by
    have := List.filter_eq_nil_iff.mp h d hd
    exact this (by simp [hp, hq])
   exact ⟨List.pairwise_of_forall_mem_list fun a ha b hb hp hq => (hz b hb hp hq).elim, fun d hd hp hq => (hz d hd hp hq).elim⟩
  rw [List.pairwise_cons]
  cases hp : p c <;> cases hq : q c
  ·simp only [List.filter_cons, hp, hq, Bool.false_eq_true, if_false, Bool.and_false]
   refine ⟨h1, h2.trans ⟨fun h => ⟨fun d _ _ _ => by rw [hp, hq], h⟩, fun h => h.2⟩⟩
  ·simp only [List.filter_cons, hp, hq, Bool.false_eq_true, if_false, if_true, Bool.false_and, List.map_cons]
   rw [lcp_comm, lcp_ne (hsub p)]
   refine ⟨Nat.zero_le _, fun h => ?_, fun h => ?_⟩
   ·have := hnone (List.length_eq_zero_iff.mp h.symm)
    exact ⟨this.2, this.1⟩
   ·symm
    rw [List.length_nil, List.length_eq_zero_iff, List.filter_eq_nil_iff]
    intro d hd hpq
    rw [Bool.and_eq_true] at hpq
    have := h.1 d hd hpq.1 hpq.2
    rw [hp, hq] at this
    cases this
  ·simp only [List.filter_cons, hp, hq, Bool.false_eq_true, if_false, if_true, Bool.and_false, List.map_cons]
   rw [lcp_ne (hsub q)]
   refine ⟨Nat.zero_le _, fun h => ?_, fun h => ?_⟩
   ·have := hnone (List.length_eq_zero_iff.mp h.symm)
    exact ⟨this.2, this.1⟩
   ·symm
    rw [List.length_nil, List.length_eq_zero_iff, List.filter_eq_nil_iff]
    intro d hd hpq
    rw [Bool.and_eq_true] at hpq
    have := h.1 d hd hpq.1 hpq.2
    rw [hp, hq] at this
    cases this
  ·simp only [List.filter_cons, hp, hq, if_true, Bool.and_true, List.map_cons, lcp, List.length_cons]
   refine ⟨by omega, ?_⟩
   constructor
   ·intro h
    exact ⟨fun d _ _ _ => by rw [hp, hq], h2.mp (by omega)⟩
   ·intro h
    have := h2.mpr h.2
    omega
theorem sym_count (o : List Int) : ((o.filter fun c => p c != q c).length : Int) = (o.filter p).length + (o.filter q).length - 2 * (o.filter fun c => p c && q c).length := by
 induction o with
 | nil => rfl
 | cons c o ih =>
  simp only [List.filter_cons]
  cases hp : p c <;> cases hq : q c <;> simp <;> omega
end
end
section
theorem side_mem {row : List Int} {r : Int} {l : Nat} (hl : l < 5) : decide ((l : Int) ∈ side row r) = Bool.xor (decide ((l : Int) ∈ row)) (decide (r ∈ row)) := by
 unfold side
 by_cases hr : r ∈ row
 ·rw [if_pos (by simpa using hr)]
  by_cases h : (l : Int) ∈ row
  ·simp [hr, h]
   exact fun x _ hn e => hn (by rw [e]; exact h)
  ·have : (l : Int) ∈ ((List.range 5).filter fun (i : Nat) => !decide ((i : Int) ∈ row)).map (fun (i : Nat) => (i : Int)) :=
    List.mem_map.mpr ⟨l, List.mem_filter.mpr ⟨List.mem_range.mpr hl, by simp [h]⟩, rfl⟩
   simp only [this, hr, h]; rfl
 ·rw [if_neg (by simpa using hr)]
  simp [hr]
theorem side_in {row : List Int} {r x : Int} (hrow : ∀ x ∈ row, 0 <= x /\ x < 5) (h : x ∈ side row r) : ∃ l : Nat, l < 5 /\ x = l := by
 unfold side at h
 split at h
 ·obtain ⟨i, hi, rfl⟩ := List.mem_map.mp h
  exact ⟨i, List.mem_range.mp ((List.mem_filter.mp hi).1), rfl⟩
 ·have := hrow x h
  exact ⟨x.toNat, by omega, by omega⟩
noncomputable def kb (p q : Bool) : Int := (if p = true then 2 else 0) + (if q = true then 1 else 0)
theorem kinds_eq (one other : List Int) : kinds one other = [kb (decide (((0 : Nat) : Int) ∈ one)) (decide (((0 : Nat) : Int) ∈ other)), kb (decide (((1 : Nat) : Int) ∈ one)) (decide (((1 : Nat) : Int) ∈ other)), kb (decide (((2 : Nat) : Int) ∈ one)) (decide (((2 : Nat) : Int) ∈ other)), kb (decide (((3 : Nat) : Int) ∈ one)) (decide (((3 : Nat) : Int) ∈ other)), kb (decide (((4 : Nat) : Int) ∈ one)) (decide (((4 : Nat) : Int) ∈ other))] := rfl
noncomputable def Crs (P Q : Nat -> Bool) : Prop := (∃ x, x < 5 /\ P x = true /\ Q x = true) /\ (∃ x, x < 5 /\ P x = true /\ Q x = false) /\ (∃ x, x < 5 /\ P x = false /\ Q x = true) /\ (∃ x, x < 5 /\ P x = false /\ Q x = false)
noncomputable def crsB (x0 y0 x1 y1 x2 y2 x3 y3 x4 y4 : Bool) : Bool :=
 ((x0 && y0) || (x1 && y1) || (x2 && y2) || (x3 && y3) || (x4 && y4)) && ((x0 && !y0) || (x1 && !y1) || (x2 && !y2) || (x3 && !y3) || (x4 && !y4)) && ((!x0 && y0) || (!x1 && y1) || (!x2 && y2) || (!x3 && y3) || (!x4 && y4)) && ((!x0 && !y0) || (!x1 && !y1) || (!x2 && !y2) || (!x3 && !y3) || (!x4 && !y4))
theorem dc4 : ∀ x0 y0 x1 y1 x2 y2 x3 y3 x4 y4 : Bool, decide (dcount [kb x0 y0, kb x1 y1, kb x2 y2, kb x3 y3, kb x4 y4] = 4) = crsB x0 y0 x1 y1 x2 y2 x3 y3 x4 y4 := by decide +kernel
theorem ex5 {R : Nat -> Prop} : (∃ x, x < 5 /\ R x) ↔ R 0 \/ R 1 \/ R 2 \/ R 3 \/ R 4 := by
 constructor
 ·rintro ⟨x, h, r⟩
  rcases (show x = 0 \/ x = 1 \/ x = 2 \/ x = 3 \/ x = 4 by omega) with rfl | rfl | rfl | rfl | rfl
  ·exact .inl r
  ·exact .inr (.inl r)
  ·exact .inr (.inr (.inl r))
  ·exact .inr (.inr (.inr (.inl r)))
  ·exact .inr (.inr (.inr (.inr r)))
 ·rintro (r | r | r | r | r)
  ·exact ⟨0, by decide, r⟩
  ·exact ⟨1, by decide, r⟩
  ·exact ⟨2, by decide, r⟩
  ·exact ⟨3, by decide, r⟩
  ·exact ⟨4, by decide, r⟩
theorem crs_iff {P Q : Nat -> Bool} : crsB (P 0) (Q 0) (P 1) (Q 1) (P 2) (Q 2) (P 3) (Q 3) (P 4) (Q 4) = true ↔ Crs P Q := by
 unfold Crs crsB
 rw [ex5, ex5, ex5, ex5]
 simp only [Bool.and_eq_true, Bool.or_eq_true, Bool.not_eq_true', or_assoc, and_assoc]
theorem kinds4 {one other : List Int} : dcount (kinds one other) = 4 ↔ Crs (fun l => decide ((l : Int) ∈ one)) (fun l => decide ((l : Int) ∈ other)) := by
 rw [kinds_eq, <- crs_iff, <- dc4, decide_eq_true_iff]
theorem crs_xor {P Q : Nat -> Bool} (a b : Bool) : Crs (fun l => Bool.xor (P l) a) (fun l => Bool.xor (Q l) b) ↔ Crs P Q := by
 unfold Crs
 cases a <;> cases b <;> simp only [Bool.xor_false, Bool.xor_true, Bool.not_eq_true', Bool.not_eq_false'] <;> constructor <;> rintro ⟨h1, h2, h3, h4⟩ <;> refine ⟨?_, ?_, ?_, ?_⟩ <;> assumption
theorem crs_congr {P Q P' Q' : Nat -> Bool} (h1 : ∀ l, l < 5 -> P l = P' l) (h2 : ∀ l, l < 5 -> Q l = Q' l) : Crs P Q ↔ Crs P' Q' := by
 unfold Crs
 simp only [ex5]
 rw [h1 0 (by decide), h1 1 (by decide), h1 2 (by decide), h1 3 (by decide), h1 4 (by decide), h2 0 (by decide), h2 1 (by decide), h2 2 (by decide), h2 3 (by decide), h2 4 (by decide)]
theorem crs_sym {P Q : Nat -> Bool} (h : Crs P Q) : Crs Q P := by
 obtain ⟨⟨x, h1, h2, h3⟩, ⟨y, h4, h5, h6⟩, ⟨z, h7, h8, h9⟩, ⟨w, h10, h11, h12⟩⟩ := h
 exact ⟨⟨x, h1, h3, h2⟩, ⟨z, h7, h9, h8⟩, ⟨y, h4, h6, h5⟩, ⟨w, h10, h12, h11⟩⟩
theorem crs_irr {P : Nat -> Bool} (h : Crs P P) : False := by
 obtain ⟨_, ⟨y, _, h5, h6⟩, _⟩ := h
 rw [h5] at h6; cases h6
theorem pairs_mem {n a b : Nat} : (a, b) ∈ pairsN n ↔ a < n /\ b < a := by
 unfold pairsN
 simp only [List.mem_flatMap, List.mem_map, List.mem_range, Prod.mk.injEq]
 constructor
 ·rintro ⟨a', h1, b', h2, rfl, rfl⟩; exact ⟨h1, h2⟩
 ·rintro ⟨h1, h2⟩; exact ⟨a, h1, b, h2, rfl, rfl⟩
noncomputable def inR (rows : List (List Int)) (i : Nat) (l : Nat) : Bool := decide ((l : Int) ∈ rowAt rows i)
theorem crossF_iff {rows : List (List Int)} : crossF rows = true ↔ ∃ a b, a < 4 /\ b < 4 /\ Crs (inR rows a) (inR rows b) := by
 unfold crossF kindsF tiesF
 rw [decide_eq_true_iff, List.map_map, List.map_map, List.mem_map]
 constructor
 ·rintro ⟨⟨a, b⟩, hz, e⟩
  have h := pairs_mem.mp hz
  refine ⟨a, b, h.1, by omega, kinds4.mp ?_⟩
  have : ((dcount (kinds (rowAt rows a) (rowAt rows b)) : Nat) : Int) = 4 := e
  omega
 ·rintro ⟨a, b, ha, hb, h⟩
  have key : ∀ a b, a < 4 -> b < a -> Crs (inR rows a) (inR rows b) -> ∃ z, z ∈ pairsN 4 /\ ((fun k => (dcount k : Int)) ∘ (fun z : List Int × List Int => kinds z.1 z.2) ∘ fun z : Nat × Nat => (rowAt rows z.1, rowAt rows z.2)) z = 4 := fun a b ha hb h => by
   refine ⟨(a, b), pairs_mem.mpr ⟨ha, hb⟩, ?_⟩
   have := kinds4.mpr h
   show ((dcount (kinds (rowAt rows a) (rowAt rows b)) : Nat) : Int) = 4
   omega
  rcases Nat.lt_trichotomy a b with hlt | rfl | hlt
  ·exact key b a hb hlt (crs_sym h)
  ·exact (crs_irr h).elim
  ·exact key a b ha hlt h
theorem same_ok {rows : List (List Int)} (ok : RowsOk rows) : sameF rows = (kindsF rows).map kindB := by
 unfold sameF kindsF
 rw [List.map_map]
 refine List.map_congr_left fun z hz => ?_
 obtain ⟨⟨a, b⟩, hp, rfl⟩ := List.mem_map.mp hz
 have hab := pairs_mem.mp hp
 have hr : ∀ i, i < 4 -> ∀ x ∈ rowAt rows i, ∃ l : Nat, l < 5 /\ x = l := fun i hi x hx => by
  have hl : i < rows.length := by rw [ok.len]; exact hi
  have : rowAt rows i ∈ rows := by unfold rowAt; rw [List.getElem?_eq_getElem hl]; exact List.getElem_mem hl
  have := (ok.each _ this).2 x hx
  exact ⟨x.toNat, by omega, by omega⟩
 have ha := hr a hab.1
 have hb := hr b (by omega)
 generalize rowAt rows a = one at *
 generalize rowAt rows b = other at *
 show cmpO (one.map .int) (other.map .int) = kindB (kinds one other)
 rw [Bool.eq_iff_iff, cmp_ints]
 unfold kindB
 have hk : ∀ v, v ∈ kinds one other ↔ ∃ l : Nat, l < 5 /\ kb (decide ((l : Int) ∈ one)) (decide ((l : Int) ∈ other)) = v := fun v => by
  unfold kinds
  rw [List.mem_map]
  exact ⟨fun ⟨l, h1, h2⟩ => ⟨l, List.mem_range.mp h1, h2⟩, fun ⟨l, h1, h2⟩ => ⟨l, List.mem_range.mpr h1, h2⟩⟩
 rw [Bool.and_eq_true, Bool.not_eq_true', Bool.not_eq_true', decide_eq_false_iff_not, decide_eq_false_iff_not, hk, hk]
 constructor
 ·intro h
  constructor
  ·rintro ⟨l, hl, e⟩
   have := h l
   by_cases h1 : (l : Int) ∈ one
   ·simp [kb, h1, this.mp h1] at e
   ·have h2 := (not_congr this).mp h1
    simp [kb, h1, h2] at e
  ·rintro ⟨l, hl, e⟩
   have := h l
   by_cases h1 : (l : Int) ∈ one
   ·simp [kb, h1, this.mp h1] at e
   ·have h2 := (not_congr this).mp h1
    simp [kb, h1, h2] at e
 ·rintro ⟨h1, h2⟩ x
  constructor
  ·intro hx
   obtain ⟨l, hl, rfl⟩ := ha x hx
   refine Classical.byContradiction fun hn => h2 ⟨l, hl, by simp [kb, hx, hn]⟩
  ·intro hx
   obtain ⟨l, hl, rfl⟩ := hb x hx
   refine Classical.byContradiction fun hn => h1 ⟨l, hl, by simp [kb, hx, hn]⟩
end
section
theorem wMat_at {sides : List (List Int)} (h4 : sides.length = 4) {i j : Nat} (hi : i < 4) (hj : j < 4) : wAt (wMat sides) i j = (((i : Int) != (j : Int)) && inW (rowAt sides i) (rowAt sides j)) := by
 have hen : ∀ k, k < 4 -> (enumL sides)[k]? = some (k, rowAt sides k) := fun k hk => by
  have hlt : k < (enumL sides).length := by rw [enumL_len, h4]; exact hk
  have e := List.getElem?_eq_getElem hlt
  generalize (enumL sides)[k] = z at e
  obtain ⟨n, a⟩ := z
  obtain ⟨rfl, h2⟩ := enumL_get e
  rw [e]
  unfold rowAt
  rw [h2]; rfl
 unfold wAt wMat
 rw [List.getElem?_map, hen i hi]
 show (((wRow sides i (rowAt sides i)))[j]?).getD false = _
 unfold wRow
 rw [List.getElem?_map, hen j hj]
 rfl
theorem waits_mem {sides : List (List Int)} (h4 : sides.length = 4) {late : Nat} (hl : late < 4) {q : Int} : q ∈ waitsOf (wMat sides) late ↔ ∃ early : Nat, early < 4 /\ q = early /\ (∀ x ∈ rowAt sides late, x ∈ rowAt sides early) /\ ¬ ∀ x ∈ rowAt sides early, x ∈ rowAt sides late := by
 unfold waitsOf
 rw [List.mem_map]
 constructor
 ·rintro ⟨early, h, rfl⟩
  obtain ⟨h1, h2⟩ := List.mem_filter.mp h
  have he := List.mem_range.mp h1
  rw [wMat_at h4 hl he, wMat_at h4 he hl] at h2
  simp only [Bool.and_eq_true, bne_iff_ne, Bool.not_eq_true', Bool.and_eq_false_iff] at h2
  obtain ⟨⟨hne, h3⟩, h5⟩ := h2
  refine ⟨early, he, rfl, inW_iff.mp h3, fun h => ?_⟩
  rcases h5 with h5 | h5
  ·have : ((early : Int) != (late : Int)) = true := bne_iff_ne.mpr fun e => hne e.symm
   rw [this] at h5; cases h5
  ·rw [inW_iff.mpr h] at h5; cases h5
 ·rintro ⟨early, he, rfl, h3, h5⟩
  refine ⟨early, List.mem_filter.mpr ⟨List.mem_range.mpr he, ?_⟩, rfl⟩
  rw [wMat_at h4 hl he, wMat_at h4 he hl]
  have hne : (late : Int) ≠ (early : Int) := fun e => by
   have : late = early := by omega
   subst this; exact h5 h3
  have h6 : inW (rowAt sides early) (rowAt sides late) = false := by
   rw [Bool.eq_false_iff]
   exact fun h => h5 (inW_iff.mp h)
  rw [inW_iff.mpr h3, h6]
  simp [hne]
theorem filter_lt {α : Type} {p q : α -> Bool} {l : List α} (h : ∀ x ∈ l, p x = true -> q x = true) {y : α} (hy : y ∈ l) (hq : q y = true) (hp : p y = false) : (l.filter p).length < (l.filter q).length := by
 rw [<- List.countP_eq_length_filter, <- List.countP_eq_length_filter]
 induction l with
 | nil => cases hy
 | cons x l ih =>
  rw [List.countP_cons, List.countP_cons]
  rcases lC hy with rfl | hy
  ·have := List.countP_mono_left (p := p) (q := q) (l := l) fun x hx => h x (.tail _ hx)
   rw [hp, hq]
   simp; omega
  ·have := ih (fun x hx => h x (.tail _ hx)) hy
   have h2 := h x (.head _)
   cases hp2 : p x
   ·simp; omega
   ·rw [h2 hp2]; simp; omega
theorem sides_at {rows : List (List Int)} (ok : RowsOk rows) {r : Int} {i : Nat} (hi : i < 4) : rowAt (sidesF rows r) i = side (rowAt rows i) r := by
 have hl : i < rows.length := by rw [ok.len]; exact hi
 unfold rowAt sidesF
 rw [List.getElem?_map, List.getElem?_eq_getElem hl]; rfl
theorem row_in {rows : List (List Int)} (ok : RowsOk rows) {i : Nat} (hi : i < 4) : ∀ x ∈ rowAt rows i, 0 <= x /\ x < 5 := by
 have hl : i < rows.length := by rw [ok.len]; exact hi
 have : rowAt rows i ∈ rows := by unfold rowAt; rw [List.getElem?_eq_getElem hl]; exact List.getElem_mem hl
 exact (ok.each _ this).2
theorem order_split {o : List Int} {c d : Int} (hc : c ∈ o) (hd : d ∈ o) (hne : c ≠ d) : [c, d].Sublist o \/ [d, c].Sublist o := by
 obtain ⟨s, t, rfl⟩ := List.append_of_mem hc
 rcases lA hd with h | h
 ·refine .inr ?_
  have h1 : [d].Sublist s := List.singleton_sublist.mpr h
  have h2 : [c].Sublist (c :: t) := List.singleton_sublist.mpr (.head _)
  exact h1.append h2
 ·rcases lC h with e | h
  ·exact absurd e.symm hne
  ·refine .inl ?_
   exact ((List.singleton_sublist.mpr h).cons_cons c).trans (List.sublist_append_right s _)
theorem steps_eq {La Lb : List Str} (ha : La.Nodup) (hb : Lb.Nodup) (hma : ∀ x ∈ La, x ∈ NMS) (hmb : ∀ x ∈ Lb, x ∈ NMS) : stepsF (La.foldl joinF "/") (Lb.foldl joinF "/") = La.length + Lb.length - 2 * (lcp La Lb).length := by
 obtain ⟨k, e⟩ := lcp_take La Lb
 obtain ⟨h1, h2⟩ := take_ok ha hma k
 unfold stepsF comF
 rw [(path_ok ha hma).2.1, (path_ok hb hmb).2.1, (path_ok ha hma).2.2.1, (path_ok hb hmb).2.2.1, e, (path_ok h1 h2).2.2.2.2.2]
theorem name_inj {n4 : Int} : ∀ c d : Int, 0 <= c /\ c < 4 -> 0 <= d /\ d < 4 -> nameF n4 c = nameF n4 d -> c = d := fun c d hc hd e => by
 have hN : ∀ i j : Nat, i < 4 -> j < 4 -> NMS[i]?.getD "a" = NMS[j]?.getD "a" -> i = j := by
  have : ∀ i j : Fin 4, NMS[i.val]?.getD "a" = NMS[j.val]?.getD "a" -> i = j := by decide +kernel
  exact fun i j hi hj h => congrArg Fin.val (this ⟨i, hi⟩ ⟨j, hj⟩ h)
 unfold nameF at e
 have h1 := Int.fmod_nonneg_of_pos (c + n4) (show (0 : Int) < 4 by decide)
 have h2 := Int.fmod_lt_of_pos (c + n4) (show (0 : Int) < 4 by decide)
 have h3 := Int.fmod_nonneg_of_pos (d + n4) (show (0 : Int) < 4 by decide)
 have h4 := Int.fmod_lt_of_pos (d + n4) (show (0 : Int) < 4 by decide)
 have := hN _ _ (by omega) (by omega) e
 have e2 : (c + n4).fmod 4 = (d + n4).fmod 4 := by omega
 have e3 := Int.fmod_eq_emod_of_nonneg (c + n4) (show (0 : Int) <= 4 by decide)
 have e4 := Int.fmod_eq_emod_of_nonneg (d + n4) (show (0 : Int) <= 4 by decide)
 omega
end
section
noncomputable def MM (sides : List (List Int)) (l : Nat) (c : Int) : Bool := decide ((l : Int) ∈ rowAt sides c.toNat)
theorem rr_sym {p q : Int -> Bool} {c d : Int} (h : RR p q c d) : RR q p c d := fun h1 h2 => (h h2 h1).symm
section
variable {rows : List (List Int)} {r n4 : Int}
noncomputable def rkF (sides : List (List Int)) (x : Int) : Nat := ((List.range 5).filter fun (l : Nat) => decide ((l : Int) ∈ rowAt sides x.toNat)).length
theorem sides_len (ok : RowsOk rows) : (sidesF rows r).length = 4 := by unfold sidesF; rw [List.length_map]; exact ok.len
theorem sides_leaf (ok : RowsOk rows) {i : Nat} (hi : i < 4) {x : Int} (h : x ∈ rowAt (sidesF rows r) i) : ∃ l : Nat, l < 5 /\ x = l := by
 rw [sides_at ok hi] at h
 exact side_in (row_in ok hi) h
theorem rk_ok (ok : RowsOk rows) : ∀ p ∈ gW (sidesF rows r), ∀ q ∈ p.2, rkF (sidesF rows r) p.1 < rkF (sidesF rows r) q := fun p hp q hq => by
 obtain ⟨late, hl, rfl⟩ := List.mem_map.mp hp
 have hl4 := List.mem_range.mp hl
 obtain ⟨early, he, rfl, h1, h2⟩ := (waits_mem (sides_len ok) hl4).mp hq
 have : ∃ x, x ∈ rowAt (sidesF rows r) early /\ x ∉ rowAt (sidesF rows r) late := Classical.byContradiction fun hn => h2 fun x hx => Classical.byContradiction fun hx2 => hn ⟨x, hx, hx2⟩
 obtain ⟨x, hx1, hx2⟩ := this
 obtain ⟨l, hl5, rfl⟩ := sides_leaf ok he hx1
 unfold rkF
 simp only [Int.toNat_natCast]
 exact filter_lt (fun l _ h => decide_eq_true (h1 _ (of_decide_eq_true h))) (List.mem_range.mpr hl5) (decide_eq_true hx1) (decide_eq_false hx2)
theorem ord_nd (ok : RowsOk rows) : (orderF (sidesF rows r) n4).Nodup := (order_ok (gW (sidesF rows r)) (n4.fdiv 16) (rkF (sidesF rows r)) (rk_ok ok)).1
theorem ord_mem (ok : RowsOk rows) (x : Int) : x ∈ orderF (sidesF rows r) n4 ↔ 0 <= x /\ x < 4 := by
 refine ((order_ok (gW (sidesF rows r)) (n4.fdiv 16) (rkF (sidesF rows r)) (rk_ok ok)).2.1 x).trans ?_
 constructor
 ·rintro ⟨p, hp, h⟩
  obtain ⟨late, hl, rfl⟩ := List.mem_map.mp hp
  have hl4 := List.mem_range.mp hl
  rcases h with rfl | h
  ·show 0 <= (late : Int) /\ (late : Int) < 4
   omega
  ·obtain ⟨early, he, rfl, _⟩ := (waits_mem (sides_len ok) hl4).mp h
   omega
 ·rintro ⟨h1, h2⟩
  refine ⟨(((x.toNat : Nat) : Int), waitsOf (wMat (sidesF rows r)) x.toNat), List.mem_map.mpr ⟨x.toNat, List.mem_range.mpr (by omega), rfl⟩, .inl ?_⟩
  show x = ((x.toNat : Nat) : Int)
  omega
theorem ord_topo (ok : RowsOk rows) {c d : Int} (h : [c, d].Sublist (orderF (sidesF rows r) n4)) (h1 : ∀ x ∈ rowAt (sidesF rows r) c.toNat, x ∈ rowAt (sidesF rows r) d.toNat) (h2 : ¬ ∀ x ∈ rowAt (sidesF rows r) d.toNat, x ∈ rowAt (sidesF rows r) c.toNat) : False := by
 have hc := (ord_mem (n4 := n4) ok c).mp (h.subset (.head _))
 have hd := (ord_mem (n4 := n4) ok d).mp (h.subset (.tail _ (.head _)))
 obtain ⟨r1, r2, e, hc1, hd1⟩ := List.cons_sublist_iff.mp h
 obtain ⟨s, t, rfl⟩ := List.append_of_mem hc1
 have hd2 : d ∈ r2 := List.singleton_sublist.mp hd1
 have e' : orderF (sidesF rows r) n4 = s ++ c :: (t ++ r2) := by rw [e]; simp
 have hw : d ∈ waitsOf (wMat (sidesF rows r)) c.toNat := (waits_mem (sides_len ok) (by omega)).mpr ⟨d.toNat, by omega, by omega, h1, h2⟩
 have hs := (order_ok (gW (sidesF rows r)) (n4.fdiv 16) (rkF (sidesF rows r)) (rk_ok ok)).2.2 s c (t ++ r2) e' (waitsOf (wMat (sidesF rows r)) c.toNat) (List.mem_map.mpr ⟨c.toNat, List.mem_range.mpr (by omega), by rw [show ((c.toNat : Nat) : Int) = c by omega]⟩) d hw
 have hn := ord_nd (n4 := n4) (r := r) ok
 rw [e'] at hn
 exact (List.nodup_append.mp hn).2.2 d hs d (.tail _ (lR _ hd2)) rfl
theorem MM_side (ok : RowsOk rows) {i l : Nat} (hi : i < 4) (hl : l < 5) : inR (sidesF rows r) i l = Bool.xor (inR rows i l) (decide (r ∈ rowAt rows i)) := by
 unfold inR
 rw [sides_at ok hi, side_mem hl]
theorem crs_sides (ok : RowsOk rows) {i j : Nat} (hi : i < 4) (hj : j < 4) : Crs (inR (sidesF rows r) i) (inR (sidesF rows r) j) ↔ Crs (inR rows i) (inR rows j) :=
 (crs_congr (fun l hl => MM_side ok hi hl) fun l hl => MM_side ok hj hl).trans (crs_xor _ _)
theorem root_out (ok : RowsOk rows) (hr : 0 <= r /\ r < 5) {i : Nat} (hi : i < 4) : inR (sidesF rows r) i r.toNat = false := by
 rw [MM_side ok hi (by omega)]
 unfold inR
 rw [show ((r.toNat : Nat) : Int) = r by omega]
 cases decide (r ∈ rowAt rows i) <;> rfl
theorem cross_iff (ok : RowsOk rows) (hr : 0 <= r /\ r < 5) : (∀ a b, a < 5 -> b < a -> (orderF (sidesF rows r) n4).Pairwise (RR (MM (sidesF rows r) a) (MM (sidesF rows r) b))) ↔ crossF rows = false := by
 constructor
 ·intro h
  rw [Bool.eq_false_iff]
  intro hc
  obtain ⟨i, j, hi, hj, hx⟩ := crossF_iff.mp hc
  have hx := (crs_sides (r := r) ok hi hj).mpr hx
  have hij : i ≠ j := fun e => crs_irr (e ▸ hx)
  obtain ⟨⟨x, x1, x2, x3⟩, ⟨y, y1, y2, y3⟩, ⟨z, z1, z2, z3⟩, _⟩ := hx
  have sym : ∀ a b, a < 5 -> b < 5 -> a ≠ b -> (orderF (sidesF rows r) n4).Pairwise (RR (MM (sidesF rows r) a) (MM (sidesF rows r) b)) := fun a b ha hb hne => by
   rcases Nat.lt_or_gt_of_ne hne with hlt | hlt
   ·exact (h b a hb hlt).imp rr_sym
   ·exact h a b ha hlt
  rcases order_split ((ord_mem (n4 := n4) (r := r) ok (i : Int)).mpr ⟨by omega, by omega⟩) ((ord_mem (n4 := n4) (r := r) ok (j : Int)).mpr ⟨by omega, by omega⟩) (by omega) with hs | hs
  ·have := List.pairwise_iff_forall_sublist.mp (sym x z x1 z1 (fun e => by subst e; rw [x2] at z2; cases z2)) hs x3 z3
   have e1 : MM (sidesF rows r) x (i : Int) = true := x2
   have e2 : MM (sidesF rows r) z (i : Int) = false := z2
   rw [e1, e2] at this; cases this
  ·have := List.pairwise_iff_forall_sublist.mp (sym x y x1 y1 (fun e => by subst e; rw [x3] at y3; cases y3)) hs x2 y2
   have e1 : MM (sidesF rows r) x (j : Int) = true := x3
   have e2 : MM (sidesF rows r) y (j : Int) = false := y3
   rw [e1, e2] at this; cases this
 ·intro hc a b ha hb
  have key : ∀ a b c d, a < 5 -> b < 5 -> [c, d].Sublist (orderF (sidesF rows r) n4) -> MM (sidesF rows r) a d = true -> MM (sidesF rows r) b d = true -> MM (sidesF rows r) a c = true -> MM (sidesF rows r) b c = false -> False := fun a b c d ha hb hs h1 h2 h3 h4 => by
   have hcm := (ord_mem (n4 := n4) ok c).mp (hs.subset (.head _))
   have hdm := (ord_mem (n4 := n4) ok d).mp (hs.subset (.tail _ (.head _)))
   refine ord_topo ok hs (fun x hx => Classical.byContradiction fun hn => ?_) fun h => ?_
   ·obtain ⟨l, hl, rfl⟩ := sides_leaf ok (by omega) hx
    have : Crs (inR (sidesF rows r) c.toNat) (inR (sidesF rows r) d.toNat) :=
     ⟨⟨a, ha, h3, h1⟩, ⟨l, hl, decide_eq_true hx, decide_eq_false hn⟩, ⟨b, hb, h4, h2⟩, ⟨r.toNat, by omega, root_out ok hr (by omega), root_out ok hr (by omega)⟩⟩
    rw [crossF_iff.mpr ⟨c.toNat, d.toNat, by omega, by omega, (crs_sides ok (by omega) (by omega)).mp this⟩] at hc
    cases hc
   ·exact of_decide_eq_false h4 (h _ (of_decide_eq_true h2))
  refine List.pairwise_iff_forall_sublist.mpr fun {c d} hs h1 h2 => ?_
  cases h3 : MM (sidesF rows r) a c <;> cases h4 : MM (sidesF rows r) b c
  ·rfl
  ·exact (key b a c d (by omega) ha hs h2 h1 h4 h3).elim
  ·exact (key a b c d ha (by omega) hs h1 h2 h3 h4).elim
  ·rfl
theorem ord_perm (ok : RowsOk rows) : (orderF (sidesF rows r) n4).Perm [0, 1, 2, 3] := (List.perm_ext_iff_of_nodup (ord_nd ok) (by decide)).mpr fun x => by
 rw [ord_mem ok]
 simp only [List.mem_cons, List.not_mem_nil, or_false]
 omega
theorem rows4 {rows : List (List Int)} (h : rows.length = 4) : ([0, 1, 2, 3] : List Int).map (fun c => rowAt rows c.toNat) = rows := by
 obtain ⟨a, u, rfl⟩ := List.exists_cons_of_length_eq_add_one h
 obtain ⟨b, u, rfl⟩ := List.exists_cons_of_length_eq_add_one (Nat.succ.inj h)
 obtain ⟨c, d, rfl⟩ := len_two (Nat.succ.inj (Nat.succ.inj h))
 rfl
theorem parted_eq (ok : RowsOk rows) {a b : Nat} (ha : a < 5) (hb : b < 5) : parted rows a b = ((orderF (sidesF rows r) n4).filter fun c => MM (sidesF rows r) a c != MM (sidesF rows r) b c).length := by
 have h1 : ((orderF (sidesF rows r) n4).filter fun c => MM (sidesF rows r) a c != MM (sidesF rows r) b c).length = (([0, 1, 2, 3] : List Int).filter fun c => MM (sidesF rows r) a c != MM (sidesF rows r) b c).length := ((ord_perm ok).filter _).length_eq
 rw [h1]
 have h2 := rows4 ok.len
 have h3 : parted rows a b = ((([0, 1, 2, 3] : List Int).filter fun c => decide ((a : Int) ∈ rowAt rows c.toNat) != decide ((b : Int) ∈ rowAt rows c.toNat)).length : Nat) := by
  unfold parted
  conv => lhs; rw [<- h2]
  rw [List.filter_map, List.length_map]
  rfl
 rw [h3]
 congr 2
 refine List.filter_congr fun c hc => ?_
 have hc4 : c.toNat < 4 := by
  simp only [List.mem_cons, List.not_mem_nil, or_false] at hc
  omega
 unfold MM
 rw [sides_at ok hc4, side_mem ha, side_mem hb]
 cases decide ((a : Int) ∈ rowAt rows c.toNat) <;> cases decide ((b : Int) ∈ rowAt rows c.toNat) <;> cases decide (r ∈ rowAt rows c.toNat) <;> rfl
theorem leaf_nd (ok : RowsOk rows) (l : Nat) : (leafL n4 (sidesF rows r) (orderF (sidesF rows r) n4) l).Nodup := by
 unfold leafL
 have hm : ∀ c ∈ orderF (sidesF rows r) n4, 0 <= c /\ c < 4 := fun c hc => (ord_mem ok c).mp hc
 refine List.Pairwise.map _ (R := fun c d => (c ≠ d /\ c ∈ orderF (sidesF rows r) n4) /\ d ∈ orderF (sidesF rows r) n4) (fun c d h e => h.1.1 (name_inj c d (hm c h.1.2) (hm d h.2) e)) ?_
 refine (List.pairwise_iff_forall_sublist.mpr fun {c d} hs => ?_)
 have hs' := hs.trans List.filter_sublist
 exact ⟨⟨List.pairwise_iff_forall_sublist.mp (ord_nd ok) hs', hs'.subset (.head _)⟩, hs'.subset (.tail _ (.head _))⟩
theorem far_at (ok : RowsOk rows) {a b : Nat} (ha : a < 5) (hb : b < 5) :
  parted rows a b <= stepsF (pathF n4 (sidesF rows r) (orderF (sidesF rows r) n4) a) (pathF n4 (sidesF rows r) (orderF (sidesF rows r) n4) b) /\
   (stepsF (pathF n4 (sidesF rows r) (orderF (sidesF rows r) n4) a) (pathF n4 (sidesF rows r) (orderF (sidesF rows r) n4) b) = parted rows a b ↔ (orderF (sidesF rows r) n4).Pairwise (RR (MM (sidesF rows r) a) (MM (sidesF rows r) b))) := by
 have hm : ∀ c ∈ orderF (sidesF rows r) n4, 0 <= c /\ c < 4 := fun c hc => (ord_mem ok c).mp hc
 unfold pathF
 rw [steps_eq (leaf_nd ok a) (leaf_nd ok b) leaf_mem leaf_mem, parted_eq (r := r) (n4 := n4) ok ha hb, sym_count]
 obtain ⟨h1, h2⟩ := lcp_count (f := nameF n4) (p := MM (sidesF rows r) a) (q := MM (sidesF rows r) b) (ord_nd (n4 := n4) (r := r) ok) fun c hc d hd => name_inj c d (hm c hc) (hm d hd)
 have e : ∀ l : Nat, leafL n4 (sidesF rows r) (orderF (sidesF rows r) n4) l = ((orderF (sidesF rows r) n4).filter (MM (sidesF rows r) l)).map (nameF n4) := fun l => rfl
 rw [e a, e b, List.length_map, List.length_map, <- h2]
 constructor
 ·omega
 ·omega
theorem root_ok (ok : RowsOk rows) (hr : 0 <= r /\ r < 5) : RootOk rows n4 r := by
 have hpr : ∀ z ∈ pairsN 5, z.1 < 5 /\ z.2 < z.1 := fun z hz => pairs_mem.mp (show (z.1, z.2) ∈ pairsN 5 from hz)
 refine ⟨⟨_, rk_ok ok⟩, fun c hc => (ord_mem ok c).mp hc, ?_, fun l _ => leaf_nd ok l, fun z hz => ?_, ?_⟩
 ·have := (ord_perm (n4 := n4) (r := r) ok).length_eq
  simp at this; omega
 ·unfold farF partF at hz
  rw [List.zip_map'] at hz
  obtain ⟨y, hy, rfl⟩ := List.mem_map.mp hz
  have := hpr y hy
  have := (far_at (n4 := n4) (r := r) ok this.1 (show y.2 < 5 by omega)).1
  exact Int.not_lt.mpr this
 ·have h : farF n4 (sidesF rows r) (orderF (sidesF rows r) n4) = partF rows ↔ crossF rows = false := by
   rw [<- cross_iff (n4 := n4) ok hr]
   unfold farF partF
   rw [List.map_inj_left]
   constructor
   ·intro h a b ha hb
    exact (far_at ok ha (by omega)).2.mp (h (a, b) (pairs_mem.mpr ⟨ha, hb⟩))
   ·intro h z hz
    have := hpr z hz
    exact (far_at ok this.1 (by omega)).2.mpr (h z.1 z.2 this.1 this.2)
  cases hc : crossF rows
  ·rw [decide_eq_true (h.mpr hc)]; rfl
  ·rw [decide_eq_false fun e => by rw [h.mp e] at hc; cases hc]; rfl
end
end
section
theorem root_in (n4 : Int) : ∀ r ∈ [0, 1 + (n4.fdiv 4).fmod 4], 0 <= r /\ r < 5 := fun r hr => by
 have h1 := Int.fmod_nonneg_of_pos (n4.fdiv 4) (show (0 : Int) < 4 by decide)
 have h2 := Int.fmod_lt_of_pos (n4.fdiv 4) (show (0 : Int) < 4 by decide)
 simp only [List.mem_cons, List.not_mem_nil, or_false] at hr
 rcases hr with rfl | rfl <;> omega
theorem law1 : WalkO qv1 lo1 (fun _ _ => True) hk1.says PySem.Challenge.rw_il0092_01.row.toRowW (dr1 33) [] fun f vs => PySem.call f vs := by
 refine join (l := PySem.Challenge.rw_il0092_01) rfl rfl (fun w h Y => ⟨_, kIn_of Y 1 _ rfl⟩) fun c mg mb hp hY W script hl => ?_
 obtain ⟨n4, hn4⟩ : ∃ n4, (numsF (cellsF script))[4]? = some n4 := ⟨_, List.getElem?_eq_getElem (by rw [nums_len]; decide)⟩
 exact c_law W (kIn_of hY) (by decide) script (by omega) n4 hn4 (same_ok (rows_ok _)) fun r hr => root_ok (rows_ok _) (root_in n4 r hr)
end
end Mine
theorem PySem.Challenge.cw_il0092_01_holds : PySem.Challenge.rw_il0092_01.Holds := by
 exact Mine.head1 Mine.law1
