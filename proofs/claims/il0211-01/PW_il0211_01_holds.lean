import PyProof.Rows.All
import PyProof.AttrMissHeap
import PyProof.Conv_bool
import PyProof.WalksMore
import PyProof.InstStoreFacts
import PyProof.TupleCall
import PyProof.TupleOfSeq
import KE.BitLaws
import OpenK.KDescr
import OpenK.KMake
import OpenK.KCls
import KE.BytesMake
import KE.IntBitsLaws
import KE.KBits
import KE.KBytesWalk
import KE.KLam
import KE.KDictIter
import KE.KFromBytes
import KE.KItemsList
import KE.KStopIter
import KE.KTryOn
import Wide.FinOn
import OpenK.AllK
import Wide.All
import PySem.Challenge.RW_il0211_01

/- Base -/
namespace Mine
open PySem PySem.W PySem.Calls PySem.Spec PyProof.Rows
set_option Elab.async false

/-- the table of `_law_read`'s code object: the one elder object that the law turns (its lambda's code is noted there) -/
abbrev tT : Addr := 197
abbrev tC : Addr := 199
/-- where the lambda stands -/
abbrev lamL : Int := 149
abbrev lamC : Int := 11
def TabOk (h : Heap) : Prop := ∃ ps : Array Value, h.get? tT = some (tabObj ps) ∧ (ps = #[] ∨ ∃ (l c : Int) (c' : Addr), ps = #[rawInt l, rawInt c, .ref c'] ∧ l = lamL ∧ c = lamC)

/-- the mark of a strict world: the table's address twice -/
def Mk (W : List Addr) : Prop := 2 ≤ W.count tT
theorem Mk.app {N W : List Addr} (h : Mk W) : Mk (N ++ W) := by unfold Mk at *; rw [List.count_append]; lia
theorem Mk.un {N W : List Addr} (h : Mk (N ++ W)) (hN : ∀ a ∈ N, a ≠ tT) : Mk W := by
  unfold Mk at *
  rw [List.count_append, List.count_eq_zero.mpr fun hm => hN _ hm rfl] at h
  lia

theorem Mk.iff {N W : List Addr} (hN : ∀ a ∈ N, a ≠ tT) : Mk (N ++ W) ↔ Mk W := ⟨fun h => h.un hN, Mk.app⟩

/-- what a pure step keeps: all but the hidden, these up to their slots (a raise fills the frames' slots) -/
structure Kept (W : List Addr) (s s' : Shared) : Prop where
  same : ∃ h' tk, s' = { s with heap := h', toks := tk }
  keep : ∀ b o, b ∉ W → s.heap.get? b = some o → s'.heap.get? b = some o
  slots : ∀ b o, b ∈ W → b ≠ tT → s.heap.get? b = some o → ∃ sl, s'.heap.get? b = some { o with slots := sl } ∧ ((∀ es ep, o.data ≠ .dict es ep) ∨ Mk W → sl = o.slots)
  tab : TabOk s.heap → TabOk s'.heap

theorem TabOk.keeps {h h' : Heap} (x : TabOk h) (k : ∀ b o, h.get? b = some o → h'.get? b = some o) : TabOk h' := let ⟨ps, e, r⟩ := x; ⟨ps, k _ _ e, r⟩

theorem Kept.refl (W : List Addr) (s : Shared) : Kept W s s := ⟨⟨_, _, rfl⟩, fun _ _ _ e => e, fun _ o _ _ e => ⟨o.slots, e, fun _ => rfl⟩, fun x => x⟩
theorem Kept.keeps {W : List Addr} {s : Shared} {h' : Heap} {k : Nat} (hk : ∀ b o, s.heap.get? b = some o → h'.get? b = some o) : Kept W s { s with heap := h', toks := k } :=
  ⟨⟨_, _, rfl⟩, fun b o _ e => hk b o e, fun b o _ _ e => ⟨o.slots, hk b o e, fun _ => rfl⟩, fun x => x.keeps hk⟩
theorem Kept.toks {W : List Addr} {s : Shared} {k : Nat} : Kept W s { s with toks := k } := Kept.keeps (h' := s.heap) fun _ _ e => e
theorem Kept.push {W : List Addr} {s : Shared} {o : Obj} {k : Nat} : Kept W s { s with heap := s.heap.push o, toks := k } := Kept.keeps fun _ _ e => Heap.get?_push_of_some _ e
theorem Kept.heap {W : List Addr} {s : Shared} {h' : Heap} (hk : ∀ b o, s.heap.get? b = some o → h'.get? b = some o) : Kept W s { s with heap := h' } := Kept.keeps (k := s.toks) hk
theorem Kept.push' {W : List Addr} {s : Shared} {o : Obj} : Kept W s { s with heap := s.heap.push o } := Kept.push (k := s.toks)
theorem Kept.of {W : List Addr} {s s' : Shared} (x : Keeps s s') : Kept W s s' := by
  obtain ⟨h', tk, rfl, hk⟩ := x
  exact Kept.keeps hk

theorem Kept.trans {W : List Addr} {s₁ s₂ s₃ : Shared} (x : Kept W s₁ s₂) (y : Kept W s₂ s₃) : Kept W s₁ s₃ := by
  obtain ⟨⟨h1, t1, rfl⟩, a1, b1, c1⟩ := x
  obtain ⟨⟨h2, t2, rfl⟩, a2, b2, c2⟩ := y
  refine ⟨⟨h2, t2, rfl⟩, fun b o hb e => a2 b o hb (a1 b o hb e), fun b o hb hT e => ?_, fun x => c2 (c1 x)⟩
  obtain ⟨sl, e1, q1⟩ := b1 b o hb hT e
  obtain ⟨sl2, e2, q2⟩ := b2 b _ hb hT e1
  exact ⟨sl2, e2, fun h => (q2 h).trans (q1 h)⟩

/-- a step inside: the addresses N were not there at s₁ -/
theorem Kept.inner {N W : List Addr} {s₀ s₁ s₂ : Shared} (x : Kept W s₀ s₁) (y : Kept (N ++ W) s₁ s₂) (hN : ∀ a ∈ N, s₀.heap.get? a = none) : Kept W s₀ s₂ := by
  obtain ⟨⟨h1, t1, rfl⟩, a1, b1, c1⟩ := x
  obtain ⟨⟨h2, t2, rfl⟩, a2, b2, c2⟩ := y
  have fr : ∀ b o, s₀.heap.get? b = some o → b ∉ N := fun b o e hb => by rw [hN b hb] at e; cases e
  refine ⟨⟨h2, t2, rfl⟩, fun b o hb e => a2 b o (fun h => (List.mem_append.mp h).elim (fr b o e) hb) (a1 b o hb e), fun b o hb hT e => ?_, fun x => c2 (c1 x)⟩
  obtain ⟨sl, e1, q1⟩ := b1 b o hb hT e
  obtain ⟨sl2, e2, q2⟩ := b2 b _ (List.mem_append_right _ hb) hT e1
  exact ⟨sl2, e2, fun h => (q2 (h.imp_right Mk.app)).trans (q1 h)⟩

/-- a step that turns one object that was not there at s₀ -/
theorem Kept.own {W : List Addr} {s₀ s : Shared} {a : Addr} {h' : Heap} {k : Nat} (x : Kept W s₀ s) (hs : Heap.ExtBut a s.heap h') (ha : s₀.heap.get? a = none) (haT : a ≠ tT) : Kept W s₀ { s with heap := h', toks := k } := by
  obtain ⟨⟨h1, t1, rfl⟩, a1, b1, c1⟩ := x
  have fr : ∀ b o, s₀.heap.get? b = some o → b ≠ a := fun b o e hb => by rw [hb, ha] at e; cases e
  refine ⟨⟨h', k, rfl⟩, fun b o hb e => hs b o (fr b o e) (a1 b o hb e), fun b o hb hT e => ?_, fun x => ?_⟩
  · obtain ⟨sl, e1, q1⟩ := b1 b o hb hT e
    exact ⟨sl, hs b _ (fr b o e) e1, q1⟩
  · obtain ⟨ps, e, r⟩ := c1 x
    exact ⟨ps, hs _ _ (Ne.symm haT) e, r⟩

/-- the ground: the program, the world, what is known of the top -/
structure Gd where
  prog : Program
  w : World
  K : Frag
  p : Program
  loose : List Str
  mean : ExcName → Option Value
  mg : Str → Option Value
  mb : Str → Option Value
  more : List (Addr × Obj) := []
  ex : Bool := false

abbrev Gd.M (g : Gd) : Model := model g.prog g.w

structure Known (g : Gd) (h : Heap) : Prop where
  k : g.K.In h
  top : Top g.p g.loose g.mean g.mg g.mb h
  code : CodeHd h tC tT
  more : ∀ p ∈ g.more, h.get? p.1 = some p.2

theorem Known.keeps {g : Gd} {h h' : Heap} (x : Known g h) (k : ∀ b o, h.get? b = some o → h'.get? b = some o) : Known g h' := ⟨x.k.keeps k, x.top.keeps k, x.code.keeps k, fun p hp => k _ _ (x.more p hp)⟩

/-- a world: the hidden addresses, the state -/
structure Wd (g : Gd) (W : List Addr) (s : Shared) : Prop where
  tW : tT ∈ W
  tab : TabOk s.heap
  live : ∀ a ∈ W, ∃ o, s.heap.get? a = some o
  known : Known g (hideAll s.heap W)
  mode : Mk W ↔ g.ex = true

/-- what is asked of where a call begins -/
structure W0 (W : List Addr) (s : Shared) : Prop where
  tW : tT ∈ W
  tab : TabOk s.heap
  live : ∀ a ∈ W, ∃ o, s.heap.get? a = some o
theorem Wd.w0 {g : Gd} {W : List Addr} {s : Shared} (w : Wd g W s) : W0 W s := ⟨w.tW, w.tab, w.live⟩
theorem W0.ne_T {W : List Addr} {s : Shared} (w : W0 W s) {a : Addr} (h : s.heap.get? a = none) : a ≠ tT := fun e => by
  obtain ⟨ps, e1, _⟩ := w.tab
  rw [e, e1] at h; cases h

theorem hide_mono {h h' : Heap} {W : List Addr} (k : ∀ b o, b ∉ W → h.get? b = some o → h'.get? b = some o) : ∀ b o, (hideAll h W).get? b = some o → (hideAll h' W).get? b = some o := fun b o e => by
  have hb : b ∉ W := fun hb => by rw [hideAll_none W hb] at e; cases e
  exact hideAll_get W (k b o hb (of_hideAll W e)) hb

theorem hide_grow {h h' : Heap} {N W : List Addr} (k : ∀ b o, b ∉ W → h.get? b = some o → h'.get? b = some o) (hN : ∀ a ∈ N, h.get? a = none) : ∀ b o, (hideAll h W).get? b = some o → (hideAll h' (N ++ W)).get? b = some o := fun b o e => by
  have hb : b ∉ W := fun hb => by rw [hideAll_none W hb] at e; cases e
  have e1 := of_hideAll W e
  exact hideAll_get _ (k b o hb e1) fun h => (List.mem_append.mp h).elim (fun h => by rw [hN b h] at e1; cases e1) hb

theorem hide_less {h : Heap} {W W' : List Addr} (hs : ∀ a ∈ W', a ∈ W) : ∀ b o, (hideAll h W).get? b = some o → (hideAll h W').get? b = some o := fun b o e => by
  have hb : b ∉ W := fun hb => by rw [hideAll_none W hb] at e; cases e
  exact hideAll_get W' (of_hideAll W e) fun h => hb (hs b h)

theorem Wd.kept {g : Gd} {W : List Addr} {s s' : Shared} (x : Wd g W s) (k : Kept W s s') : Wd g W s' where
  tW := x.tW
  tab := k.tab x.tab
  live := fun a ha => by
    by_cases hT : a = tT
    · subst hT; obtain ⟨ps, e, _⟩ := k.tab x.tab; exact ⟨_, e⟩
    · obtain ⟨o, e⟩ := x.live a ha
      obtain ⟨sl, e', _⟩ := k.slots a o ha hT e
      exact ⟨_, e'⟩
  known := x.known.keeps (hide_mono k.keep)
  mode := x.mode

/-- the class of the entries -/
abbrev entC : Addr := 154
/-- codes: an entry of the table; a function with a table of its own -/
def entD (ds : List PyData) : PyData := .dict [(.none, .list ds)]
def tabD (l : List Nat) : PyData := .dict [(.bool true, .list (l.map fun n : Nat => .int (n : Int)))]
def octB (l : List Nat) : Array UInt8 := (l.map UInt8.ofNat).toArray

mutual
/-- v reads as d: data, and the codes -/
inductive Rx (h : Heap) : Value → PyData → List Addr → Prop
  | none : Rx h .none .none []
  | bool (b) : Rx h (.bool b) (.bool b) []
  | int (i t) : Rx h (.int i t) (.int i) []
  | str (x t) : Rx h (.str x t) (.str x) []
  | list {a o vs n xs as} : h.get? a = some o → o.cls = .type "list" → o.data = .seq vs n → RxAll h vs.toList xs as → Rx h (.ref a) (.list xs) (a :: as)
  | tuple {a o vs n xs as} : h.get? a = some o → o.cls = .type "tuple" → o.data = .seq vs n → RxAll h vs.toList xs as → Rx h (.ref a) (.tuple xs) as
  | entry {a o vs n xs as} : h.get? a = some o → o.cls = .ref entC → o.data = .seq vs n → RxAll h vs.toList xs as → Rx h (.ref a) (.dict [(.none, .list xs)]) as
  | code {a o fd dA m t} {l : List Nat} : h.get? a = some o → o.cls = .type "function" → o.data = .func fd → o.dict = some dA → h.Ns dA m → m "co_exceptiontable" = some (.bytes (octB l) t) → Rx h (.ref a) (tabD l) []
inductive RxAll (h : Heap) : List Value → List PyData → List Addr → Prop
  | nil : RxAll h [] [] []
  | cons {v vs d ds as bs} : Rx h v d as → RxAll h vs ds bs → RxAll h (v :: vs) (d :: ds) (as ++ bs)
end
mutual
theorem Rx.keeps {h h' : Heap} (k : ∀ b o, h.get? b = some o → h'.get? b = some o) : ∀ {v : Value} {d : PyData} {as : List Addr}, Rx h v d as → Rx h' v d as
  | _, _, _, .none => .none
  | _, _, _, .bool b => .bool b
  | _, _, _, .int i t => .int i t
  | _, _, _, .str x t => .str x t
  | _, _, _, .list e hc hd r => .list (k _ _ e) hc hd (RxAll.keeps k r)
  | _, _, _, .tuple e hc hd r => .tuple (k _ _ e) hc hd (RxAll.keeps k r)
  | _, _, _, .entry e hc hd r => .entry (k _ _ e) hc hd (RxAll.keeps k r)
  | _, _, _, .code e hc hd he ⟨o, es, ep, e1, r⟩ hm => .code (k _ _ e) hc hd he ⟨o, es, ep, k _ _ e1, r⟩ hm
theorem RxAll.keeps {h h' : Heap} (k : ∀ b o, h.get? b = some o → h'.get? b = some o) : ∀ {vs : List Value} {ds : List PyData} {as : List Addr}, RxAll h vs ds as → RxAll h' vs ds as
  | _, _, _, .nil => .nil
  | _, _, _, .cons r q => .cons (Rx.keeps k r) (RxAll.keeps k q)
end
mutual
theorem Rx.reads {h : Heap} : ∀ {v : Value} {d : PyData} {as : List Addr}, Rx h v d as → d.canLay0 = true → ∃ bs, Reads h v d bs
  | _, _, _, .none, _ => ⟨_, .none⟩
  | _, _, _, .bool b, _ => ⟨_, .bool b⟩
  | _, _, _, .int i t, _ => ⟨_, .int i t⟩
  | _, _, _, .str x t, _ => ⟨_, .str x t⟩
  | _, _, _, .list e hc hd r, c => let ⟨_, q⟩ := RxAll.reads r (by simpa [PyData.canLay0] using c); ⟨_, .list e hc hd q⟩
  | _, _, _, .tuple e hc hd r, c => let ⟨_, q⟩ := RxAll.reads r (by simpa [PyData.canLay0] using c); ⟨_, .tuple e hc hd q⟩
  | _, _, _, .entry .., c => by simp [PyData.canLay0] at c
  | _, _, _, .code .., c => by simp [tabD, PyData.canLay0] at c
theorem RxAll.reads {h : Heap} : ∀ {vs : List Value} {ds : List PyData} {as : List Addr}, RxAll h vs ds as → PyData.canLayAll0 ds = true → ∃ bs, ReadsAll h vs ds bs
  | _, _, _, .nil, _ => ⟨_, .nil⟩
  | _, _, _, .cons r q, c => by
    have c' := Bool.and_eq_true_iff.mp (by simpa [PyData.canLayAll0] using c : (PyData.canLay0 _ && PyData.canLayAll0 _) = true)
    obtain ⟨_, x⟩ := Rx.reads r c'.1
    obtain ⟨_, y⟩ := RxAll.reads q c'.2
    exact ⟨_, .cons x y⟩
end

/-- v reads as the datum d, and no hidden object lies in it -/
def Rd (W : List Addr) (s : Shared) (v : Value) (d : PyData) : Prop := ∃ as, Rx (hideAll s.heap W) v d as

theorem Rd.kept {W : List Addr} {s s' : Shared} {v : Value} {d : PyData} (x : Rd W s v d) (k : Kept W s s') : Rd W s' v d := let ⟨as, r⟩ := x; ⟨as, Rx.keeps (hide_mono k.keep) r⟩
theorem Rd.reads {W : List Addr} {s : Shared} {v : Value} {d : PyData} (x : Rd W s v d) (hc : d.canLay0 = true) : ∃ as, Reads s.heap v d as := let ⟨as, r⟩ := x; (Rx.keeps (fun _ _ e => of_hideAll W e) r).reads hc
theorem Rd.less {W W' : List Addr} {s : Shared} {v : Value} {d : PyData} (x : Rd W s v d) (hs : ∀ a ∈ W', a ∈ W) : Rd W' s v d := let ⟨as, r⟩ := x; ⟨as, Rx.keeps (hide_less hs) r⟩
theorem Rd.grow {N W : List Addr} {s s' : Shared} {v : Value} {d : PyData} (x : Rd W s v d) (k : ∀ b o, b ∉ W → s.heap.get? b = some o → s'.heap.get? b = some o) (hN : ∀ a ∈ N, s.heap.get? a = none) : Rd (N ++ W) s' v d :=
  let ⟨as, r⟩ := x; ⟨as, Rx.keeps (hide_grow k hN) r⟩
theorem Rd.int {W : List Addr} {s : Shared} {i : Int} {t : Tok} : Rd W s (.int i t) (.int i) := ⟨_, .int i t⟩
theorem Rd.str {W : List Addr} {s : Shared} {x : Str} {t : Tok} : Rd W s (.str x t) (.str x) := ⟨_, .str x t⟩
theorem Rd.bool {W : List Addr} {s : Shared} {b : Bool} : Rd W s (.bool b) (.bool b) := ⟨_, .bool b⟩

/-- many values, many data -/
def RdAll (W : List Addr) (s : Shared) (vs : List Value) (ds : List PyData) : Prop := ∃ as, RxAll (hideAll s.heap W) vs ds as
theorem RdAll.kept {W : List Addr} {s s' : Shared} {vs : List Value} {ds : List PyData} (x : RdAll W s vs ds) (k : Kept W s s') : RdAll W s' vs ds := let ⟨as, r⟩ := x; ⟨as, RxAll.keeps (hide_mono k.keep) r⟩
theorem RdAll.grow {N W : List Addr} {s s' : Shared} {vs : List Value} {ds : List PyData} (x : RdAll W s vs ds) (k : ∀ b o, b ∉ W → s.heap.get? b = some o → s'.heap.get? b = some o) (hN : ∀ a ∈ N, s.heap.get? a = none) : RdAll (N ++ W) s' vs ds :=
  let ⟨as, r⟩ := x; ⟨as, RxAll.keeps (hide_grow k hN) r⟩
theorem RdAll.less {W W' : List Addr} {s : Shared} {vs : List Value} {ds : List PyData} (x : RdAll W s vs ds) (hs : ∀ a ∈ W', a ∈ W) : RdAll W' s vs ds := let ⟨as, r⟩ := x; ⟨as, RxAll.keeps (hide_less hs) r⟩
theorem RdAll.nil {W : List Addr} {s : Shared} : RdAll W s [] [] := ⟨_, .nil⟩
theorem RdAll.cons {W : List Addr} {s : Shared} {v : Value} {d : PyData} {vs : List Value} {ds : List PyData} (x : Rd W s v d) (y : RdAll W s vs ds) : RdAll W s (v :: vs) (d :: ds) :=
  let ⟨_, r⟩ := x; let ⟨_, q⟩ := y; ⟨_, .cons r q⟩
theorem RdAll.uncons {W : List Addr} {s : Shared} {v : Value} {d : PyData} {vs : List Value} {ds : List PyData} (x : RdAll W s (v :: vs) (d :: ds)) : Rd W s v d ∧ RdAll W s vs ds := by
  obtain ⟨as, r⟩ := x
  cases r with | cons a b => exact ⟨⟨_, a⟩, ⟨_, b⟩⟩
theorem RdAll.length {W : List Addr} {s : Shared} : ∀ {vs : List Value} {ds : List PyData}, RdAll W s vs ds → vs.length = ds.length
  | [], [], _ => rfl
  | [], _ :: _, ⟨_, r⟩ => by cases r
  | _ :: _, [], ⟨_, r⟩ => by cases r
  | _ :: _, _ :: _, x => by simp [RdAll.length x.uncons.2]
theorem RdAll.get {W : List Addr} {s : Shared} : ∀ {vs : List Value} {ds : List PyData}, RdAll W s vs ds → ∀ (i : Nat) (v : Value), vs[i]? = some v → ∃ d, ds[i]? = some d ∧ Rd W s v d
  | [], _, _, i, v, h => by simp at h
  | _ :: _, [], ⟨_, r⟩, _, _, _ => by cases r
  | _ :: vs, d :: ds, x, 0, v, h => by simp at h; subst h; exact ⟨d, by simp, x.uncons.1⟩
  | _ :: vs, d :: ds, x, i + 1, v, h => by
    simp only [List.getElem?_cons_succ] at h ⊢
    exact RdAll.get x.uncons.2 i v h
theorem RdAll.get' {W : List Addr} {s : Shared} {vs : List Value} {ds : List PyData} (x : RdAll W s vs ds) (i : Nat) (d : PyData) (h : ds[i]? = some d) : ∃ v, vs[i]? = some v ∧ Rd W s v d := by
  have hlt : i < vs.length := by rw [x.length]; exact (List.getElem?_eq_some_iff.mp h).1
  obtain ⟨d', h1, h2⟩ := x.get i vs[i] (by simp [hlt])
  rw [h] at h1; cases h1
  exact ⟨_, by simp [hlt], h2⟩
theorem RdAll.append {W : List Addr} {s : Shared} : ∀ {vs : List Value} {ds : List PyData} {us : List Value} {es : List PyData}, RdAll W s vs ds → RdAll W s us es → RdAll W s (vs ++ us) (ds ++ es)
  | [], [], _, _, _, y => y
  | [], _ :: _, _, _, ⟨_, r⟩, _ => by cases r
  | _ :: _, [], _, _, ⟨_, r⟩, _ => by cases r
  | _ :: _, _ :: _, _, _, x, y => RdAll.cons x.uncons.1 (RdAll.append x.uncons.2 y)
theorem RdAll.snoc {W : List Addr} {s : Shared} {v : Value} {d : PyData} {vs : List Value} {ds : List PyData} (x : RdAll W s vs ds) (y : Rd W s v d) : RdAll W s (vs ++ [v]) (ds ++ [d]) := x.append (RdAll.cons y .nil)
theorem RdAll.take {W : List Addr} {s : Shared} : ∀ {vs : List Value} {ds : List PyData} (k : Nat), RdAll W s vs ds → RdAll W s (vs.take k) (ds.take k)
  | _, _, 0, _ => by simpa using RdAll.nil
  | [], [], k + 1, _ => by simpa using RdAll.nil
  | [], _ :: _, _, ⟨_, r⟩ => by cases r
  | _ :: _, [], _, ⟨_, r⟩ => by cases r
  | _ :: _, _ :: _, k + 1, x => by simpa using RdAll.cons x.uncons.1 (RdAll.take k x.uncons.2)
theorem RdAll.drop {W : List Addr} {s : Shared} : ∀ {vs : List Value} {ds : List PyData} (k : Nat), RdAll W s vs ds → RdAll W s (vs.drop k) (ds.drop k)
  | _, _, 0, x => by simpa using x
  | [], [], k + 1, _ => by simpa using RdAll.nil
  | [], _ :: _, _, ⟨_, r⟩ => by cases r
  | _ :: _, [], _, ⟨_, r⟩ => by cases r
  | _ :: _, _ :: _, k + 1, x => by simpa using RdAll.drop k x.uncons.2

/-- a list that stands -/
theorem Rd.list_inv {W : List Addr} {s : Shared} {v : Value} {ds : List PyData} (x : Rd W s v (.list ds)) : ∃ a vs, v = .ref a ∧ a ∉ W ∧ s.heap.IsList a (List.toArray vs) ∧ RdAll W s vs ds := by
  obtain ⟨as, r⟩ := x
  cases r with
  | list e hc hd r =>
    rename_i a o vs n as'
    refine ⟨a, vs.toList, rfl, fun h => ?_, ⟨o, of_hideAll W e, hc, n, by simpa using hd⟩, ⟨_, r⟩⟩
    rw [hideAll_none W h] at e; cases e
theorem Rd.list_mk {W : List Addr} {s : Shared} {a : Addr} {vs : List Value} {ds : List PyData} (h : s.heap.IsList a (List.toArray vs)) (ha : a ∉ W) (x : RdAll W s vs ds) : Rd W s (.ref a) (.list ds) := by
  obtain ⟨o, e, hc, n, hd⟩ := h
  obtain ⟨as, r⟩ := x
  exact ⟨_, .list (hideAll_get W e ha) hc hd (by simpa using r)⟩
theorem Rd.tuple_inv {W : List Addr} {s : Shared} {v : Value} {ds : List PyData} (x : Rd W s v (.tuple ds)) : ∃ a vs, v = .ref a ∧ a ∉ W ∧ s.heap.IsTuple a (List.toArray vs) ∧ RdAll W s vs ds := by
  obtain ⟨as, r⟩ := x
  cases r with
  | tuple e hc hd r =>
    rename_i a o vs n
    refine ⟨a, vs.toList, rfl, fun h => ?_, ⟨o, of_hideAll W e, hc, n, by simpa using hd⟩, ⟨_, r⟩⟩
    rw [hideAll_none W h] at e; cases e
theorem Rd.tuple_mk {W : List Addr} {s : Shared} {a : Addr} {vs : List Value} {ds : List PyData} (h : s.heap.IsTuple a (List.toArray vs)) (ha : a ∉ W) (x : RdAll W s vs ds) : Rd W s (.ref a) (.tuple ds) := by
  obtain ⟨o, e, hc, n, hd⟩ := h
  obtain ⟨as, r⟩ := x
  exact ⟨_, .tuple (hideAll_get W e ha) hc hd (by simpa using r)⟩
theorem Rd.int_inv {W : List Addr} {s : Shared} {v : Value} {i : Int} (x : Rd W s v (.int i)) : ∃ t, v = .int i t := by obtain ⟨_, r⟩ := x; cases r; exact ⟨_, rfl⟩
theorem Rd.str_inv {W : List Addr} {s : Shared} {v : Value} {i : Str} (x : Rd W s v (.str i)) : ∃ t, v = .str i t := by obtain ⟨_, r⟩ := x; cases r; exact ⟨_, rfl⟩
theorem Rd.bool_inv {W : List Addr} {s : Shared} {v : Value} {b : Bool} (x : Rd W s v (.bool b)) : v = .bool b := by obtain ⟨_, r⟩ := x; cases r; rfl

/-- the frames on the stack -/
def Fs (A : Around) (W : List Addr) (s : Shared) : Prop := ∃ envs, A.frames = some envs ∧ ∀ env ∈ envs, env.scope.kind ≠ .module ∧ ∃ L o es ep, env.frame = some L ∧ L ∈ W ∧ L ≠ tT ∧ s.heap.get? L = some o ∧ o.data = .dict es ep

theorem Fs.kept {A : Around} {W : List Addr} {s s' : Shared} (x : Fs A W s) (k : Kept W s s') : Fs A W s' := by
  obtain ⟨envs, e, h⟩ := x
  refine ⟨envs, e, fun env he => ?_⟩
  obtain ⟨h1, L, o, es, ep, h2, h3, hT, h4, h5⟩ := h env he
  obtain ⟨sl, e4, _⟩ := k.slots L o h3 hT h4
  exact ⟨h1, L, _, es, ep, h2, h3, hT, e4, h5⟩
theorem Fs.fun {A : Around} {W : List Addr} {s : Shared} (x : Fs A W s) : ∃ envs, A.frames = some envs ∧ s.heap.FunFrames (hideAll s.heap W) envs := by
  obtain ⟨envs, e, h⟩ := x
  refine ⟨envs, e, ?_⟩
  clear e
  induction envs with
  | nil => trivial
  | cons env r ih =>
    obtain ⟨h1, L, o, es, ep, h2, h3, hT, h4, h5⟩ := h env (.head _)
    exact ⟨h1, ⟨L, o, h2, hideAll_none W h3, h4, fun vs q => by rw [h5] at q; cases q⟩, ih fun env he => h env (.tail _ he)⟩

/-- room -/
structure Rm (A : Around) (k : Nat) : Prop where
  handled : A.handled = none
  depth : A.depth + k < recursionLimit
  units : A.units + 10 * k + 200 < cLine
theorem Rm.less {A : Around} {k j : Nat} (x : Rm A k) (h : j ≤ k) : Rm A j := ⟨x.handled, by have := x.depth; lia, by have := x.units; lia⟩
theorem Rm.deeper {A : Around} {k : Nat} (x : Rm A (k + 1)) (env : Env) : Rm (A.deeper env) k := ⟨x.handled, by have := x.depth; show A.depth + 1 + k < _; lia, by have := x.units; show A.units + 3 + 10 * k + 200 < _; lia⟩

end Mine

/- Ex1 -/
namespace Mine
open PySem PySem.W PySem.Calls PySem.Spec PyProof.Rows
set_option Elab.async false
set_option linter.unusedVariables false

theorem Ns.slots {h h' : Heap} {a : Addr} {o : Obj} {m : Str → Option Value} (x : h.Ns a m) (e : h.get? a = some o) {sl : Array (Option Value)} (e' : h'.get? a = some { o with slots := sl }) : h'.Ns a m := by
  obtain ⟨o', es, ep, e1, r⟩ := x
  rw [e] at e1; cases e1
  exact ⟨_, es, ep, e', r⟩
theorem Ns.kept {W : List Addr} {s s' : Shared} {a : Addr} {m : Str → Option Value} (x : s.heap.Ns a m) (k : Kept W s s') (ha : a ≠ tT) : s'.heap.Ns a m := by
  obtain ⟨o, es, ep, e, r⟩ := x
  by_cases hw : a ∈ W
  · obtain ⟨sl, e', _⟩ := k.slots a o hw ha e
    exact ⟨_, es, ep, e', r⟩
  · exact ⟨o, es, ep, k.keep a o hw e, r⟩
theorem Cell.kept {W : List Addr} {s s' : Shared} {a : Addr} {m : Option Value} (x : s.heap.IsCell a m) (k : Kept W s s') (ha : a ≠ tT) : s'.heap.IsCell a m := by
  obtain ⟨o, e, r⟩ := x
  by_cases hw : a ∈ W
  · obtain ⟨sl, e', _⟩ := k.slots a o hw ha e
    exact ⟨_, e', r⟩
  · exact ⟨o, k.keep a o hw e, r⟩
/-- an object that is no namespace stays as it stands -/
theorem Kept.exact {W : List Addr} {s s' : Shared} {a : Addr} {o : Obj} (k : Kept W s s') (ha : a ≠ tT) (e : s.heap.get? a = some o) (hd : ∀ es ep, o.data ≠ .dict es ep) : s'.heap.get? a = some o := by
  by_cases hw : a ∈ W
  · obtain ⟨sl, e', q⟩ := k.slots a o hw ha e
    rw [e', q (.inl hd)]
  · exact k.keep a o hw e
theorem List.kept {W : List Addr} {s s' : Shared} {a : Addr} {its : Array Value} (x : s.heap.IsList a its) (k : Kept W s s') (ha : a ≠ tT) : s'.heap.IsList a its := by
  obtain ⟨o, e, hc, n, hd⟩ := x
  exact ⟨o, k.exact ha e (fun es ep q => by rw [hd] at q; cases q), hc, n, hd⟩

/-- env's block finds v by the name x -/
inductive Has (env : Env) (h : Heap) (x : Str) (v : Value) : Prop
  | loc (m : Str → Option Value) (hk : env.kindOf x = some .local) (hT : env.locals ≠ tT) (hn : h.Ns env.locals m) (hv : m x = some v) : Has env h x v
  | cell (c : Addr) (hk : env.kindOf x = some .cell) (hc : env.cells.lookup x = some c) (hT : c ≠ tT) (hv : h.IsCell c (some v)) : Has env h x v
  | free (c : Addr) (hk : env.kindOf x = some .free) (hn : (x == ("__classdict__" : Str)) = false) (hc : env.cells.lookup x = some c) (hT : c ≠ tT) (hv : h.IsCell c (some v)) : Has env h x v

theorem Has.kept {W : List Addr} {s s' : Shared} {env : Env} {x : Str} {v : Value} (y : Has env s.heap x v) (k : Kept W s s') : Has env s'.heap x v := by
  cases y with
  | loc m hk hT hn hv => exact .loc m hk hT (Ns.kept hn k hT) hv
  | cell c hk hc hT hv => exact .cell c hk hc hT (Cell.kept hv k hT)
  | free c hk hn hc hT hv => exact .free c hk hn hc hT (Cell.kept hv k hT)

theorem Has.name {M : Model} {A : Around} {E : Value → Shared → Prop} {s : Shared} {env : Env} {x : Str} {v : Value} {pos : Pos} {Q : Value → Shared → Prop} (hf : env.scope.kind = .function) (y : Has env s.heap x v) (hd : (x == ("__debug__" : Str)) = false) (h : Q v s) :
    wpAny M A (eval (.Name x pos) env) Q E s := by
  cases y with
  | loc m hk hT hn hv => exact wpAny_Name (wpAny_loadName_local hf hk hn hv h) hd
  | cell c hk hc hT hv => exact wpAny_Name (wpAny_loadName_cell hf hk hc hv h) hd
  | free c hk hn hc hT hv => exact wpAny_Name (wpAny_loadName_free hf hk hc hv h hn) hd
theorem Has.load {M : Model} {A : Around} {E : Value → Shared → Prop} {s : Shared} {env : Env} {x : Str} {v : Value} {Q : Value → Shared → Prop} (hf : env.scope.kind = .function) (y : Has env s.heap x v) (h : Q v s) :
    wpAny M A (loadName env x) Q E s := by
  cases y with
  | loc m hk hT hn hv => exact wpAny_loadName_local hf hk hn hv h
  | cell c hk hc hT hv => exact wpAny_loadName_cell hf hk hc hv h
  | free c hk hn hc hT hv => exact wpAny_loadName_free hf hk hc hv h hn

/-- the names of env and the data that they hold -/
def Vs (env : Env) (ρ : List (Str × PyData)) (W : List Addr) (s : Shared) : Prop := ∀ p ∈ ρ, ∃ v, Has env s.heap p.1 v ∧ Rd W s v p.2

theorem Vs.kept {env : Env} {ρ : List (Str × PyData)} {W : List Addr} {s s' : Shared} (x : Vs env ρ W s) (k : Kept W s s') : Vs env ρ W s' := fun p hp => let ⟨v, a, b⟩ := x p hp; ⟨v, a.kept k, b.kept k⟩
theorem Vs.grow {env : Env} {ρ : List (Str × PyData)} {N W : List Addr} {s s' : Shared} (x : Vs env ρ W s) (k : Kept W s s') (hN : ∀ a ∈ N, s.heap.get? a = none) : Vs env ρ (N ++ W) s' := fun p hp => let ⟨v, a, b⟩ := x p hp; ⟨v, a.kept k, b.grow k.keep hN⟩
theorem Vs.nil {env : Env} {W : List Addr} {s : Shared} : Vs env [] W s := fun _ h => nomatch h
theorem Vs.cons {env : Env} {ρ : List (Str × PyData)} {W : List Addr} {s : Shared} {x : Str} {v : Value} {d : PyData} (h : Has env s.heap x v) (r : Rd W s v d) (y : Vs env ρ W s) : Vs env ((x, d) :: ρ) W s := fun p hp => by
  cases hp with
  | head => exact ⟨v, h, r⟩
  | tail _ hp => exact y p hp
theorem Vs.sub {env : Env} {ρ ρ' : List (Str × PyData)} {W : List Addr} {s : Shared} (x : Vs env ρ W s) (h : ∀ p ∈ ρ', p ∈ ρ) : Vs env ρ' W s := fun p hp => x p (h p hp)

/-- a world in which env's expressions are read -/
structure Wo (g : Gd) (A : Around) (env : Env) (ρ : List (Str × PyData)) (W : List Addr) (s : Shared) : Prop where
  wd : Wd g W s
  fs : Fs A W s
  vs : Vs env ρ W s
theorem Wo.kept {g : Gd} {A : Around} {env : Env} {ρ : List (Str × PyData)} {W : List Addr} {s s' : Shared} (x : Wo g A env ρ W s) (k : Kept W s s') : Wo g A env ρ W s' := ⟨x.wd.kept k, x.fs.kept k, x.vs.kept k⟩

/-- the tree yields, purely, a value that reads as d -/
def Ev (g : Gd) (A : Around) (W : List Addr) (s : Shared) (t : Sem Value) (d : PyData) : Prop :=
  ∀ (E : Value → Shared → Prop) (Q : Value → Shared → Prop), (∀ v s', Kept W s s' → Rd W s' v d → Q v s') → wpAny g.M A t Q E s

/-- env's expression e, over the names ρ, is d -/
structure Ex (g : Gd) (A : Around) (env : Env) (ρ : List (Str × PyData)) (e : Expr) (d : PyData) : Prop where
  run : ∀ W s, Wo g A env ρ W s → Ev g A W s (eval e env) d

/-- env's test e is b -/
structure Tt (g : Gd) (A : Around) (env : Env) (ρ : List (Str × PyData)) (e : Expr) (b : Bool) : Prop where
  run : ∀ W s, Wo g A env ρ W s → ∀ (E : Value → Shared → Prop) (Q : Bool → Shared → Prop), (∀ s', Kept W s s' → Q b s') → wpAny g.M A (isTrue e env (eval e env)) Q E s

/-- each of them -/
inductive Exs (g : Gd) (A : Around) (env : Env) (ρ : List (Str × PyData)) : List Expr → List PyData → Prop
  | nil : Exs g A env ρ [] []
  | cons {e : Expr} {es : List Expr} {d : PyData} {ds : List PyData} : Ex g A env ρ e d → Exs g A env ρ es ds → Exs g A env ρ (e :: es) (d :: ds)

section
variable {g : Gd} {A : Around} {env : Env} {ρ : List (Str × PyData)} {pos : Pos}

theorem ex_int {i : Int} {k : Nat} : Ex g A env ρ (.Constant (.int i) k pos) (.int i) := .mk fun _ _ _ _ _ h => wpAny_Constant_int (h _ _ .toks .int)
theorem ex_str {x : Str} {k : Nat} : Ex g A env ρ (.Constant (.str x) k pos) (.str x) := .mk fun _ _ _ _ _ h => Constant_str (h _ _ .toks .str)
theorem ex_bool {b : Bool} {k : Nat} : Ex g A env ρ (.Constant (.bool b) k pos) (.bool b) := .mk fun _ s _ E Q h => fun Γ p hΓ => (show Q (.bool b) s from h _ _ (.refl ..) .bool)

theorem ex_var {x : Str} {d : PyData} (hf : env.scope.kind = .function) (hm : (x, d) ∈ ρ) (hd : (x == ("__debug__" : Str)) = false := by decide) : Ex g A env ρ (.Name x pos) d := .mk fun _ _ w _ _ h => by
  obtain ⟨v, y, r⟩ := w.vs _ hm
  exact Has.name hf y hd (h v _ (.refl ..) r)

/-- one after the other -/
theorem ev2 {l r : Expr} {a b d : PyData} {f : Value → Value → Sem Value} {W : List Addr} {s : Shared} (w : Wo g A env ρ W s) (hl : Ex g A env ρ l a) (hr : Ex g A env ρ r b)
    (hf : ∀ v u s', Kept W s s' → Wo g A env ρ W s' → Rd W s' v a → Rd W s' u b → Ev g A W s' (f v u) d) {E : Value → Shared → Prop} {Q : Value → Shared → Prop} (h : ∀ v s', Kept W s s' → Rd W s' v d → Q v s') :
    wpAny g.M A (eval l env) (fun v s₁ => wpAny g.M A (eval r env) (fun u s₂ => wpAny g.M A (f v u) Q E s₂) E s₁) E s :=
  hl.run W s w E _ fun v s₁ k₁ r₁ => hr.run W s₁ (w.kept k₁) E _ fun u s₂ k₂ r₂ => hf v u s₂ (k₁.trans k₂) ((w.kept k₁).kept k₂) (r₁.kept k₂) r₂ E Q fun v' s' k' r' => h v' s' ((k₁.trans k₂).trans k') r'

theorem ex_binop {l r : Expr} {op : Operator} {a b d : PyData} (hl : Ex g A env ρ l a) (hr : Ex g A env ρ r b)
    (hf : ∀ W s v u, Wo g A env ρ W s → Rd W s v a → Rd W s u b → Ev g A W s (binaryOp op v u) d) : Ex g A env ρ (.BinOp l op r pos) d := .mk fun W s w E Q h =>
  wpAny_BinOp (ev2 w hl hr (fun v u s' _ w' r1 r2 => hf W s' v u w' r1 r2) h)

theorem ex_add {l r : Expr} {a b : Int} (hl : Ex g A env ρ l (.int a)) (hr : Ex g A env ρ r (.int b)) : Ex g A env ρ (.BinOp l .Add r pos) (.int (a + b)) :=
  ex_binop hl hr fun W s v u _ r1 r2 E Q h => by
    obtain ⟨t, rfl⟩ := r1.int_inv; obtain ⟨t', rfl⟩ := r2.int_inv
    exact add_int (h _ _ .toks .int)
theorem ex_sub {l r : Expr} {a b : Int} (hl : Ex g A env ρ l (.int a)) (hr : Ex g A env ρ r (.int b)) : Ex g A env ρ (.BinOp l .Sub r pos) (.int (a - b)) :=
  ex_binop hl hr fun W s v u _ r1 r2 E Q h => by
    obtain ⟨t, rfl⟩ := r1.int_inv; obtain ⟨t', rfl⟩ := r2.int_inv
    exact PyProof.Rows.sub_int (h _ _ .toks .int)
theorem ex_mul {l r : Expr} {a b : Int} (hl : Ex g A env ρ l (.int a)) (hr : Ex g A env ρ r (.int b)) (hm : IntMulOk a b) : Ex g A env ρ (.BinOp l .Mult r pos) (.int (a * b)) :=
  ex_binop hl hr fun W s v u _ r1 r2 E Q h => by
    obtain ⟨t, rfl⟩ := r1.int_inv; obtain ⟨t', rfl⟩ := r2.int_inv
    exact P.mul_int (h _ _ .toks .int) hm
theorem ex_mod {l r : Expr} {a b : Int} (hl : Ex g A env ρ l (.int a)) (hr : Ex g A env ρ r (.int b)) (hb : b ≠ 0) : Ex g A env ρ (.BinOp l .Mod r pos) (.int (a.fmod b)) :=
  ex_binop hl hr fun W s v u _ r1 r2 E Q h => by
    obtain ⟨t, rfl⟩ := r1.int_inv; obtain ⟨t', rfl⟩ := r2.int_inv
    exact mod_int' hb (h _ _ .toks .int)
theorem ex_floordiv {l r : Expr} {a b : Int} (hl : Ex g A env ρ l (.int a)) (hr : Ex g A env ρ r (.int b)) (hb : b ≠ 0) (hp : Builtin.divisionGoesByPylong a b = false) : Ex g A env ρ (.BinOp l .FloorDiv r pos) (.int (a.fdiv b)) :=
  ex_binop hl hr fun W s v u _ r1 r2 E Q h => by
    obtain ⟨t, rfl⟩ := r1.int_inv; obtain ⟨t', rfl⟩ := r2.int_inv
    exact floordiv_int hb (h _ _ .toks .int) (.inl hp)
theorem ex_and {l r : Expr} {a b : Int} (hl : Ex g A env ρ l (.int a)) (hr : Ex g A env ρ r (.int b)) : Ex g A env ρ (.BinOp l .BitAnd r pos) (.int (Builtin.bitAnd a b)) :=
  ex_binop hl hr fun W s v u _ r1 r2 E Q h => by
    obtain ⟨t, rfl⟩ := r1.int_inv; obtain ⟨t', rfl⟩ := r2.int_inv
    exact and_int (h _ _ .toks .int)
theorem ex_add_bool {l r : Expr} {a : Int} {b : Bool} (hl : Ex g A env ρ l (.int a)) (hr : Ex g A env ρ r (.bool b)) : Ex g A env ρ (.BinOp l .Add r pos) (.int (a + if b = true then 1 else 0)) :=
  ex_binop hl hr fun W s v u _ r1 r2 E Q h => by
    obtain ⟨t, rfl⟩ := r1.int_inv; obtain rfl := r2.bool_inv
    exact add_int_bool (h _ _ .toks .int)
theorem ex_add_str {l r : Expr} {a b : Str} (hl : Ex g A env ρ l (.str a)) (hr : Ex g A env ρ r (.str b)) (hz : a.length + b.length ≤ sizeLine) : Ex g A env ρ (.BinOp l .Add r pos) (.str (a ++ b)) :=
  ex_binop hl hr fun W s v u _ r1 r2 E Q h => by
    obtain ⟨t, rfl⟩ := r1.str_inv; obtain ⟨t', rfl⟩ := r2.str_inv
    exact PyProof.Rows.add_str (fun t' k => h _ _ .toks .str) hz
theorem fresh_notin {g : Gd} {W : List Addr} {s : Shared} (w : Wd g W s) {a : Addr} (ha : s.heap.objs.size ≤ a) : a ∉ W := fun h => by
  obtain ⟨o, e⟩ := w.live a h
  exact absurd (Heap.lt_size e) (Nat.not_lt.mpr ha)
theorem rd_pushed {g : Gd} {W : List Addr} {s : Shared} (w : Wd g W s) {vs : List Value} {ds : List PyData} {k : Nat} {o : Obj} (hc : o.cls = .type "list") (hd : ∃ n, o.data = .seq vs.toArray n) (r : RdAll W s vs ds) :
    Rd W { s with heap := s.heap.push o, toks := k } (.ref s.heap.objs.size) (.list ds) := by
  obtain ⟨n, hd⟩ := hd
  refine Rd.list_mk (vs := vs) ⟨o, Heap.get?_push_size _ (Obj.isFreed_of_seq hd), hc, n, hd⟩ (fresh_notin w (Nat.le_refl _)) (r.kept .push)
theorem rd_pushedT {g : Gd} {W : List Addr} {s : Shared} (w : Wd g W s) {vs : List Value} {ds : List PyData} {k : Nat} {o : Obj} (hc : o.cls = .type "tuple") (hd : ∃ n, o.data = .seq vs.toArray n) (r : RdAll W s vs ds) :
    Rd W { s with heap := s.heap.push o, toks := k } (.ref s.heap.objs.size) (.tuple ds) := by
  obtain ⟨n, hd⟩ := hd
  refine Rd.tuple_mk (vs := vs) ⟨o, Heap.get?_push_size _ (Obj.isFreed_of_seq hd), hc, n, hd⟩ (fresh_notin w (Nat.le_refl _)) (r.kept .push)

theorem ex_add_list {l r : Expr} {a b : List PyData} (hl : Ex g A env ρ l (.list a)) (hr : Ex g A env ρ r (.list b)) (hz : a.length + b.length ≤ sizeLine) : Ex g A env ρ (.BinOp l .Add r pos) (.list (a ++ b)) :=
  ex_binop hl hr fun W s v u w r1 r2 E Q h => by
    obtain ⟨x, vs, rfl, _, hx, q1⟩ := r1.list_inv
    obtain ⟨y, us, rfl, _, hy, q2⟩ := r2.list_inv
    obtain ⟨⟨cls, dd, data, sl⟩, ho, hc, n, hd⟩ := hx
    obtain ⟨⟨cls2, dd2, data2, sl2⟩, ho2, hc2, n2, hd2⟩ := hy
    simp only at hc hd hc2 hd2
    subst hc hd hc2 hd2
    refine concat_meets ⟨_, ho, rfl⟩ ⟨_, ho2, rfl⟩ noFill_list_add seq_list_add PySem.F.slot_list_add PySem.F.entry_list_add (PySem.F.args_list_add_2 _ _) (list_addW x y vs.toArray us.toArray n n2 dd dd2 sl sl2 (by simpa [q1.length, q2.length] using hz)) ⟨ho, ho2, h _ _ .push' ?_⟩
    exact rd_pushed w.wd (vs := vs ++ us) (k := s.toks) rfl ⟨_, by simp only [List.append_toArray] <;> rfl⟩ (q1.append q2)
end
end Mine

/- Ex2 -/
namespace Mine
open PySem PySem.W PySem.Calls PySem.Spec PyProof.Rows
set_option Elab.async false
set_option linter.unusedVariables false

section
variable {g : Gd} {A : Around} {env : Env} {ρ : List (Str × PyData)} {pos : Pos}

/-- a comparison of two data, in any of its spellings -/
def Cm (g : Gd) (A : Around) (op : CmpOp) (a b : PyData) (r : Bool) : Prop :=
  ∀ W s v u, Wd g W s → Rd W s v a → Rd W s u b → Ev g A W s (compareOp op v u) (.bool r)

theorem ex_cmp {l r : Expr} {op : CmpOp} {a b : PyData} {c : Bool} (hl : Ex g A env ρ l a) (hr : Ex g A env ρ r b) (hc : Cm g A op a b c) (hm : behindInMarks op r = false := by with_unfolding_all rfl) : Ex g A env ρ (.Compare l [op] [r] pos) (.bool c) := .mk fun W s w E Q h =>
  wpAny_Compare1 (ev2 w hl hr (fun v u s' _ w' r1 r2 => hc W s' v u w'.wd r1 r2) h) hm
theorem tt_cmp {l r : Expr} {op : CmpOp} {a b : PyData} {c : Bool} (hl : Ex g A env ρ l a) (hr : Ex g A env ρ r b) (hc : Cm g A op a b c) (hm : behindInMarks op r = false := by with_unfolding_all rfl) : Tt g A env ρ (.Compare l [op] [r] pos) c := .mk fun W s w E Q h =>
  wpAny_isTrue_Compare1 (hl.run W s w E _ fun v s₁ k₁ r₁ => hr.run W s₁ (w.kept k₁) E _ fun u s₂ k₂ r₂ => hc W s₂ v u ((w.kept k₁).kept k₂).wd (r₁.kept k₂) r₂ E _ fun v' s₃ k₃ r₃ => by
    obtain rfl := r₃.bool_inv
    exact wpAny_truthy_bool (h _ ((k₁.trans k₂).trans k₃))) hm

theorem cm_lt {a b : Int} : Cm g A .Lt (.int a) (.int b) (decide (a < b)) := fun W s v u _ r1 r2 E Q h => by
  obtain ⟨t, rfl⟩ := r1.int_inv; obtain ⟨t', rfl⟩ := r2.int_inv
  exact P.lt_int (h _ _ (.refl ..) .bool)
theorem cm_gt {a b : Int} : Cm g A .Gt (.int a) (.int b) (decide (a > b)) := fun W s v u _ r1 r2 E Q h => by
  obtain ⟨t, rfl⟩ := r1.int_inv; obtain ⟨t', rfl⟩ := r2.int_inv
  exact P.gt_int (h _ _ (.refl ..) .bool)
theorem cm_eq {a b : Int} : Cm g A .Eq (.int a) (.int b) (a == b) := fun W s v u _ r1 r2 E Q h => by
  obtain ⟨t, rfl⟩ := r1.int_inv; obtain ⟨t', rfl⟩ := r2.int_inv
  exact P.eq_int (h _ _ (.refl ..) .bool)
theorem cm_ne {a b : Int} : Cm g A .NotEq (.int a) (.int b) (a != b) := fun W s v u _ r1 r2 E Q h => by
  obtain ⟨t, rfl⟩ := r1.int_inv; obtain ⟨t', rfl⟩ := r2.int_inv
  exact P.ne_int (h _ _ (.refl ..) .bool)
theorem cm_eq_str {a b : Str} : Cm g A .Eq (.str a) (.str b) (a.cps.toList == b.cps.toList) := fun W s v u _ r1 r2 E Q h => by
  obtain ⟨t, rfl⟩ := r1.str_inv; obtain ⟨t', rfl⟩ := r2.str_inv
  exact P.eq_str (h _ _ (.refl ..) .bool)
theorem cm_eqv {a b : PyData} (ha : SeqAt.shaped a = true) (hb : SeqAt.shaped b = true) (hu : A.units + 64 < cLine) : Cm g A .Eq a b (PyData.eqv a b) := fun W s v u _ r1 r2 E Q h => by
  obtain ⟨_, q1⟩ := r1.reads (SeqAt.canLay_of_shaped ha); obtain ⟨_, q2⟩ := r2.reads (SeqAt.canLay_of_shaped hb)
  exact SeqAt.compareEq_shaped q1 q2 ha hb hu (h _ _ (.refl ..) .bool)
theorem cm_nev {a b : PyData} (ha : SeqAt.shaped a = true) (hb : SeqAt.shaped b = true) (hu : A.units + 64 < cLine) : Cm g A .NotEq a b (!PyData.eqv a b) := fun W s v u _ r1 r2 E Q h => by
  obtain ⟨_, q1⟩ := r1.reads (SeqAt.canLay_of_shaped ha); obtain ⟨_, q2⟩ := r2.reads (SeqAt.canLay_of_shaped hb)
  exact SeqAt.compareNe_shaped q1 q2 ha hb hu (h _ _ (.refl ..) .bool)
theorem ints_any {W : List Addr} {s : Shared} {a : Int} {e : Value → Bool} (he : ∀ i t, e (.int i t) = (i == a)) : ∀ {vs : List Value} {ns : List Int}, RdAll W s vs (ns.map .int) → vs.any e = ns.contains a ∧ ∀ v ∈ vs, ∃ i t, v = .int i t
  | [], [], _ => ⟨rfl, fun _ h => nomatch h⟩
  | [], _ :: _, ⟨_, r⟩ => by cases r
  | _ :: _, [], ⟨_, r⟩ => by cases r
  | v :: vs, n :: ns, x => by
    obtain ⟨t, rfl⟩ := x.uncons.1.int_inv
    obtain ⟨h1, h2⟩ := ints_any he x.uncons.2
    refine ⟨?_, fun v hv => ?_⟩
    · rw [List.any_cons, h1, he, List.contains_cons, Bool.beq_comm]
    · cases hv with
      | head => exact ⟨_, _, rfl⟩
      | tail _ hv => exact h2 v hv
theorem cm_in {a : Int} {ns : List Int} : Cm g A .In (.int a) (.list (ns.map .int)) (ns.contains a) := fun W s v u _ r1 r2 E Q h => by
  obtain ⟨t, rfl⟩ := r1.int_inv
  obtain ⟨l, vs, rfl, _, hl, q⟩ := r2.list_inv
  obtain ⟨e1, e2⟩ := ints_any (a := a) (e := fun v => match v with | .int i _ => i == a | _ => false) (fun i t => rfl) q
  refine SeqAt.in_listAt (fun v => match v with | .int i _ => i == a | _ => false) hl (fun y hy => ?_) ?_
  · obtain ⟨i, t', rfl⟩ := e2 y (by simpa using hy)
    exact SeqAt.EqAt.int_int i t' a t
  · have : (vs.toArray.any fun v => match v with | .int i _ => i == a | _ => false) = ns.contains a := by simpa using e1
    rw [this]
    exact h _ _ (.refl ..) .bool
theorem cm_notin {a : Int} {ns : List Int} : Cm g A .NotIn (.int a) (.list (ns.map .int)) (!ns.contains a) := fun W s v u _ r1 r2 E Q h => by
  obtain ⟨t, rfl⟩ := r1.int_inv
  obtain ⟨l, vs, rfl, _, hl, q⟩ := r2.list_inv
  obtain ⟨e1, e2⟩ := ints_any (a := a) (e := fun v => match v with | .int i _ => i == a | _ => false) (fun i t => rfl) q
  refine SeqAt.notIn_listAt (fun v => match v with | .int i _ => i == a | _ => false) hl (fun y hy => ?_) ?_
  · obtain ⟨i, t', rfl⟩ := e2 y (by simpa using hy)
    exact SeqAt.EqAt.int_int i t' a t
  · have : (vs.toArray.any fun v => match v with | .int i _ => i == a | _ => false) = ns.contains a := by simpa using e1
    rw [this]
    exact h _ _ (.refl ..) .bool

theorem tt_and {x y : Expr} {a b : Bool} (hx : Tt g A env ρ x a) (hy : a = true → Tt g A env ρ y b) : Tt g A env ρ (.BoolOp .And [x, y] pos) (a && b) := .mk fun W s w E Q h =>
  isTrue_and (hx.run W s w E _ fun s₁ k₁ => by
    cases a with
    | false => exact h s₁ k₁
    | true => exact isTrue_and ((hy rfl).run W s₁ (w.kept k₁) E _ fun s₂ k₂ => by
        cases b with
        | false => exact h s₂ (k₁.trans k₂)
        | true => exact isTrue_and_nil (h s₂ (k₁.trans k₂))))
theorem tt_or {x y : Expr} {a b : Bool} (hx : Tt g A env ρ x a) (hy : a = false → Tt g A env ρ y b) : Tt g A env ρ (.BoolOp .Or [x, y] pos) (a || b) := .mk fun W s w E Q h =>
  isTrue_or (hx.run W s w E _ fun s₁ k₁ => by
    cases a with
    | true => exact h s₁ k₁
    | false => exact isTrue_or ((hy rfl).run W s₁ (w.kept k₁) E _ fun s₂ k₂ => by
        cases b with
        | true => exact h s₂ (k₁.trans k₂)
        | false => exact isTrue_or_nil (h s₂ (k₁.trans k₂))))
/-- the truth of an int's tree -/
theorem tt_int {e : Expr} {a : Int} (he : Ex g A env ρ e (.int a)) (hp : ∀ whole, isTrue e env whole = (do let v ← whole; standAt e.pos; holding [v] (PySem.truthy v)) := by intro _; rfl) : Tt g A env ρ e (a != 0) := .mk fun W s w E Q h =>
  isTrue_plain (he.run W s w E _ fun v s₁ k₁ r₁ => by
    obtain ⟨t, rfl⟩ := r₁.int_inv
    exact P.truthy_int (h s₁ k₁)) (hp _)
theorem tt_bool {e : Expr} {a : Bool} (he : Ex g A env ρ e (.bool a)) (hp : ∀ whole, isTrue e env whole = (do let v ← whole; standAt e.pos; holding [v] (PySem.truthy v)) := by intro _; rfl) : Tt g A env ρ e a := .mk fun W s w E Q h =>
  isTrue_plain (he.run W s w E _ fun v s₁ k₁ r₁ => by
    obtain rfl := r₁.bool_inv
    exact wpAny_truthy_bool (h s₁ k₁)) (hp _)
theorem tt_str {e : Expr} {a : Str} (he : Ex g A env ρ e (.str a)) (hz : a.length ≤ sizeLine) (hp : ∀ whole, isTrue e env whole = (do let v ← whole; standAt e.pos; holding [v] (PySem.truthy v)) := by intro _; rfl) : Tt g A env ρ e ((a.length : Int) != 0) := .mk fun W s w E Q h =>
  isTrue_plain (he.run W s w E _ fun v s₁ k₁ r₁ => by
    obtain ⟨t, rfl⟩ := r₁.str_inv
    exact P.truthy_str (by rw [sizeLine_eq] at hz; lia) (h _ (k₁.trans .toks))) (hp _)

theorem ex_ifexp {t b o : Expr} {c : Bool} {d : PyData} (ht : Tt g A env ρ t c) (hb : c = true → Ex g A env ρ b d) (ho : c = false → Ex g A env ρ o d) : Ex g A env ρ (.IfExp t b o pos) d := .mk fun W s w E Q h =>
  IfExp_ (ht.run W s w E _ fun s₁ k₁ => by
    cases c with
    | true => exact (hb rfl).run W s₁ (w.kept k₁) E _ fun v s₂ k₂ r₂ => h v s₂ (k₁.trans k₂) r₂
    | false => exact (ho rfl).run W s₁ (w.kept k₁) E _ fun v s₂ k₂ r₂ => h v s₂ (k₁.trans k₂) r₂)
theorem ex_neg {x : Expr} {a : Int} (hx : Ex g A env ρ x (.int a)) : Ex g A env ρ (.UnaryOp .USub x pos) (.int (-a)) := .mk fun W s w E Q h =>
  UnaryOp_ (hx.run W s w E _ fun v s₁ k₁ r₁ => by
    obtain ⟨t, rfl⟩ := r₁.int_inv
    exact P.neg_int (h _ _ (k₁.trans .toks) .int))

def unstar : Expr → Bool | .Starred .. => false | _ => true
theorem unstars {es : List Expr} (h : es.all unstar = true) : ∀ e ∈ es, starEach [e] env = [(false, eval e env)] := fun e he => by
  have q := List.all_eq_true.mp h e he
  cases e <;> first | rfl | (simp [unstar] at q)
/-- displays and arguments: one after the other -/
theorem exs_spliced {es : List Expr} {ds : List PyData} (hs : Exs g A env ρ es ds) (hstar : ∀ e ∈ es, starEach [e] env = [(false, eval e env)]) {bp : Pos} : ∀ {W : List Addr} {s : Shared} (w : Wo g A env ρ W s) {E : Value → Shared → Prop} {Q : List Value → Shared → Prop},
    (∀ vs s', Kept W s s' → RdAll W s' vs ds → Q vs s') → wpAny g.M A (spliced (backTo bp (starEach es env))) Q E s := by
  induction hs with
  | nil => intro W s w E Q h; exact spliced_nil (h [] s (.refl ..) .nil)
  | cons he hs ih =>
    rename_i e es d ds
    intro W s w E Q h
    have e0 : starEach (e :: es) env = (false, eval e env) :: starEach es env := by
      have := hstar e (.head _)
      cases e <;> first | rfl | (simp only [starEach] at this; exact absurd (congrArg (fun l => (l.map (·.1))) this) (by simp))
    have e1 : backTo bp (starEach (e :: es) env) = (false, eval e env) :: backTo bp (starEach es env) := by rw [e0]; rfl
    rw [e1]
    refine spliced_cons (he.run W s w E _ fun v s₁ k₁ r₁ => ih (fun x hx => hstar x (.tail _ hx)) (w.kept k₁) fun vs s₂ k₂ r₂ => h (v :: vs) s₂ (k₁.trans k₂) (.cons (r₁.kept k₂) r₂))

theorem ex_list {es : List Expr} {ds : List PyData} (hs : Exs g A env ρ es ds) (hz : ds.length ≤ sizeLine) (hstar : es.all unstar = true := by rfl) : Ex g A env ρ (.List es pos) (.list ds) := .mk fun W s w E Q h =>
  List_ (exs_spliced hs (unstars hstar) w fun vs s₁ k₁ r₁ => wpAny_newObj_type (h _ _ (k₁.trans .push') (rd_pushed (w.kept k₁).wd (k := s₁.toks) rfl ⟨_, rfl⟩ r₁)) (by show vs.toArray.size ≤ sizeLine; simpa [r₁.length] using hz))
theorem ex_tuple {es : List Expr} {ds : List PyData} {k : Nat} (hs : Exs g A env ρ es ds) (hz : ds.length ≤ sizeLine) (hstar : es.all unstar = true := by rfl) : Ex g A env ρ (.Tuple es k pos) (.tuple ds) := .mk fun W s w E Q h =>
  Tuple_ (exs_spliced hs (unstars hstar) w fun vs s₁ k₁ r₁ => wpAny_newObj_type (h _ _ (k₁.trans .push') (rd_pushedT (w.kept k₁).wd (k := s₁.toks) rfl ⟨_, rfl⟩ r₁)) (by show vs.toArray.size ≤ sizeLine; simpa [r₁.length] using hz))

/-- an item -/
theorem wpAny_letTemp {M : Model} {E : Value → Shared → Prop} {s : Shared} {value : Expr} {o r : Value} {Q : Unit → Shared → Prop} (hM : ∃ prog w, M = model prog w) (h : Q () s) : wpAny M A (letTemporaryGo value o r) Q E s := by
  obtain ⟨prog, w, rfl⟩ := hM
  unfold letTemporaryGo
  split
  · exact wpAny_pure h
  · refine wpAny_bind (wpAny_holding ?_)
    exact wpAny_runValue (codeAny_builtin entry_let_go (by rw [Around.under_plainId plain_let_go]; exact wpAny_pure (wpAny_pure h)))
  · exact wpAny_pure h
theorem sub_tail {value slice : Expr} {o i : Value} {T id : String} {W : List Addr} {s : Shared} {d : PyData} (hT : s.TypeIs o T)
    (hl : typeLookup (.type T) "__getitem__" = pure (some (.builtin id))) (h : Ev g A W s (getItem o i) d)
    (hs : subscripted slice false o i = operate [o, i] (getItem o i) ∨ subscripted slice false o i = operate [i, o] (getItem o i)) : Ev g A W s (subscriptTail value slice o i) d := fun E Q hq => by
  unfold subscriptTail
  refine wpAny_bind ?_
  rw [getitemInPython_of_ne hT.not_modules]
  refine wpAny_bind (wpAny_specialOf hT hl ?_)
  have fin : wpAny g.M A (subscripted slice false o i) (fun r s₃ => wpAny g.M A (letTemporaryGo value o r >>= fun _ => pure r) Q E s₃) E s := by
    rcases hs with hs | hs <;> rw [hs] <;>
    exact wpAny_operating (h E _ fun r s₃ k₃ r₃ => wpAny_bind (wpAny_letTemp ⟨_, _, rfl⟩ (wpAny_pure (hq r s₃ k₃ r₃))))
  first
    | exact wpAny_pure (wpAny_bind fin)
    | exact wpAny_bind (wpAny_pure (wpAny_bind fin))
    | exact wpAny_bind fin

theorem ex_item {value slice : Expr} {ds : List PyData} {k : Int} {d : PyData} (hv : Ex g A env ρ value (.list ds)) (hi : Ex g A env ρ slice (.int k)) (h0 : 0 ≤ k) (hd : ds[k.toNat]? = some d) (hz : ds.length ≤ sizeLine)
    (hs : ∀ o i, subscripted slice false o i = operate [o, i] (getItem o i) := by intro _ _; rfl) : Ex g A env ρ (.Subscript value slice pos) d := .mk fun W s w E Q h =>
  Subscript_ (ev2 w hv hi (fun v u s' _ w' r1 r2 => by
    obtain ⟨l, vs, rfl, _, hl, q⟩ := r1.list_inv
    obtain ⟨t, rfl⟩ := r2.int_inv
    obtain ⟨x, hx, rx⟩ := q.get' _ _ hd
    have hlt := (List.getElem?_eq_some_iff.mp hd).1
    exact sub_tail hl.typeIs slot_list_getitem.lookup (fun E Q h => wpAny_getItem_list hl h0 (by rw [sizeLine_eq] at hz; lia) (by simpa using hx) (h x _ (.refl ..) rx)) (.inl (hs _ _))) h)
theorem ex_item_neg {value slice : Expr} {ds : List PyData} {k : Int} {d : PyData} (hv : Ex g A env ρ value (.list ds)) (hi : Ex g A env ρ slice (.int k)) (h0 : k < 0) (h1 : -(ds.length : Int) ≤ k) (hd : ds[(k + ds.length).toNat]? = some d) (hz : ds.length ≤ sizeLine)
    (hs : ∀ o i, subscripted slice false o i = operate [o, i] (getItem o i) := by intro _ _; rfl) : Ex g A env ρ (.Subscript value slice pos) d := .mk fun W s w E Q h =>
  Subscript_ (ev2 w hv hi (fun v u s' _ w' r1 r2 => by
    obtain ⟨l, vs, rfl, _, hl, q⟩ := r1.list_inv
    obtain ⟨t, rfl⟩ := r2.int_inv
    obtain ⟨x, hx, rx⟩ := q.get' _ _ hd
    have e : (vs.toArray.size : Int) = ds.length := by simp [q.length]
    exact sub_tail hl.typeIs slot_list_getitem.lookup (fun E Q h => wpAny_getItem_list_neg hl h0 (by rw [e]; exact h1) (by rw [sizeLine_eq] at hz; lia) (by rw [e]; simpa using hx) (h x _ (.refl ..) rx)) (.inl (hs _ _))) h)
theorem ex_sign {value slice : Expr} {x : Str} {k : Int} {c : Nat} (hv : Ex g A env ρ value (.str x)) (hi : Ex g A env ρ slice (.int k)) (hr : (decide (k < -(2 ^ 63 : Int)) || decide (k ≥ 2 ^ 63)) = false) (hc : (seqIndex? k x.length).bind (x.cps[·]?) = some c)
    (hs : ∀ o i, subscripted slice false o i = operate [o, i] (getItem o i) := by intro _ _; rfl) : Ex g A env ρ (.Subscript value slice pos) (.str ⟨#[c]⟩) := .mk fun W s w E Q h =>
  Subscript_ (ev2 w hv hi (fun v u s' _ w' r1 r2 => by
    obtain ⟨t, rfl⟩ := r1.str_inv
    obtain ⟨t', rfl⟩ := r2.int_inv
    exact sub_tail (T := "str") rfl PySem.F.slot_str_getitem.lookup (fun E Q h => P.getItem_str hr hc (h _ _ .toks .str)) (.inl (hs _ _))) h)
end
end Mine

/- Ex3 -/
namespace Mine
open PySem PySem.W PySem.Calls PySem.Spec PyProof.Rows
set_option Elab.async false
set_option linter.unusedVariables false

/-- the block is a function's, over the top -/
structure En (env : Env) : Prop where
  kind : env.scope.kind = .function
  glob : env.globals = mainGlobals
  blt : env.builtins = builtinsNs

/-- a built-in's name that the top does not bind -/
structure Bn (g : Gd) (x : Str) (v : Value) : Prop where
  miss : nsIn g.K mainGlobals x = some none
  val : bootBuiltins x = some v
  ne : x ≠ "__name__"

/-- a def of the text -/
structure Fn (g : Gd) (x : Str) (f : Addr) (name : Str) (params : Arguments) (body : List Stmt) (scope : Scope) (cdv : Value) : Prop where
  at_ : nsIn g.K mainGlobals x = some (some (.ref f))
  ob : ∃ oc od osl doc pm an ct, g.K.lookup f = some ⟨oc, od, .func (fnX name name params body scope [] .none .none doc pm an cdv ct), osl⟩
  cd : codeIn g.K cdv name = true

section
variable {g : Gd} {A : Around} {env : Env} {ρ : List (Str × PyData)} {pos : Pos} {E : Value → Shared → Prop}

theorem Wd.get {W : List Addr} {s : Shared} (w : Wd g W s) {b : Addr} {o : Obj} (e : (hideAll s.heap W).get? b = some o) : s.heap.get? b = some o := of_hideAll W e
theorem Wd.top {W : List Addr} {s : Shared} (w : Wd g W s) : Top g.p g.loose g.mean g.mg g.mb s.heap := w.known.top.keeps fun _ _ e => of_hideAll W e
theorem Wd.k {W : List Addr} {s : Shared} (w : Wd g W s) : g.K.In s.heap := w.known.k.keeps fun _ _ e => of_hideAll W e

theorem name_blt {W : List Addr} {s : Shared} (w : Wd g W s) (n : En env) {x : Str} {v : Value} (b : Bn g x v) (hx : env.kindOf x = some .globalImplicit) {M : Model} {Q : Value → Shared → Prop} (h : Q v s) (hd : (x == ("__debug__" : Str)) = false := by decide) :
    wpAny M A (eval (.Name x pos) env) Q E s :=
  Name_function_global n.kind hx (loadGlobal_builtin (n.glob ▸ w.top.g) (mg_none_of w.k w.top.g b.miss) (n.blt ▸ w.top.b) ((w.top.builtins x b.ne).trans b.val) h) hd
theorem name_fn {W : List Addr} {s : Shared} (w : Wd g W s) (n : En env) {x : Str} {v : Value} (e : nsIn g.K mainGlobals x = some (some v)) (hx : env.kindOf x = some .globalImplicit) {M : Model} {Q : Value → Shared → Prop} (h : Q v s) (hd : (x == ("__debug__" : Str)) = false := by decide) :
    wpAny M A (eval (.Name x pos) env) Q E s :=
  Name_function_global n.kind hx (loadGlobal_global (n.glob ▸ w.top.g) (mg_of w.k w.top.g e) h) hd

/-- a call of a built-in with one argument -/
theorem ex_blt1 (n : En env) {x : Str} {np : Pos} {id : String} {e : Expr} {a d : PyData} (b : Bn g x (.builtin id)) (hx : env.kindOf x = some .globalImplicit) (he : Ex g A env ρ e a)
    (hc : ∀ W s v, Wo g A env ρ W s → Rd W s v a → Ev g A W s (call (.builtin id) [v]) d) (hs : starEach [e] env = [(false, eval e env)] := by rfl) (hd : (x == ("__debug__" : Str)) = false := by decide) : Ex g A env ρ (.Call (.Name x np) [e] [] pos) d := .mk fun W s w E Q h =>
  Call_Name1 (name_blt w.wd n b hx (callWith_builtin rfl (evalArgs_plain (spliced_cons (he.run W s w E _ fun v s₁ k₁ r₁ => spliced_nil (hc W s₁ v (w.kept k₁) r₁ E Q fun v' s' k' r' => h v' s' (k₁.trans k') r'))))) hd) hs
theorem ex_type1 (n : En env) {x : Str} {np : Pos} {T : String} {e : Expr} {a d : PyData} (b : Bn g x (.type T)) (hx : env.kindOf x = some .globalImplicit) (he : Ex g A env ρ e a)
    (hc : ∀ W s v, Wo g A env ρ W s → Rd W s v a → Ev g A W s (call (.type T) [v]) d) (hs : starEach [e] env = [(false, eval e env)] := by rfl) (hd : (x == ("__debug__" : Str)) = false := by decide) : Ex g A env ρ (.Call (.Name x np) [e] [] pos) d := .mk fun W s w E Q h =>
  Call_Name1 (name_blt w.wd n b hx (PySem.callWith_type rfl (evalArgs_plain (spliced_cons (he.run W s w E _ fun v s₁ k₁ r₁ => spliced_nil (hc W s₁ v (w.kept k₁) r₁ E Q fun v' s' k' r' => h v' s' (k₁.trans k') r'))))) hd) hs

theorem ex_abs (n : En env) {x : Str} {np : Pos} {e : Expr} {a : Int} (b : Bn g x (.builtin "abs")) (hx : env.kindOf x = some .globalImplicit) (he : Ex g A env ρ e (.int a)) (hs : starEach [e] env = [(false, eval e env)] := by rfl) (hd : (x == ("__debug__" : Str)) = false := by decide) :
    Ex g A env ρ (.Call (.Name x np) [e] [] pos) (.int (if a < 0 then -a else a)) := ex_blt1 n b hx he (hs := hs) (hd := hd) fun W s v _ r E Q h => by
  obtain ⟨t, rfl⟩ := r.int_inv
  exact call_abs_int fun u k => h _ _ .toks .int
theorem ex_chr (n : En env) {x : Str} {np : Pos} {e : Expr} {a : Nat} (b : Bn g x (.builtin "chr")) (hx : env.kindOf x = some .globalImplicit) (he : Ex g A env ρ e (.int a)) (ha : a < 128) (hs : starEach [e] env = [(false, eval e env)] := by rfl) (hd : (x == ("__debug__" : Str)) = false := by decide) :
    Ex g A env ρ (.Call (.Name x np) [e] [] pos) (.str ⟨#[a]⟩) := ex_blt1 n b hx he (hs := hs) (hd := hd) fun W s v _ r E Q h => by
  obtain ⟨t, rfl⟩ := r.int_inv
  refine P.chr_of_int (by simp; lia) ?_
  simpa using h _ _ .toks .str
theorem ex_ord (n : En env) {x : Str} {np : Pos} {e : Expr} {c : Nat} (b : Bn g x (.builtin "ord")) (hx : env.kindOf x = some .globalImplicit) (he : Ex g A env ρ e (.str ⟨#[c]⟩)) (hs : starEach [e] env = [(false, eval e env)] := by rfl) (hd : (x == ("__debug__" : Str)) = false := by decide) :
    Ex g A env ρ (.Call (.Name x np) [e] [] pos) (.int c) := ex_blt1 n b hx he (hs := hs) (hd := hd) fun W s v _ r E Q h => by
  obtain ⟨t, rfl⟩ := r.str_inv
  exact P.ord_of_char (h _ _ .toks .int)
theorem ex_len (n : En env) {x : Str} {np : Pos} {e : Expr} {ds : List PyData} (b : Bn g x (.builtin "len")) (hx : env.kindOf x = some .globalImplicit) (he : Ex g A env ρ e (.list ds)) (hz : ds.length ≤ sizeLine) (hs : starEach [e] env = [(false, eval e env)] := by rfl) (hd : (x == ("__debug__" : Str)) = false := by decide) :
    Ex g A env ρ (.Call (.Name x np) [e] [] pos) (.int ds.length) := ex_blt1 n b hx he (hs := hs) (hd := hd) fun W s v _ r E Q h => by
  obtain ⟨l, vs, rfl, _, hl, q⟩ := r.list_inv
  have e : vs.toArray.size = ds.length := by simp [q.length]
  refine call_len_list hl (by rw [e]; rw [sizeLine_eq] at hz; lia) ?_
  rw [e]
  exact h _ _ .toks .int
theorem ex_str_int (n : En env) {x : Str} {np : Pos} {e : Expr} {a : Int} (b : Bn g x (.type "str")) (hx : env.kindOf x = some .globalImplicit) (he : Ex g A env ρ e (.int a)) (ha : a.natAbs.log2 < 1920) (hs : starEach [e] env = [(false, eval e env)] := by rfl) (hd : (x == ("__debug__" : Str)) = false := by decide) :
    Ex g A env ρ (.Call (.Name x np) [e] [] pos) (.str (Str.ofString (toString a))) := ex_type1 n b hx he (hs := hs) (hd := hd) fun W s v _ r E Q h => by
  obtain ⟨t, rfl⟩ := r.int_inv
  exact P.str_of_int ha (h _ _ .toks .str)
theorem ex_str_bool (n : En env) {x : Str} {np : Pos} {e : Expr} {a : Bool} (b : Bn g x (.type "str")) (hx : env.kindOf x = some .globalImplicit) (he : Ex g A env ρ e (.bool a)) (hs : starEach [e] env = [(false, eval e env)] := by rfl) (hd : (x == ("__debug__" : Str)) = false := by decide) :
    Ex g A env ρ (.Call (.Name x np) [e] [] pos) (.str (if a = true then Str.ofString "True" else Str.ofString "False")) := ex_type1 n b hx he (hs := hs) (hd := hd) fun W s v _ r E Q h => by
  obtain rfl := r.bool_inv
  exact P.str_of_bool (h _ _ .toks .str)
theorem ex_bool_int (n : En env) {x : Str} {np : Pos} {e : Expr} {a : Int} (b : Bn g x (.type "bool")) (hx : env.kindOf x = some .globalImplicit) (he : Ex g A env ρ e (.int a)) (hs : starEach [e] env = [(false, eval e env)] := by rfl) (hd : (x == ("__debug__" : Str)) = false := by decide) :
    Ex g A env ρ (.Call (.Name x np) [e] [] pos) (.bool (a != 0)) := ex_type1 n b hx he (hs := hs) (hd := hd) fun W s v _ r E Q h => by
  obtain ⟨t, rfl⟩ := r.int_inv
  exact call_bool_int (h _ _ (.refl ..) .bool)

/-- what a def of the text does with one argument -/
def Sp1 (g : Gd) (f : Addr) (k : Nat) (a d : PyData) : Prop := ∀ A W s v, Rm A k → Wd g W s → Fs A W s → Rd W s v a → Ev g A W s (call (.ref f) [v]) d

theorem Fn.obj {x : Str} {f : Addr} {name : Str} {params : Arguments} {body : List Stmt} {scope : Scope} {cdv : Value} (F : Fn g x f name params body scope cdv) {W : List Addr} {s : Shared} (w : Wd g W s) :
    ∃ o fd, s.heap.get? f = some o ∧ o.data = .func fd ∧ fd.body = .stmts body ∧ fd.scope = scope ∧ fd.code = cdv := by
  obtain ⟨oc, od, osl, doc, pm, an, ct, e⟩ := F.ob
  exact ⟨_, _, w.k _ _ e, rfl, rfl, rfl, rfl⟩
theorem ex_fn1 (n : En env) {x : Str} {np : Pos} {f : Addr} {name : Str} {params : Arguments} {body : List Stmt} {scope : Scope} {cdv : Value} (F : Fn g x f name params body scope cdv) {e : Expr} {a d : PyData} {k : Nat} (hk : Rm A k) (hx : env.kindOf x = some .globalImplicit) (he : Ex g A env ρ e a)
    (sp : Sp1 g f k a d) (hs : starEach [e] env = [(false, eval e env)] := by rfl) (hd : (x == ("__debug__" : Str)) = false := by decide) : Ex g A env ρ (.Call (.Name x np) [e] [] pos) d := .mk fun W s w E Q h => by
  obtain ⟨oc, od, osl, doc, pm, an, ct, eo⟩ := F.ob
  refine Call_Name1 (name_fn w.wd n F.at_ hx (callWith_function (o := ⟨oc, od, .func (fnX name name params body scope [] .none .none doc pm an cdv ct), osl⟩) (fd := fnX name name params body scope [] .none .none doc pm an cdv ct)
    (evalArgs_plain (spliced_cons (he.run W s w E _ fun v s₁ k₁ r₁ => spliced_nil ?_)))) hd) hs
  have w₁ := w.kept k₁
  exact ⟨⟨w₁.wd.k _ _ eo, rfl⟩, sp A W s₁ v hk w₁.wd w₁.fs r₁ E Q fun v' s' k' r' => h v' s' (k₁.trans k') r'⟩

/-- the methods of a text -/
theorem evalArgs_nil0 {M : Model} {s : Shared} {f : Value} {Q : Args → Shared → Prop} (h : Q ⟨[], []⟩ s) : wpAny M A (evalArgs f true [] []) Q E s := by
  unfold evalArgs
  exact wpAny_pure h
theorem ex_strip {o : Expr} {apos : Pos} {x : Str} (ho : Ex g A env ρ o (.str x)) (hz : x.length ≤ sizeLine) (hbase : attributeBase o "strip" env (eval o env) = eval o env := by rfl) (hline : (apos.endLine == pos.line) = true := by rfl) :
    Ex g A env ρ (.Call (.Attribute o "strip" apos) [] [] pos) (.str (Txt.strip x)) := .mk fun W s w E Q h =>
  Call_method0 hbase hline (ho.run W s w E _ fun v s₁ k₁ r₁ => by
    obtain ⟨t, rfl⟩ := r₁.str_inv
    exact ⟨"str", "str.strip", PySem.F.plainAttrs_str, PySem.F.slot_str_strip, PySem.F.type_str_strip, typeIs_str _ _ _, (fun _ e => by cases e),
      callWith_builtin rfl (evalArgs_nil0 (SC.strip (fun t' k => h _ _ (k₁.trans .toks) .str) hz))⟩)
theorem strs_of {W : List Addr} {s : Shared} : ∀ {vs : List Value} {xs : List Str}, RdAll W s vs (xs.map .str) → ∃ l : List (Str × Tok), strValues l = vs ∧ l.map (·.1) = xs
  | [], [], _ => ⟨[], rfl, rfl⟩
  | [], _ :: _, ⟨_, r⟩ => by cases r
  | _ :: _, [], ⟨_, r⟩ => by cases r
  | v :: vs, x :: xs, r => by
    obtain ⟨t, rfl⟩ := r.uncons.1.str_inv
    obtain ⟨l, h1, h2⟩ := strs_of r.uncons.2
    exact ⟨(x, t) :: l, by rw [← h1]; rfl, by rw [← h2]; rfl⟩
theorem ex_join {o e : Expr} {apos : Pos} {x : Str} {xs : List Str} (ho : Ex g A env ρ o (.str x)) (he : Ex g A env ρ e (.list (xs.map .str))) (hok : JoinOk x xs = true) (hs : starEach [e] env = [(false, eval e env)] := by rfl) (hbase : attributeBase o "join" env (eval o env) = eval o env := by rfl) (hline : (apos.endLine == pos.line) = true := by rfl) :
    Ex g A env ρ (.Call (.Attribute o "join" apos) [e] [] pos) (.str (Txt.join x xs)) := .mk fun W s w E Q h =>
  Call_method1 hbase hs hline (ho.run W s w E _ fun v s₁ k₁ r₁ => by
    obtain ⟨t, rfl⟩ := r₁.str_inv
    refine ⟨"str", "str.join", PySem.F.plainAttrs_str, PySem.F.slot_str_join, PySem.F.type_str_join, typeIs_str _ _ _, (fun _ e => by cases e),
      callWith_builtin rfl (evalArgs_plain (spliced_cons (he.run W s₁ (w.kept k₁) E _ fun v s₂ k₂ r₂ => spliced_nil ?_)))⟩
    obtain ⟨l, vs, rfl, _, hl, q⟩ := r₂.list_inv
    obtain ⟨ps, h1, h2⟩ := strs_of q
    exact SC.join (by rw [h1]; exact hl) h2 hok fun t' k => h _ _ ((k₁.trans k₂).trans .toks) .str)

/-- a part of a slice -/
def Pt (g : Gd) (A : Around) (env : Env) (ρ : List (Str × PyData)) (e : Option Expr) (i : Option Int) : Prop :=
  ∀ W s, Wo g A env ρ W s → ∀ (E : Value → Shared → Prop) (Q : Value → Shared → Prop), (∀ v s', Kept W s s' → (∃ q : Option (Int × Tok), v = partValue q ∧ q.map (·.1) = i) → Q v s') → wpAny g.M A (evalPart e env) Q E s
theorem pt_none : Pt g A env ρ none none := fun W s w E Q h => by rw [evalPart_none]; exact wpAny_pure (h _ _ (.refl ..) ⟨none, rfl, rfl⟩)
theorem pt_some {e : Expr} {i : Int} (he : Ex g A env ρ e (.int i)) : Pt g A env ρ (some e) (some i) := fun W s w E Q h => by
  rw [evalPart_some]
  exact he.run W s w E Q fun v s' k r => by
    obtain ⟨t, rfl⟩ := r.int_inv
    exact h _ _ k ⟨some (i, t), rfl, rfl⟩
theorem isPart_of {q : Option (Int × Tok)} : IsPart (partValue q) (q.map (·.1)) := by cases q with | none => exact .none | some p => exact .int p.1 p.2

theorem ex_slice {value : Expr} {lo hi : Option Expr} {sp : Pos} {ds : List PyData} {l u : Option Int} {a b : Nat} (hv : Ex g A env ρ value (.list ds)) (hl : Pt g A env ρ lo l) (hu : Pt g A env ρ hi u) (hb : sliceBounds l u none ds.length = ((a : Int), (b : Int), 1)) (hz : ds.length ≤ sizeLine) :
    Ex g A env ρ (.Subscript value (.Slice lo hi none sp) pos) (.list ((ds.drop a).take (b - a))) := .mk fun W s w E Q h =>
  Subscript_ (hv.run W s w E _ fun v s₁ k₁ r₁ => wpAny_Slice (hl W s₁ (w.kept k₁) E _ fun vl s₂ k₂ r₂ => hu W s₂ ((w.kept k₁).kept k₂) E _ fun vu s₃ k₃ r₃ => by
    rw [evalPart_none]
    refine wpAny_pure ?_
    obtain ⟨q2, rfl, e2⟩ := r₂
    obtain ⟨q3, rfl, e3⟩ := r₃
    have w₃ := ((w.kept k₁).kept k₂).kept k₃
    obtain ⟨lx, vs, rfl, _, hlx, q⟩ := ((r₁.kept k₂).kept k₃).list_inv
    have hlx' := hlx.push { cls := .type "slice", data := .fields #[partValue q2, partValue q3, .none] }
    refine sub_tail (g := g) (A := A) (W := W) (d := .list ((ds.drop a).take (b - a))) hlx'.typeIs slot_list_getitem.lookup (fun E Q h => ?_) (.inr rfl) E Q fun v' s' k' r' => h v' s' ((((k₁.trans k₂).trans k₃).trans .push').trans k') r'
    refine wpAny_getItem_list_slice hlx' (Heap.IsSliceOf.new _ _ _ _) (e2 ▸ isPart_of) (e3 ▸ isPart_of) .none (by simp) (h _ _ .push' ?_) (by simpa [q.length] using hz)
    rw [kmk_pick_nat vs.toArray (a := a) (b := b) (by simpa [q.length] using hb)]
    exact rd_pushed (s := { s₃ with heap := s₃.heap.push { cls := .type "slice", data := .fields #[partValue q2, partValue q3, .none] } }) (w₃.wd.kept .push') (vs := (vs.drop a).take (b - a)) (k := s₃.toks) rfl ⟨0, by simp⟩ (((q.kept .push').drop a).take (b - a))))

theorem ex_slice_str {value : Expr} {lo hi : Option Expr} {sp : Pos} {x : Str} {l u : Option Int} {y : Str} (hv : Ex g A env ρ value (.str x)) (hl : Pt g A env ρ lo l) (hu : Pt g A env ρ hi u)
    (hy : ∀ t, sliceMade x t (l.map fun i => (i, 0)) (u.map fun i => (i, 0)) none = .str y ∨ (sliceMade x t (l.map fun i => (i, 0)) (u.map fun i => (i, 0)) none = .val (.str x t) ∧ y = x)) (hz : y.length ≤ sizeLine) :
    Ex g A env ρ (.Subscript value (.Slice lo hi none sp) pos) (.str y) := .mk fun W s w E Q h =>
  Subscript_ (hv.run W s w E _ fun v s₁ k₁ r₁ => wpAny_Slice (hl W s₁ (w.kept k₁) E _ fun vl s₂ k₂ r₂ => hu W s₂ ((w.kept k₁).kept k₂) E _ fun vu s₃ k₃ r₃ => by
    rw [evalPart_none]
    refine wpAny_pure ?_
    obtain ⟨q2, rfl, e2⟩ := r₂
    obtain ⟨q3, rfl, e3⟩ := r₃
    obtain ⟨t, rfl⟩ := r₁.str_inv
    have k := (k₁.trans k₂).trans k₃
    refine sub_tail (g := g) (A := A) (W := W) (d := .str y) (T := "str") (typeIs_str _ _ _) PySem.F.slot_str_getitem.lookup (fun E Q h => ?_) (.inr rfl) E Q fun v' s' k' r' => h v' s' ((k.trans .push').trans k') r'
    refine wpAny_getItem_str_slice (l := q2) (u := q3) (st := none) ⟨_, Heap.get?_push_size _ rfl, rfl, rfl⟩ rfl ?_
    have hm : sliceMade x t q2 q3 none = sliceMade x t (l.map fun i => (i, 0)) (u.map fun i => (i, 0)) none := by
      unfold sliceMade slicePicked
      rw [← e2, ← e3]
      simp only [Option.map_map]
      rfl
    rw [hm]
    rcases hy t with e | ⟨e, rfl⟩ <;> rw [e]
    · exact ⟨hz, h _ _ .toks .str⟩
    · exact h _ _ (.refl ..) .str))
end
end Mine

/- Ex4 -/
namespace Mine
open PySem PySem.W PySem.Calls PySem.Spec PyProof.Rows
set_option Elab.async false
set_option linter.unusedVariables false

/-- I walks over the items; s₁: before it was made -/
structure IterAt (g : Gd) (A : Around) (W : List Addr) (s₁ s₂ : Shared) (I : Addr) (items : List PyData) (fp : List Addr) (P : Nat → Value → Prop) (St : Nat → Heap → Prop) : Prop where
  walks : Walks g.prog g.w A I fp [I] items.length P St
  start : St 0 s₂.heap
  new : s₁.heap.get? I = none
  shape : ∀ i h, St i h → ∃ o vs, h.get? I = some o ∧ o.data = .fields vs
  src : ∀ b ∈ fp, b = I ∨ (b ∉ W ∧ ∃ o, s₁.heap.get? b = some o)
  item : ∀ i v, P i v → ∃ d, items[i]? = some d ∧ Rd W s₁ v d

/-- env's expression e, over ρ, gives something that walks over the items -/
structure It (g : Gd) (A : Around) (env : Env) (ρ : List (Str × PyData)) (e : Expr) (items : List PyData) : Prop where
  run : ∀ W s, Wo g A env ρ W s → ∀ (E : Value → Shared → Prop) (Q : Value → Shared → Prop),
    (∀ xv s₁, Kept W s s₁ → (∀ (E : Value → Shared → Prop) (Q : Value → Shared → Prop), (∀ I s₂ fp P St, Kept W s₁ s₂ → IterAt g A W s₁ s₂ I items fp P St → Q (.ref I) s₂) → wpAny g.M A (pyIter xv) Q E s₁) → Q xv s₁) → wpAny g.M A (eval e env) Q E s

theorem Wd.grow {g : Gd} {N W : List Addr} {s₁ s' : Shared} (w : Wd g W s₁) (k : Kept W s₁ s') (hN : ∀ a ∈ N, s₁.heap.get? a = none) (hl : ∀ a ∈ N, ∃ o, s'.heap.get? a = some o) : Wd g (N ++ W) s' where
  tW := List.mem_append_right _ w.tW
  tab := k.tab w.tab
  live := fun a ha => (List.mem_append.mp ha).elim (hl a) ((w.kept k).live a)
  known := w.known.keeps (hide_grow k.keep hN)
  mode := (Mk.iff fun a ha => w.w0.ne_T (hN a ha)).trans w.mode
theorem Fs.grow {A : Around} {N W : List Addr} {s₁ s' : Shared} (w : Fs A W s₁) (k : Kept W s₁ s') : Fs A (N ++ W) s' := by
  obtain ⟨envs, e, h⟩ := w.kept k
  exact ⟨envs, e, fun env he => let ⟨h1, L, o, es, ep, h2, h3, r⟩ := h env he; ⟨h1, L, o, es, ep, h2, List.mem_append_right _ h3, r⟩⟩

/-- one hidden object turns: what is read stays -/
theorem Rd.own {W : List Addr} {s : Shared} {a : Addr} {h' : Heap} {k : Nat} {v : Value} {d : PyData} (x : Rd W s v d) (hs : Heap.ExtBut a s.heap h') (ha : a ∈ W) : Rd W { s with heap := h', toks := k } v d :=
  let ⟨as, r⟩ := x; ⟨as, Rx.keeps (hide_mono fun b o hb e => hs b o (fun q => hb (q ▸ ha)) e) r⟩
theorem RdAll.own {W : List Addr} {s : Shared} {a : Addr} {h' : Heap} {k : Nat} {v : List Value} {d : List PyData} (x : RdAll W s v d) (hs : Heap.ExtBut a s.heap h') (ha : a ∈ W) : RdAll W { s with heap := h', toks := k } v d :=
  let ⟨as, r⟩ := x; ⟨as, RxAll.keeps (hide_mono fun b o hb e => hs b o (fun q => hb (q ▸ ha)) e) r⟩

section
variable {g : Gd} {A : Around} {env : Env} {ρ : List (Str × PyData)} {pos : Pos}

theorem it_list {e : Expr} {ds : List PyData} (hh : A.handled = none) (he : Ex g A env ρ e (.list ds)) : It g A env ρ e ds := .mk fun W s w E Q h => he.run W s w E Q fun v s₁ k₁ r₁ => h v s₁ k₁ fun E Q hq => by
  obtain ⟨l, vs, rfl, hlW, hl, q⟩ := r₁.list_inv
  obtain ⟨o, ho, _⟩ := id hl
  have hne : l ≠ s₁.heap.objs.size := Nat.ne_of_lt (Heap.lt_size ho)
  refine wpAny_pyIter_list hl (hq _ _ [s₁.heap.objs.size, l] (fun i v => vs.toArray[i]? = some v) (fun i h => h.IsListIter s₁.heap.objs.size l i ∧ h.IsList l vs.toArray) .push' ⟨?_, ?_, ?_, ?_, ?_, ?_⟩)
  · have W := Walks.list (prog := g.prog) (w := g.w) hh s₁.heap.objs.size l hne vs.toArray
    rw [show ds.length = vs.toArray.size by simp [q.length]]
    exact W
  · exact ⟨⟨_, Heap.get?_push_size _ rfl, rfl, rfl⟩, hl.push _⟩
  · exact Heap.get?_none_of_le (Nat.le_refl _)
  · rintro i h ⟨⟨o, e1, e2, e3⟩, _⟩
    exact ⟨o, _, e1, e3⟩
  · intro b hb
    simp only [List.mem_cons, List.not_mem_nil, or_false] at hb
    rcases hb with rfl | rfl
    · exact .inl rfl
    · exact .inr ⟨hlW, o, ho⟩
  · intro i v hv
    exact q.get i v (by simpa using hv)

theorem it_str {e : Expr} {x : Str} (hh : A.handled = none) (he : Ex g A env ρ e (.str x)) : It g A env ρ e (x.cps.toList.map fun c => .str ⟨#[c]⟩) := .mk fun W s w E Q h => he.run W s w E Q fun v s₁ k₁ r₁ => h v s₁ k₁ fun E Q hq => by
  obtain ⟨t, rfl⟩ := r₁.str_inv
  have key : ∀ (T : String), (∀ A' : Around, A'.handled = none → Walks g.prog g.w A' s₁.heap.objs.size [s₁.heap.objs.size] [s₁.heap.objs.size] x.cps.size (SignAt x) (fun i h => h.IsStrIter s₁.heap.objs.size T x t i)) →
      (s₁.heap.push { cls := .type T, data := .fields #[.str x t, .int 0 0] }).IsStrIter s₁.heap.objs.size T x t 0 → Q (.ref s₁.heap.objs.size) { s₁ with heap := s₁.heap.push { cls := .type T, data := .fields #[.str x t, .int 0 0] } } := fun T W h0 => by
    refine hq _ _ [s₁.heap.objs.size] (SignAt x) (fun i h => h.IsStrIter s₁.heap.objs.size T x t i) .push' ⟨?_, h0, ?_, ?_, ?_, ?_⟩
    · rw [show (x.cps.toList.map fun c => PyData.str ⟨#[c]⟩).length = x.cps.size by simp]
      exact W A hh
    · exact Heap.get?_none_of_le (Nat.le_refl _)
    · rintro i h ⟨o, e1, e2, e3⟩
      exact ⟨o, _, e1, e3⟩
    · intro b hb
      simp only [List.mem_cons, List.not_mem_nil, or_false] at hb
      exact .inl hb
    · rintro i v ⟨c, u, hc, rfl⟩
      refine ⟨.str ⟨#[c]⟩, ?_, .str⟩
      simp [hc]
  cases ha : x.cps.all (· < 128)
  · exact wpAny_pyIter_wide ha (key _ (fun A' hA => Walks.strWide hA _ x t) ⟨_, Heap.get?_push_size _ rfl, rfl, rfl⟩)
  · exact wpAny_pyIter_ascii ha (key _ (fun A' hA => Walks.strAscii hA _ x t) ⟨_, Heap.get?_push_size _ rfl, rfl, rfl⟩)

theorem range_it {W : List Addr} {s s₁ : Shared} {xv : Value} {r : Addr} {a b c : Int} {t u v : Tok} {n : Nat} (hh : A.handled = none) (hr : IsRange s₁.heap r a b c t u v) (hn : Builtin.Range.rangeSize a b c = n) (hs : Builtin.Range.small a b c = true) :
    ∀ (E : Value → Shared → Prop) (Q : Value → Shared → Prop), (∀ I s₂ fp P St, Kept W s₁ s₂ → IterAt g A W s₁ s₂ I ((List.range n).map fun i => .int (a + (i : Nat) * c)) fp P St → Q (.ref I) s₂) → wpAny g.M A (pyIter (.ref r)) Q E s₁ := fun E Q hq => by
  refine wpAny_pyIter_range hr hs (hq _ _ [s₁.heap.objs.size] (fun i v => i < n ∧ ∃ t, v = .int (a + i * c) t) (fun i h => IsRangeIter h s₁.heap.objs.size (a + (i : Nat) * c) ((n : Int) - (i : Nat)) c) .push' ⟨?_, ?_, ?_, ?_, ?_, ?_⟩)
  · have W := Walks.range (prog := g.prog) (w := g.w) hh s₁.heap.objs.size a c n
    rw [show ((List.range n).map fun i => PyData.int (a + (i : Nat) * c)).length = n by simp]
    exact W.bound
  · show IsRangeIter _ _ _ _ _
    have e1 : a + ((0 : Nat) : Int) * c = a := by simp
    have e2 : (n : Int) - ((0 : Nat) : Int) = n := by simp
    rw [e1, e2, ← hn]
    exact Heap.get?_push_size _ rfl
  · exact Heap.get?_none_of_le (Nat.le_refl _)
  · intro i h e
    exact ⟨_, _, e, rfl⟩
  · intro b hb
    simp only [List.mem_cons, List.not_mem_nil, or_false] at hb
    exact .inl hb
  · rintro i v ⟨hi, t, rfl⟩
    exact ⟨_, by simp [hi], .int⟩

theorem size_one (k : Nat) : Builtin.Range.rangeSize 0 k 1 = k := by
  rw [rangeSize_one]; split <;> lia
theorem fits_of {i : Int} (h0 : -9223372036854775808 ≤ i) (h1 : i < 9223372036854775808) : Builtin.Range.rangeFitsLong i = true := by
  unfold Builtin.Range.rangeFitsLong
  simp only [Bool.and_eq_true, decide_eq_true_eq]
  lia
theorem small_of {a b c : Int} {n : Int} (ha : 0 ≤ a ∧ a < 4294967296) (hb : -4294967296 < b ∧ b < 4294967296) (hc : 0 < c ∧ c < 4294967296) (hn : Builtin.Range.rangeSize a b c = n) (hn2 : 0 ≤ n ∧ n < 4294967296) : Builtin.Range.small a b c = true := by
  unfold Builtin.Range.small
  rw [hn]
  rw [fits_of (by lia) (by lia), fits_of (i := b) (by lia) (by lia), fits_of (i := c) (by lia) (by lia), fits_of (i := n) (by lia) (by lia), if_pos (by lia), fits_of (by lia) (by lia)]
  simp

theorem it_range1 (n : En env) {x : Str} {np : Pos} {e : Expr} {k : Nat} (hh : A.handled = none) (b : Bn g x (.type "range")) (hx : env.kindOf x = some .globalImplicit) (he : Ex g A env ρ e (.int k)) (hk : k ≤ sizeLine)
    (hs : starEach [e] env = [(false, eval e env)] := by rfl) (hd : (x == ("__debug__" : Str)) = false := by decide) : It g A env ρ (.Call (.Name x np) [e] [] pos) ((List.range k).map fun i => .int (i : Nat)) := .mk fun W s w E Q h =>
  Call_Name1 (name_blt w.wd n b hx (PySem.callWith_type rfl (evalArgs_plain (spliced_cons (he.run W s w E _ fun v s₁ k₁ r₁ => spliced_nil (by
    obtain ⟨t, rfl⟩ := r₁.int_inv
    refine call_range_1 (h _ _ (k₁.trans .push) ?_)
    have := range_it (g := g) (A := A) (W := W) (s := s) (xv := .none) (n := k) hh (IsRange.new s₁.heap 0 k 1 s₁.toks t (s₁.toks + 1)) (size_one k) (by rw [sizeLine_eq] at hk; exact small_of (n := k) (by lia) (by lia) (by lia) (size_one k) (by lia)) (s₁ := { s₁ with heap := s₁.heap.push { cls := .type "range", data := .fields #[.int 0 s₁.toks, .int k t, .int 1 (s₁.toks + 1)] }, toks := s₁.toks + 1 + 1 })
    simpa using this))))) hd) hs

theorem it_range3 (n : En env) {x : Str} {np : Pos} {e₁ e₂ e₃ : Expr} {a b c : Int} {k : Nat} (hh : A.handled = none) (hb : Bn g x (.type "range")) (hx : env.kindOf x = some .globalImplicit) (h1 : Ex g A env ρ e₁ (.int a)) (h2 : Ex g A env ρ e₂ (.int b)) (h3 : Ex g A env ρ e₃ (.int c))
    (hc : c ≠ 0) (hcs : c.natAbs < 1073741824) (hn : Builtin.Range.rangeSize a b c = (k : Int)) (hsm : Builtin.Range.small a b c = true)
    (hs : starEach [e₁, e₂, e₃] env = [(false, eval e₁ env), (false, eval e₂ env), (false, eval e₃ env)] := by rfl) (hd : (x == ("__debug__" : Str)) = false := by decide) : It g A env ρ (.Call (.Name x np) [e₁, e₂, e₃] [] pos) ((List.range k).map fun i => .int (a + (i : Nat) * c)) := .mk fun W s w E Q h => by
  refine Call_Name (trees := [(false, eval e₁ env), (false, eval e₂ env), (false, eval e₃ env)]) (by rw [hs]; rfl) (name_blt w.wd n hb hx (PySem.callWith_type rfl (evalArgs_plain (spliced_cons (h1.run W s w E _ fun v s₁ k₁ r₁ => spliced_cons (h2.run W s₁ (w.kept k₁) E _ fun u s₂ k₂ r₂ => spliced_cons (h3.run W s₂ ((w.kept k₁).kept k₂) E _ fun x s₃ k₃ r₃ => spliced_nil ?_)))))) hd)
  obtain ⟨t, rfl⟩ := r₁.int_inv
  obtain ⟨t2, rfl⟩ := r₂.int_inv
  obtain ⟨t3, rfl⟩ := r₃.int_inv
  exact call_range_3 hc (h _ _ (((k₁.trans k₂).trans k₃).trans .push) (range_it (s := s) (xv := .none) hh (IsRange.new s₃.heap a b c t t2 t3) hn hsm)) (.inl (PyProof.noPylong_small hcs))
end
end Mine

/- Ex5 -/
namespace Mine
open PySem PySem.W PySem.Calls PySem.Spec PyProof.Rows
set_option Elab.async false
set_option linter.unusedVariables false

theorem Wd.ne_T {g : Gd} {W : List Addr} {s : Shared} (w : Wd g W s) {a : Addr} (h : s.heap.get? a = none) : a ≠ tT := fun e => by
  obtain ⟨ps, e1, _⟩ := w.tab
  rw [e, e1] at h; cases h
theorem Rd.into {g : Gd} {N W : List Addr} {s₁ s' : Shared} {v : Value} {d : PyData} (x : Rd W s₁ v d) (k : Kept W s₁ s') (hN : ∀ a ∈ N, s₁.heap.get? a = none) : Rd (N ++ W) s' v d := x.grow k.keep hN

section
variable {g : Gd} {A : Around} {env : Env} {ρ ρc : List (Str × PyData)} {pos : Pos}

/-- the invariant of a filling loop -/
structure Fill (g : Gd) (W : List Addr) (s₁ : Shared) (C D I : Addr) (St : Nat → Heap → Prop) (i : Nat) (outs : List PyData) (s' : Shared) : Prop where
  kept : Kept W s₁ s'
  ns : ∃ m, s'.heap.Ns C m
  list : ∃ ys : List Value, s'.heap.IsList D ys.toArray ∧ RdAll ([C, D, I] ++ W) s' ys outs
  st : St i s'.heap

theorem list_sz {g : Gd} {A : Around} {E : Value → Shared → Prop} {s : Shared} {D : Addr} {ys : List Value} {v : Value} {Q : Value → Shared → Prop} (hl : s.heap.IsList D ys.toArray) (hz : ys.length ≤ sizeLine)
    (h : ∀ h', h'.IsList D (ys ++ [v]).toArray → Heap.SameBut D s.heap h' → Q .none { s with heap := h' }) : wpAny g.M A (call (.builtin "list.append") [.ref D, v]) Q E s :=
  wpAny_list_append hl (fun h' h1 h2 => h h' (by simpa using h1) h2) (by simpa using hz)

/-- a comprehension's run, up to the end of its loop -/
def Core (g : Gd) (A : Around) (env : Env) (ρ : List (Str × PyData)) (i1 : Expr) (scope : Scope) (cl : List (Str × Addr)) (e : Expr) (outs : List PyData) : Prop :=
  ∀ W s, Wo g A env ρ W s → ∀ (PP : Value → Addr → Result → Shared → Prop) (E : Value → Shared → Prop),
    (∀ C D s'', s.heap.get? C = none → Kept W s s'' → (∃ m, s''.heap.Ns C m) → Rd ([C] ++ W) s'' (.ref D) (.list outs) → PP (.ref D) C (.ok .next) s'') →
    wpAny g.M A (eval i1 env) (fun x s₁ => wpAny g.M A (pyIter x) (fun it s₂ => wpAny g.M A (newList []) (fun acc s₃ => wpAny g.M A (newFunctionEnv scope env.globals cl [] env.qual none .none (some env)) (fun cenv s₄ =>
      codeAny g.M A (.compStart e 0 it acc { cenv with scope := relabel scope env }) (PP acc cenv.locals) s₄) E s₃) E s₂) E s₁) E s

theorem core_comp1 {elt iter : Expr} {x : Str} {px : Pos} {ifs : List Expr} {scope : Scope} {cl : List (Str × Addr)} {items : List PyData} {p : PyData → Bool} {f : PyData → PyData} (hh : A.handled = none)
    (hkind : scope.kind = .function) (hcell : ∀ y ∈ scope.names, y.2 ≠ .cell) (hx : scope.names.lookup x = some .local)
    (hit : It g A env ρ iter items) (hcap : ∀ C W s, Vs env ρ W s → Vs (compEnvC scope cl C env) ρc W s)
    (hif : (ifs = [] ∧ ∀ d ∈ items, p d = true) ∨ ∃ c, ifs = [c] ∧ ∀ C, ∀ d ∈ items, Tt g A (compEnvC scope cl C env) ((x, d) :: ρc) c (p d))
    (helt : ∀ C, ∀ d ∈ items, p d = true → Ex g A (compEnvC scope cl C env) ((x, d) :: ρc) elt (f d)) (hz : items.length ≤ sizeLine) : Core g A env ρ iter scope cl (.ListComp elt [⟨.Name x px, iter, ifs, 0⟩] scope pos) ((items.filter p).map f) := fun W s w PP E h => by
  refine hit.run W s w E _ fun xv s₁ k₁ hiter => hiter E _ fun I s₂ fp P St k₂ it => ?_
  have w₁ := w.kept k₁
  refine wpAny_newObj_type (wpAny_newFunctionEnv hcell (by intro y hy; simp at hy) (fun h₁ hns₁ hsb₁ => ?_) hkind)
  dsimp only at hns₁ hsb₁ ⊢
  generalize hH2 : s₂.heap.push { cls := .type "list", dict := none, data := .seq ([] : List Value).toArray } = H2 at hns₁ hsb₁ ⊢
  generalize hCd : H2.objs.size = C at hns₁ hsb₁ ⊢
  generalize hDd : s₂.heap.objs.size = D at hns₁ hsb₁ ⊢
  have hC : @Eq Nat C (D + 1) := by rw [← hCd, ← hH2, Heap.size_push, hDd]
  have hDC : D ≠ C := neN (by lia)
  have f₂ : ∀ a : Nat, @LE.le Nat _ D a → s₂.heap.get? a = none := fun a ha => Heap.get?_none_of_le (hDd ▸ ha)
  have f₁ : ∀ a : Nat, @LE.le Nat _ D a → s₁.heap.get? a = none := fun a ha => by
    cases e : s₁.heap.get? a with
    | none => rfl
    | some o =>
      have : ∃ o', s₂.heap.get? a = some o' := by
        by_cases hT : a = tT
        · subst hT; obtain ⟨ps, e', _⟩ := k₂.tab w₁.wd.tab; exact ⟨_, e'⟩
        · by_cases hw : a ∈ W
          · obtain ⟨sl, e', _⟩ := k₂.slots a o hw hT e; exact ⟨_, e'⟩
          · exact ⟨_, k₂.keep a o hw e⟩
      obtain ⟨o', e'⟩ := this
      rw [f₂ a ha] at e'; cases e'
  have hI₂ : @LT.lt Nat _ I D := by obtain ⟨o, vs, e, _⟩ := it.shape 0 _ it.start; rw [← hDd]; exact Heap.lt_size e
  have hIC : I ≠ C := neN (by lia)
  have hID : I ≠ D := neN (by lia)
  have hN : ∀ a ∈ [C, D, I], s₁.heap.get? a = none := fun a ha => by
    simp only [List.mem_cons, List.not_mem_nil, or_false] at ha
    rcases ha with rfl | rfl | rfl
    · exact f₁ _ (by lia)
    · exact f₁ _ (Nat.le_refl _)
    · exact it.new
  have nT : ∀ a ∈ [C, D, I], a ≠ tT := fun a ha => w₁.wd.ne_T (hN a ha)
  have old : ∀ b o, s₂.heap.get? b = some o → h₁.get? b = some o := fun b o e => by
    have hb : @LT.lt Nat _ b D := hDd ▸ Heap.lt_size e
    exact hsb₁.extBut b o (neN (by lia)) (Heap.get?_push_of_some _ (hH2 ▸ Heap.get?_push_of_some _ e))
  have hacc : h₁.IsList D ([] : List Value).toArray := ⟨_, hsb₁.extBut _ _ hDC (Heap.get?_push_of_some _ (hH2 ▸ hDd ▸ Heap.get?_push_size _ rfl)), rfl, _, rfl⟩
  have hst₁ : St 0 h₁ := it.walks.frame _ _ _ it.start fun b _ o e => old b o e
  have srcOff : ∀ b ∈ fp, b ≠ C ∧ b ≠ D := fun b hb => by
    rcases it.src b hb with rfl | ⟨_, o, e⟩
    · exact ⟨hIC, hID⟩
    · exact ⟨(fun q => by rw [q, f₁ C (by lia)] at e; cases e), (fun q => by rw [q, f₁ D (Nat.le_refl _)] at e; cases e)⟩
  have hCk : (compEnvC scope cl C env).kindOf x = some .local := lookup_relabel_local hx
  have loop : codeAny g.M A (.compLoop (.ListComp elt [⟨.Name x px, iter, ifs, 0⟩] scope pos) 0 (.ref I) (.ref D) (compEnvC scope cl C env))
      (PP (.ref D) C) { s₂ with heap := h₁, toks := s₂.toks + ([] : List (Str × Value)).length } := by
    refine codeAny_compLoop_tests (fun k s' => ∃ i, k = items.length + 1 - i ∧ i ≤ items.length ∧ Fill g W s₁ C D I St i (((items.take i).filter p).map f) s') ?_ (items.length + 1)
      ⟨0, by lia, Nat.zero_le _, k₂.trans (.keeps old), ⟨_, hns₁⟩, ⟨[], hacc, by simpa using RdAll.nil⟩, hst₁⟩
    rintro k s' ⟨i, rfl, hi, F⟩
    obtain ⟨m, hns⟩ := F.ns
    obtain ⟨ys, hl, hr⟩ := F.list
    by_cases hlt : i < items.length
    · refine it.walks.item i s' _ _ hlt F.st fun v h₂ tk₂ hP hst₂ hk₂ => ?_
      have eI : Heap.ExtBut I s'.heap h₂ := fun b o hb e => hk₂ b o (by simpa using hb) e
      have K₂ : Kept W s₁ { s' with heap := h₂, toks := tk₂ } := F.kept.own eI it.new (nT I (by simp))
      refine wpAny_assign_Name (wpAny_storeName_local hCk (hns.extBut eI (Ne.symm hIC)) (fun h₃ hn₃ hs₃ => ?_) (by simp [compEnvC, relabel, hkind]))
      have K₃ : Kept W s₁ { s' with heap := h₃, toks := tk₂ + 1 } := K₂.own (s := { s' with heap := h₂, toks := tk₂ }) hs₃.extBut (hN C (by simp)) (nT C (by simp))
      have hl₃ : h₃.IsList D ys.toArray := (hl.extBut eI (Ne.symm hID)).extBut hs₃.extBut (by exact hDC)
      have hr₃ : RdAll ([C, D, I] ++ W) { s' with heap := h₃, toks := tk₂ + 1 } ys (((items.take i).filter p).map f) :=
        (hr.own (k := tk₂) eI (by simp)).own (s := { s' with heap := h₂, toks := tk₂ }) (k := tk₂ + 1) hs₃.extBut (by show C ∈ _; simp)
      have hst₃ : St (i + 1) h₃ := it.walks.frame _ _ _ hst₂ fun b hb o e => hs₃.extBut b o (srcOff b hb).1 e
      obtain ⟨d, hd, rd⟩ := it.item i v hP
      have hmem : d ∈ items := List.mem_of_getElem? hd
      have live₃ : ∀ a ∈ [C, D, I], ∃ o, h₃.get? a = some o := fun a ha => by
        simp only [List.mem_cons, List.not_mem_nil, or_false] at ha
        rcases ha with rfl | rfl | rfl
        · obtain ⟨o, _, _, e, _⟩ := hn₃; exact ⟨o, e⟩
        · obtain ⟨o, e, _⟩ := hl₃; exact ⟨o, e⟩
        · obtain ⟨o, _, e, _⟩ := it.shape _ _ hst₃; exact ⟨o, e⟩
      have wo : Wo g A (compEnvC scope cl C env) ((x, d) :: ρc) ([C, D, I] ++ W) { s' with heap := h₃, toks := tk₂ + 1 } :=
        ⟨w₁.wd.grow K₃ hN live₃, w₁.fs.grow K₃, Vs.cons (.loc _ hCk (nT C (by simp)) hn₃ (by simp)) (rd.grow K₃.keep hN) (hcap C _ _ (w₁.vs.grow K₃ hN))⟩
      have take1 : items.take (i + 1) = items.take i ++ [d] := by rw [List.take_add_one, hd]; rfl
      -- what is kept behind a pure step
      have stay : ∀ s₅, Kept ([C, D, I] ++ W) { s' with heap := h₃, toks := tk₂ + 1 } s₅ → Fill g W s₁ C D I St (i + 1) (((items.take i).filter p).map f) s₅ := fun s₅ k₅ => by
        refine ⟨K₃.inner k₅ hN, ⟨_, Ns.kept hn₃ k₅ (nT C (by simp))⟩, ⟨ys, List.kept hl₃ k₅ (nT D (by simp)), hr₃.kept k₅⟩, it.walks.frame _ _ _ hst₃ fun b hb o e => ?_⟩
        rcases it.src b hb with rfl | ⟨hbW, o', e'⟩
        · obtain ⟨o2, vs2, e2, ed⟩ := it.shape _ _ hst₃
          rw [e2] at e; cases e
          exact k₅.exact (nT _ (by simp)) e2 fun es ep q => by rw [ed] at q; cases q
        · refine k₅.keep b o (fun hm => ?_) e
          rcases List.mem_append.mp hm with hm | hm
          · rw [hN b hm] at e'; cases e'
          · exact hbW hm
      have fin : ∀ s₅ s₆ y, Kept ([C, D, I] ++ W) { s' with heap := h₃, toks := tk₂ + 1 } s₅ → p d = true → Kept ([C, D, I] ++ W) s₅ s₆ → Rd ([C, D, I] ++ W) s₆ y (f d) → ∀ E', wpAny g.M A (call (.builtin "list.append") [.ref D, y])
          (fun _ s₅ => ∃ m, m < items.length + 1 - i ∧ ∃ i, m = items.length + 1 - i ∧ i ≤ items.length ∧ Fill g W s₁ C D I St i (((items.take i).filter p).map f) s₅) E' s₆ := fun s₅ s₆ y k₅ hp k₆ ry E' => by
        have F₆ := stay s₆ (k₅.trans k₆)
        obtain ⟨m₆, hn₆⟩ := F₆.ns
        obtain ⟨ys', hl₆, hr₆⟩ := F₆.list
        have hlen : ys'.length ≤ sizeLine := by
          rw [hr₆.length, List.length_map]
          have h1 : ((items.take i).filter p).length ≤ (items.take i).length := List.length_filter_le _ _
          have h2 : (items.take i).length ≤ items.length := by rw [List.length_take]; lia
          lia
        refine list_sz hl₆ hlen fun h₇ hl₇ hs₇ => ⟨items.length + 1 - (i + 1), by lia, i + 1, rfl, hlt, ?_⟩
        refine ⟨F₆.kept.own (k := s₆.toks) hs₇.extBut (hN D (by simp)) (nT D (by simp)), ⟨_, hn₆.sameBut hs₇ (Ne.symm hDC)⟩, ⟨ys' ++ [y], hl₇, ?_⟩, it.walks.frame _ _ _ F₆.st fun b hb o e => hs₇.extBut b o (srcOff b hb).2 e⟩
        rw [take1, List.filter_append, List.map_append]
        simp only [List.filter_cons, hp, if_true, List.filter_nil, List.map_cons, List.map_nil]
        exact (hr₆.snoc ry).own (k := s₆.toks) hs₇.extBut (by simp)
      have elt : ∀ s₅, Kept ([C, D, I] ++ W) { s' with heap := h₃, toks := tk₂ + 1 } s₅ → p d = true → ∀ E', wpAny g.M A (eval elt (compEnvC scope cl C env)) (fun y s₆ => wpAny g.M A (call (.builtin "list.append") [.ref D, y])
          (fun _ s₅ => ∃ m, m < items.length + 1 - i ∧ ∃ i, m = items.length + 1 - i ∧ i ≤ items.length ∧ Fill g W s₁ C D I St i (((items.take i).filter p).map f) s₅) E' s₆) E' s₅ := fun s₅ k₅ hp E' =>
        (helt C d hmem hp).run _ s₅ (wo.kept k₅) E' _ fun y s₆ k₆ r₆ => fin s₅ s₆ y k₅ hp k₆ r₆ E'
      rcases hif with ⟨rfl, hall⟩ | ⟨c, rfl, hc⟩
      · rw [List.forIn_nil]
        refine wpAny_pure ?_
        rw [if_pos rfl]
        exact elt _ (.refl ..) (hall d hmem) _
      · refine wpAny_tests_one ((hc C d hmem).run _ _ wo _ _ fun s₅ k₅ => ?_)
        cases hp : p d with
        | false =>
          rw [if_neg (by simp)]
          refine ⟨items.length + 1 - (i + 1), by lia, i + 1, rfl, hlt, ?_⟩
          rw [take1, List.filter_append]
          simp only [List.filter_cons, hp, List.filter_nil, List.append_nil, Bool.false_eq_true, if_false]
          exact stay s₅ k₅
        | true =>
          rw [if_pos rfl]
          exact elt s₅ k₅ hp _
    · have hin : i = items.length := by lia
      subst hin
      refine it.walks.done s' _ _ F.st fun h₂ tk₂ hk₂ => ?_
      have eI : Heap.ExtBut I s'.heap h₂ := fun b o hb e => hk₂ b o (by simpa using hb) e
      have K₂ : Kept W s₁ { s' with heap := h₂, toks := tk₂ } := F.kept.own eI it.new (nT I (by simp))
      have hr₂ := hr.own (k := tk₂) eI (by simp)
      rw [List.take_length] at hr₂
      refine h C D _ ?_ (k₁.trans K₂) ⟨_, hns.extBut eI (Ne.symm hIC)⟩ ?_
      · cases e : s.heap.get? C with
        | none => rfl
        | some o =>
          have : ∃ o', s₁.heap.get? C = some o' := by
            by_cases hT : C = tT
            · exact ⟨_, (w₁.wd.tab).choose_spec.1 |> fun e => by rw [hT]; exact e⟩
            · by_cases hw : C ∈ W
              · obtain ⟨sl, e', _⟩ := k₁.slots C o hw hT e; exact ⟨_, e'⟩
              · exact ⟨_, k₁.keep C o hw e⟩
          obtain ⟨o', e'⟩ := this
          rw [f₁ C (by lia)] at e'; cases e'
      · refine Rd.list_mk (s := { s' with heap := h₂, toks := tk₂ }) (hl.extBut eI (Ne.symm hID)) (fun hm => ?_) (hr₂.less fun a ha => ?_)
        · rcases List.mem_append.mp hm with hm | hm
          · exact hDC (by simpa using hm)
          · obtain ⟨o, e⟩ := w₁.wd.live D hm
            rw [hN D (by simp)] at e; cases e
        · rcases List.mem_append.mp ha with ha | ha
          · exact List.mem_append_left _ (by simp only [List.mem_cons, List.not_mem_nil, or_false] at ha ⊢; exact .inl ha)
          · exact List.mem_append_right _ ha
  exact codeAny_compStart_list loop (it.walks.self 0 _ _ _ hst₁ loop)
end
end Mine

/- Ex6 -/
namespace Mine
open PySem PySem.W PySem.Calls PySem.Spec PyProof.Rows
set_option Elab.async false
set_option linter.unusedVariables false

section
variable {prog : Program} {w : World} {A : Around} {R : Result → Shared → Prop} {s : Shared} {elt t1 i1 t2 i2 : Expr} {scope : Scope} {pos : Pos} {it acc : Value} {env : Env}

theorem turn_in : compTurn (.ListComp elt [⟨t1, i1, [], 0⟩, ⟨t2, i2, [], 0⟩] scope pos) 1 it acc env = (standAt i2.pos >>= fun _ => pyNext it >>= fun r => match r with
      | none => pure (.done .next)
      | some v => letOwnedTupleGo t2 it v >>= fun _ => assign t2 env v >>= fun _ =>
        (eval elt env >>= fun x => call (.builtin "list.append") [acc, x] >>= fun _ => pure ()) >>= fun _ =>
          again (.compLoop (.ListComp elt [⟨t1, i1, [], 0⟩, ⟨t2, i2, [], 0⟩] scope pos) 1 it acc env)) := by rfl
theorem turn_out : compTurn (.ListComp elt [⟨t1, i1, [], 0⟩, ⟨t2, i2, [], 0⟩] scope pos) 0 it acc env = (standAt i1.pos >>= fun _ => pyNext it >>= fun r => match r with
      | none => pure (.done .next)
      | some v => letOwnedTupleGo t1 it v >>= fun _ => assign t1 env v >>= fun _ => eval i2 env >>= fun x => standAt i2.pos >>= fun _ => foldedSetIterable i2 env x >>= fun x =>
          holding [x] (pyIter x) >>= fun it2 => runOwn (.compStart (.ListComp elt [⟨t1, i1, [], 0⟩, ⟨t2, i2, [], 0⟩] scope pos) 1 it2 acc env) env >>= fun _ =>
          again (.compLoop (.ListComp elt [⟨t1, i1, [], 0⟩, ⟨t2, i2, [], 0⟩] scope pos) 0 it acc env)) := by rfl

theorem loop_in (I : Nat → Shared → Prop) (ht : ∀ v, letOwnedTupleGo t2 it v = pure ())
    (turn : ∀ n s, I n s → ∀ E, wpAny (model prog w) A (pyNext it) (fun r s₁ => match r with
      | none => R (.ok .next) s₁
      | some v => wpAny (model prog w) A (assign t2 env v) (fun _ s₂ => wpAny (model prog w) A (eval elt env) (fun x s₃ =>
          wpAny (model prog w) A (call (.builtin "list.append") [acc, x]) (fun _ s₄ => ∃ m, m < n ∧ I m s₄) E s₃) E s₂) E s₁) E s)
    (n : Nat) (h : I n s) : codeAny (model prog w) A (.compLoop (.ListComp elt [⟨t1, i1, [], 0⟩, ⟨t2, i2, [], 0⟩] scope pos) 1 it acc env) R s := by
  refine codeAny_loop rfl I (fun n s hI => ?_) n h
  show wpAny _ _ ((compTurn (.ListComp elt [⟨t1, i1, [], 0⟩, ⟨t2, i2, [], 0⟩] scope pos) 1 it acc env).onRaise (fun x => do noteFrame x env; theTreesLotGoes x)) _ _ s
  refine wpAny_noted ?_
  rw [turn_in]
  refine wpAny_bind (wpAny_standAt (wpAny_bind (wpAny_mono (turn n s hI _) (fun r s₁ h₁ => ?_) fun _ _ x => x)))
  cases r with
  | none => exact wpAny_pure h₁
  | some v =>
    refine wpAny_bind (wpAny_of_eq (ht v) (wpAny_bind (wpAny_mono h₁ (fun _ s₂ h₂ => wpAny_bind (wpAny_bind (wpAny_mono h₂ (fun x s₃ h₃ => wpAny_bind (wpAny_mono h₃ (fun _ s₄ h₄ => ?_) fun _ _ x => x)) fun _ _ x => x))) fun _ _ x => x)))
    exact wpAny_pure (wpAny_pure ⟨rfl, h₄⟩)

theorem loop_out (I : Nat → Shared → Prop) (ht : ∀ v, letOwnedTupleGo t1 it v = pure ()) (hf : ∀ x, foldedSetIterable i2 env x = pure x)
    (turn : ∀ n s, I n s → ∀ E, wpAny (model prog w) A (pyNext it) (fun r s₁ => match r with
      | none => R (.ok .next) s₁
      | some v => wpAny (model prog w) A (assign t1 env v) (fun _ s₂ => wpAny (model prog w) A (eval i2 env) (fun x s₃ =>
          wpAny (model prog w) A (pyIter x) (fun it2 s₄ => codeAny (model prog w) A (.compStart (.ListComp elt [⟨t1, i1, [], 0⟩, ⟨t2, i2, [], 0⟩] scope pos) 1 it2 acc env)
            (fun r s₅ => match r with | .ok _ => ∃ m, m < n ∧ I m s₅ | .error _ => False) s₄) E s₃) E s₂) E s₁) E s)
    (n : Nat) (h : I n s) : codeAny (model prog w) A (.compLoop (.ListComp elt [⟨t1, i1, [], 0⟩, ⟨t2, i2, [], 0⟩] scope pos) 0 it acc env) R s := by
  refine codeAny_loop rfl I (fun n s hI => ?_) n h
  show wpAny _ _ ((compTurn (.ListComp elt [⟨t1, i1, [], 0⟩, ⟨t2, i2, [], 0⟩] scope pos) 0 it acc env).onRaise (fun x => do noteFrame x env; theTreesLotGoes x)) _ _ s
  refine wpAny_noted ?_
  rw [turn_out]
  refine wpAny_bind (wpAny_standAt (wpAny_bind (wpAny_mono (turn n s hI _) (fun r s₁ h₁ => ?_) fun _ _ x => x)))
  cases r with
  | none => exact wpAny_pure h₁
  | some v =>
    refine wpAny_bind (wpAny_of_eq (ht v) (wpAny_bind (wpAny_mono h₁ (fun _ s₂ h₂ => wpAny_bind (wpAny_mono h₂ (fun x s₃ h₃ => wpAny_bind (wpAny_standAt ?_)) fun _ _ x => x)) fun _ _ x => x)))
    refine wpAny_bind (wpAny_of_eq (hf x) (wpAny_bind (wpAny_holding (wpAny_mono h₃ (fun it2 s₄ h₄ => wpAny_bind (wpAny_runOwn (codeAny_mono h₄ fun r s₅ hr => ?_))) fun _ _ x => x))))
    cases r with
    | ok f => exact wpAny_pure ⟨rfl, hr⟩
    | error e => exact hr.elim

theorem start_in (h0 : codeAny (model prog w) A (.compLoop (.ListComp elt [⟨t1, i1, [], 0⟩, ⟨t2, i2, [], 0⟩] scope pos) 1 it acc env) R s)
    (h : ∀ E, wpAny (model prog w) A (pyIter it) (fun it' s' => codeAny (model prog w) A (.compLoop (.ListComp elt [⟨t1, i1, [], 0⟩, ⟨t2, i2, [], 0⟩] scope pos) 1 it' acc env) R s') E s) :
    codeAny (model prog w) A (.compStart (.ListComp elt [⟨t1, i1, [], 0⟩, ⟨t2, i2, [], 0⟩] scope pos) 1 it acc env) R s := by
  refine codeAny_of_tree ?_
  show wpAny _ _ ((compStart (.ListComp elt [⟨t1, i1, [], 0⟩, ⟨t2, i2, [], 0⟩] scope pos) 1 it acc env).onRaise (fun x => do noteFrame x env; standAt theWindowsPlace)) _ _ s
  refine wpAny_notedAt ?_
  have e : compStart (.ListComp elt [⟨t1, i1, [], 0⟩, ⟨t2, i2, [], 0⟩] scope pos) 1 it acc env = (ask >>= fun st => if st.params.followText "comprehension-iter-twice" = true then again (.compLoop (.ListComp elt [⟨t1, i1, [], 0⟩, ⟨t2, i2, [], 0⟩] scope pos) 1 it acc env)
      else rule "comprehension.iter-twice" >>= fun _ => standAt i2.pos >>= fun _ => pyIter it >>= fun it' => again (.compLoop (.ListComp elt [⟨t1, i1, [], 0⟩, ⟨t2, i2, [], 0⟩] scope pos) 1 it' acc env)) := by rfl
  rw [e]
  refine wpAny_bind (wpAny_askSetting (wpAny_ite ?_))
  split
  · exact wpAny_pure ⟨rfl, h0⟩
  · exact wpAny_bind (wpAny_rule (wpAny_bind (wpAny_standAt (wpAny_bind (wpAny_mono (h _) (fun it' s' h' => wpAny_pure ⟨rfl, h'⟩) fun _ _ x => x)))))
end
end Mine

/- Ex7 -/
namespace Mine
open PySem PySem.W PySem.Calls PySem.Spec PyProof.Rows
set_option Elab.async false
set_option linter.unusedVariables false

section
variable {g : Gd} {A : Around} {env : Env} {ρ ρc : List (Str × PyData)} {pos : Pos}

/-- the invariant of an inner filling loop -/
structure Fill2 (g : Gd) (W : List Addr) (s₁ sB : Shared) (C D I J : Addr) (St St2 : Nat → Heap → Prop) (x : Str) (vx : Value) (i j : Nat) (outs : List PyData) (s' : Shared) : Prop where
  kept : Kept W s₁ s'
  keepB : ∀ b o, b ∉ [C, D, I] ++ W → sB.heap.get? b = some o → s'.heap.get? b = some o
  ns : ∃ m, s'.heap.Ns C m ∧ m x = some vx
  list : ∃ ys : List Value, s'.heap.IsList D ys.toArray ∧ RdAll ([J] ++ ([C, D, I] ++ W)) s' ys outs
  st : St i s'.heap
  st2 : St2 j s'.heap

theorem flat_len {items : List PyData} {F : PyData → List PyData} {i j : Nat} {d : PyData} (hd : items[i]? = some d) (hT : (items.flatMap F).length ≤ sizeLine) : ((items.take i).flatMap F ++ (F d).take j).length ≤ sizeLine := by
  have hlt := (List.getElem?_eq_some_iff.mp hd).1
  have e : items = items.take i ++ d :: items.drop (i + 1) := by
    conv => lhs; rw [← List.take_append_drop i items]
    rw [List.drop_eq_getElem_cons hlt, (List.getElem?_eq_some_iff.mp hd).2]
  rw [e, List.flatMap_append, List.flatMap_cons] at hT
  simp only [List.length_append, List.length_take] at hT ⊢
  lia

theorem core_comp2 {elt i1 i2 : Expr} {x y : Str} {px py : Pos} {scope : Scope} {cl : List (Str × Addr)} {items : List PyData} {inner : PyData → List PyData} {f : PyData → PyData → PyData} (hh : A.handled = none)
    (hkind : scope.kind = .function) (hcell : ∀ y ∈ scope.names, y.2 ≠ .cell) (hx : scope.names.lookup x = some .local) (hy : scope.names.lookup y = some .local) (hxy : x ≠ y)
    (hit : It g A env ρ i1 items) (hcap : ∀ C W s, Vs env ρ W s → Vs (compEnvC scope cl C env) ρc W s)
    (hin : ∀ C, ∀ d ∈ items, It g A (compEnvC scope cl C env) ((x, d) :: ρc) i2 (inner d))
    (helt : ∀ C, ∀ d ∈ items, ∀ e ∈ inner d, Ex g A (compEnvC scope cl C env) ((y, e) :: (x, d) :: ρc) elt (f d e)) (hz : (items.flatMap fun d => (inner d).map (f d)).length ≤ sizeLine)
    (hs2 : ∀ C x, foldedSetIterable i2 (compEnvC scope cl C env) x = pure x := by intro _ _; rfl) :
    Core g A env ρ i1 scope cl (.ListComp elt [⟨.Name x px, i1, [], 0⟩, ⟨.Name y py, i2, [], 0⟩] scope pos) (items.flatMap fun d => (inner d).map (f d)) := fun W s w PP E h => by
  refine hit.run W s w E _ fun xv s₁ k₁ hiter => hiter E _ fun I s₂ fp P St k₂ it => ?_
  have w₁ := w.kept k₁
  refine wpAny_newObj_type (wpAny_newFunctionEnv hcell (by intro y hy; simp at hy) (fun h₁ hns₁ hsb₁ => ?_) hkind)
  dsimp only at hns₁ hsb₁ ⊢
  generalize hH2 : s₂.heap.push { cls := .type "list", dict := none, data := .seq ([] : List Value).toArray } = H2 at hns₁ hsb₁ ⊢
  generalize hCd : H2.objs.size = C at hns₁ hsb₁ ⊢
  generalize hDd : s₂.heap.objs.size = D at hns₁ hsb₁ ⊢
  have hC : @Eq Nat C (D + 1) := by rw [← hCd, ← hH2, Heap.size_push, hDd]
  have hDC : D ≠ C := neN (by lia)
  have f₂ : ∀ a : Nat, @LE.le Nat _ D a → s₂.heap.get? a = none := fun a ha => Heap.get?_none_of_le (hDd ▸ ha)
  have f₁ : ∀ a : Nat, @LE.le Nat _ D a → s₁.heap.get? a = none := fun a ha => by
    cases e : s₁.heap.get? a with
    | none => rfl
    | some o =>
      have : ∃ o', s₂.heap.get? a = some o' := by
        by_cases hT : a = tT
        · subst hT; obtain ⟨ps, e', _⟩ := k₂.tab w₁.wd.tab; exact ⟨_, e'⟩
        · by_cases hw : a ∈ W
          · obtain ⟨sl, e', _⟩ := k₂.slots a o hw hT e; exact ⟨_, e'⟩
          · exact ⟨_, k₂.keep a o hw e⟩
      obtain ⟨o', e'⟩ := this
      rw [f₂ a ha] at e'; cases e'
  have hI₂ : @LT.lt Nat _ I D := by obtain ⟨o, vs, e, _⟩ := it.shape 0 _ it.start; rw [← hDd]; exact Heap.lt_size e
  have hIC : I ≠ C := neN (by lia)
  have hID : I ≠ D := neN (by lia)
  have hN : ∀ a ∈ [C, D, I], s₁.heap.get? a = none := fun a ha => by
    simp only [List.mem_cons, List.not_mem_nil, or_false] at ha
    rcases ha with rfl | rfl | rfl
    · exact f₁ _ (by lia)
    · exact f₁ _ (Nat.le_refl _)
    · exact it.new
  have nT : ∀ a ∈ [C, D, I], a ≠ tT := fun a ha => w₁.wd.ne_T (hN a ha)
  have old : ∀ b o, s₂.heap.get? b = some o → h₁.get? b = some o := fun b o e => by
    have hb : @LT.lt Nat _ b D := hDd ▸ Heap.lt_size e
    exact hsb₁.extBut b o (neN (by lia)) (Heap.get?_push_of_some _ (hH2 ▸ Heap.get?_push_of_some _ e))
  have hacc : h₁.IsList D ([] : List Value).toArray := ⟨_, hsb₁.extBut _ _ hDC (Heap.get?_push_of_some _ (hH2 ▸ hDd ▸ Heap.get?_push_size _ rfl)), rfl, _, rfl⟩
  have hst₁ : St 0 h₁ := it.walks.frame _ _ _ it.start fun b _ o e => old b o e
  have srcOff : ∀ b ∈ fp, b ≠ C ∧ b ≠ D := fun b hb => by
    rcases it.src b hb with rfl | ⟨_, o, e⟩
    · exact ⟨hIC, hID⟩
    · exact ⟨(fun q => by rw [q, f₁ C (by lia)] at e; cases e), (fun q => by rw [q, f₁ D (Nat.le_refl _)] at e; cases e)⟩
  have hCk : (compEnvC scope cl C env).kindOf x = some .local := lookup_relabel_local hx
  have hCy : (compEnvC scope cl C env).kindOf y = some .local := lookup_relabel_local hy
  have hplain : ((compEnvC scope cl C env).scope.kind == .class || ((compEnvC scope cl C env).scope.kind == .module && (compEnvC scope cl C env).locals != (compEnvC scope cl C env).globals)) = false := by simp [compEnvC, relabel, hkind]
  have loop : codeAny g.M A (.compLoop (.ListComp elt [⟨.Name x px, i1, [], 0⟩, ⟨.Name y py, i2, [], 0⟩] scope pos) 0 (.ref I) (.ref D) (compEnvC scope cl C env))
      (PP (.ref D) C) { s₂ with heap := h₁, toks := s₂.toks + ([] : List (Str × Value)).length } := by
    refine loop_out (fun k s' => ∃ i, k = items.length + 1 - i ∧ i ≤ items.length ∧ Fill g W s₁ C D I St i ((items.take i).flatMap fun d => (inner d).map (f d)) s') (fun _ => rfl) (hs2 C) ?_ (items.length + 1)
      ⟨0, by lia, Nat.zero_le _, k₂.trans (.keeps old), ⟨_, hns₁⟩, ⟨[], hacc, by simpa using RdAll.nil⟩, hst₁⟩
    rintro k s' ⟨i, rfl, hi, F⟩ E'
    obtain ⟨m, hns⟩ := F.ns
    obtain ⟨ys, hl, hr⟩ := F.list
    by_cases hlt : i < items.length
    · refine it.walks.item i s' _ _ hlt F.st fun v h₂ tk₂ hP hst₂ hk₂ => ?_
      have eI : Heap.ExtBut I s'.heap h₂ := fun b o hb e => hk₂ b o (by simpa using hb) e
      have K₂ : Kept W s₁ { s' with heap := h₂, toks := tk₂ } := F.kept.own eI it.new (nT I (by simp))
      refine wpAny_assign_Name (wpAny_storeName_local hCk (hns.extBut eI (Ne.symm hIC)) (fun h₃ hn₃ hs₃ => ?_) hplain)
      have K₃ : Kept W s₁ { s' with heap := h₃, toks := tk₂ + 1 } := K₂.own (s := { s' with heap := h₂, toks := tk₂ }) hs₃.extBut (hN C (by simp)) (nT C (by simp))
      have hl₃ : h₃.IsList D ys.toArray := (hl.extBut eI (Ne.symm hID)).extBut hs₃.extBut (by exact hDC)
      have hr₃ : RdAll ([C, D, I] ++ W) { s' with heap := h₃, toks := tk₂ + 1 } ys ((items.take i).flatMap fun d => (inner d).map (f d)) :=
        (hr.own (k := tk₂) eI (by simp)).own (s := { s' with heap := h₂, toks := tk₂ }) (k := tk₂ + 1) hs₃.extBut (by show C ∈ _; simp)
      have hst₃ : St (i + 1) h₃ := it.walks.frame _ _ _ hst₂ fun b hb o e => hs₃.extBut b o (srcOff b hb).1 e
      obtain ⟨d, hd, rd⟩ := it.item i v hP
      have hmem : d ∈ items := List.mem_of_getElem? hd
      have live : ∀ {h : Heap}, (∃ m, h.Ns C m) → (∃ its, h.IsList D its) → St (i + 1) h → ∀ a ∈ [C, D, I], ∃ o, h.get? a = some o := fun hn hl hst a ha => by
        simp only [List.mem_cons, List.not_mem_nil, or_false] at ha
        rcases ha with rfl | rfl | rfl
        · obtain ⟨_, o, _, _, e, _⟩ := hn; exact ⟨o, e⟩
        · obtain ⟨_, o, e, _⟩ := hl; exact ⟨o, e⟩
        · obtain ⟨o, _, e, _⟩ := it.shape _ _ hst; exact ⟨o, e⟩
      have wo : ∀ s₅, Kept W s₁ s₅ → (∃ m, s₅.heap.Ns C m ∧ m x = some v) → (∃ its, s₅.heap.IsList D its) → St (i + 1) s₅.heap → Wo g A (compEnvC scope cl C env) ((x, d) :: ρc) ([C, D, I] ++ W) s₅ := fun s₅ K₅ ⟨m₅, hn₅, hv₅⟩ hl₅ hst₅ =>
        ⟨w₁.wd.grow K₅ hN (live ⟨_, hn₅⟩ hl₅ hst₅), w₁.fs.grow K₅, Vs.cons (.loc _ hCk (nT C (by simp)) hn₅ hv₅) (rd.grow K₅.keep hN) (hcap C _ _ (w₁.vs.grow K₅ hN))⟩
      have wo₃ := wo { s' with heap := h₃, toks := tk₂ + 1 } K₃ ⟨_, hn₃, by simp⟩ ⟨_, hl₃⟩ hst₃
      have take1 : items.take (i + 1) = items.take i ++ [d] := by rw [List.take_add_one, hd]; rfl
      -- the source of I stays behind a pure step
      have stayI : ∀ {N : List Addr} {s₅ s₆ : Shared}, (∀ a ∈ N, s₁.heap.get? a = none) → Kept (N ++ ([C, D, I] ++ W)) s₅ s₆ → St (i + 1) s₅.heap → St (i + 1) s₆.heap := fun {N s₅ s₆} hN' k₅ hst => by
        refine it.walks.frame _ _ _ hst fun b hb o e => ?_
        rcases it.src b hb with rfl | ⟨hbW, o', e'⟩
        · obtain ⟨o2, vs2, e2, ed⟩ := it.shape _ _ hst
          rw [e2] at e; cases e
          exact k₅.exact (nT _ (by simp)) e2 fun es ep q => by rw [ed] at q; cases q
        · refine k₅.keep b o (fun hm => ?_) e
          rcases List.mem_append.mp hm with hm | hm
          · rw [hN' b hm] at e'; cases e'
          · rcases List.mem_append.mp hm with hm | hm
            · rw [hN b hm] at e'; cases e'
            · exact hbW hm
      refine (hin C d hmem).run _ _ wo₃ _ _ fun xv2 sB kB hiter2 => hiter2 _ _ fun J s₄ fp2 P2 St2 k₄ it2 => ?_
      have KB : Kept W s₁ sB := K₃.inner kB hN
      have hnB : ∃ m, sB.heap.Ns C m ∧ m x = some v := ⟨fun z => if z = x then some v else m z, Ns.kept hn₃ kB (nT C (by simp)), by simp⟩
      have hlB : sB.heap.IsList D ys.toArray := List.kept hl₃ kB (nT D (by simp))
      have hstB : St (i + 1) sB.heap := stayI (N := []) (fun _ h => nomatch h) kB hst₃
      have woB := wo sB KB hnB ⟨_, hlB⟩ hstB
      have hJ₁ : s₁.heap.get? J = none := by
        cases e : s₁.heap.get? J with
        | none => rfl
        | some o =>
          have : ∃ o', sB.heap.get? J = some o' := by
            by_cases hT : J = tT
            · subst hT; obtain ⟨ps, e', _⟩ := woB.wd.tab; exact ⟨_, e'⟩
            · by_cases hw : J ∈ W
              · obtain ⟨sl, e', _⟩ := KB.slots J o hw hT e; exact ⟨_, e'⟩
              · exact ⟨_, KB.keep J o hw e⟩
          obtain ⟨o', e'⟩ := this
          rw [it2.new] at e'; cases e'
      have hJN : ∀ a ∈ [J], s₁.heap.get? a = none := fun a ha => by obtain rfl : a = J := (by simpa using ha); exact hJ₁
      have hJB : ∀ a ∈ [J], sB.heap.get? a = none := fun a ha => by obtain rfl : a = J := (by simpa using ha); exact it2.new
      have JT : J ≠ tT := w₁.wd.ne_T hJ₁
      have liveB := live (h := sB.heap) (let ⟨m, a, _⟩ := hnB; ⟨m, a⟩) ⟨_, hlB⟩ hstB
      have hJoff : J ∉ [C, D, I] := fun hm => by obtain ⟨o, e⟩ := liveB J hm; rw [it2.new] at e; cases e
      have hJC : J ≠ C := fun q => hJoff (by simp [q])
      have hJD : J ≠ D := fun q => hJoff (by simp [q])
      have hJI : J ≠ I := fun q => hJoff (by simp [q])
      have srcOffJ : ∀ b ∈ fp, b ≠ J := fun b hb => by
        rcases it.src b hb with rfl | ⟨_, o, e⟩
        · exact Ne.symm hJI
        · exact fun q => by rw [q, hJ₁] at e; cases e
      have srcOff2 : ∀ b ∈ fp2, b ≠ C ∧ b ≠ D ∧ b ≠ I := fun b hb => by
        rcases it2.src b hb with rfl | ⟨hbW, _⟩
        · exact ⟨hJC, hJD, hJI⟩
        · exact ⟨fun q => hbW (by simp [q]), fun q => hbW (by simp [q]), fun q => hbW (by simp [q])⟩
      -- the inner loop
      have inner_loop : codeAny g.M A (.compLoop (.ListComp elt [⟨.Name x px, i1, [], 0⟩, ⟨.Name y py, i2, [], 0⟩] scope pos) 1 (.ref J) (.ref D) (compEnvC scope cl C env))
          (fun r s₅ => match r with | .ok _ => ∃ m, m < items.length + 1 - i ∧ ∃ i, m = items.length + 1 - i ∧ i ≤ items.length ∧ Fill g W s₁ C D I St i ((items.take i).flatMap fun d => (inner d).map (f d)) s₅ | .error _ => False) s₄ := by
        have hns₄ : ∃ m, s₄.heap.Ns C m ∧ m x = some v := let ⟨m, a, b⟩ := hnB; ⟨m, Ns.kept a k₄ (nT C (by simp)), b⟩
        have hr₄ : RdAll ([J] ++ ([C, D, I] ++ W)) s₄ ys ((items.take i).flatMap fun d => (inner d).map (f d)) := (hr₃.kept kB).grow k₄.keep hJB
        refine loop_in (fun k s' => ∃ j, k = (inner d).length + 1 - j ∧ j ≤ (inner d).length ∧ Fill2 g W s₁ sB C D I J St St2 x v (i + 1) j (((items.take i).flatMap fun d => (inner d).map (f d)) ++ ((inner d).map (f d)).take j) s') (fun _ => rfl) ?_ ((inner d).length + 1)
          ⟨0, by lia, Nat.zero_le _, KB.inner k₄ hN, k₄.keep, hns₄, ⟨ys, List.kept hlB k₄ (nT D (by simp)), by simpa using hr₄⟩, stayI (N := []) (fun _ h => nomatch h) k₄ hstB, it2.start⟩
        rintro k s₅ ⟨j, rfl, hj, F₅⟩ E''
        obtain ⟨m₅, hns₅, hvx₅⟩ := F₅.ns
        obtain ⟨zs, hl₅, hr₅⟩ := F₅.list
        by_cases hjt : j < (inner d).length
        · refine it2.walks.item j s₅ _ _ hjt F₅.st2 fun u h₆ tk₆ hP6 hst₆ hk₆ => ?_
          have eJ : Heap.ExtBut J s₅.heap h₆ := fun b o hb e => hk₆ b o (by simpa using hb) e
          have K₆ : Kept W s₁ { s₅ with heap := h₆, toks := tk₆ } := F₅.kept.own eJ hJ₁ JT
          refine wpAny_assign_Name (wpAny_storeName_local hCy (hns₅.extBut eJ (Ne.symm hJC)) (fun h₇ hn₇ hs₇ => ?_) hplain)
          have K₇ : Kept W s₁ { s₅ with heap := h₇, toks := tk₆ + 1 } := K₆.own (s := { s₅ with heap := h₆, toks := tk₆ }) hs₇.extBut (hN C (by simp)) (nT C (by simp))
          have hl₇ : h₇.IsList D zs.toArray := (hl₅.extBut eJ (Ne.symm hJD)).extBut hs₇.extBut (by exact hDC)
          have hr₇ := (hr₅.own (k := tk₆) eJ (by simp)).own (s := { s₅ with heap := h₆, toks := tk₆ }) (k := tk₆ + 1) hs₇.extBut (by show C ∈ _; simp)
          have hst₇ : St (i + 1) h₇ := it.walks.frame _ _ _ F₅.st fun b hb o e => hs₇.extBut b o (srcOff b hb).1 (eJ b o (srcOffJ b hb) e)
          have hst2₇ : St2 (j + 1) h₇ := it2.walks.frame _ _ _ hst₆ fun b hb o e => hs₇.extBut b o (srcOff2 b hb).1 e
          have hB₇ : ∀ b o, b ∉ [C, D, I] ++ W → sB.heap.get? b = some o → h₇.get? b = some o := fun b o hb e => by
            have e₅ := F₅.keepB b o hb e
            refine hs₇.extBut b o (fun q => hb (by simp [show b = C from q])) (eJ b o (fun q => ?_) e₅)
            rw [q, it2.new] at e; cases e
          obtain ⟨e, he, re⟩ := it2.item j u hP6
          have hvx₇ : (fun z => if z = y then some u else m₅ z) x = some v := by simp [hxy, hvx₅]
          have wo₇ := wo { s₅ with heap := h₇, toks := tk₆ + 1 } K₇ ⟨_, hn₇, hvx₇⟩ ⟨_, hl₇⟩ hst₇
          have liveJ : ∀ a ∈ [J], ∃ o, h₇.get? a = some o := fun a ha => by
            obtain rfl : a = J := by simpa using ha
            obtain ⟨o, _, e, _⟩ := it2.shape _ _ hst2₇; exact ⟨o, e⟩
          have kn : Known g (hideAll h₇ ([J] ++ ([C, D, I] ++ W))) := woB.wd.known.keeps (hide_grow hB₇ hJB)
          have wo₈ : Wo g A (compEnvC scope cl C env) ((y, e) :: (x, d) :: ρc) ([J] ++ ([C, D, I] ++ W)) { s₅ with heap := h₇, toks := tk₆ + 1 } := by
            refine ⟨⟨List.mem_append_right _ wo₇.wd.tW, wo₇.wd.tab, fun a ha => (List.mem_append.mp ha).elim (liveJ a) (wo₇.wd.live a), kn, (Mk.iff (N := [J]) fun a ha => by obtain rfl : a = J := (by simpa using ha); exact JT).trans wo₇.wd.mode⟩, ?_, ?_⟩
            · obtain ⟨envs, e1, e2⟩ := wo₇.fs
              exact ⟨envs, e1, fun env he => let ⟨h1, L, o, es, ep, h2, h3, r⟩ := e2 env he; ⟨h1, L, o, es, ep, h2, List.mem_append_right _ h3, r⟩⟩
            · refine Vs.cons (.loc _ hCy (nT C (by simp)) hn₇ (by simp)) (re.grow (s' := { s₅ with heap := h₇, toks := tk₆ + 1 }) hB₇ hJB) (Vs.cons (.loc _ hCk (nT C (by simp)) hn₇ hvx₇) ?_ (hcap C _ _ ?_))
              · exact (rd.grow KB.keep hN).grow (s' := { s₅ with heap := h₇, toks := tk₆ + 1 }) hB₇ hJB
              · intro q hq
                obtain ⟨vq, a, b⟩ := w₁.vs q hq
                exact ⟨vq, a.kept K₇, (b.grow KB.keep hN).grow (s' := { s₅ with heap := h₇, toks := tk₆ + 1 }) hB₇ hJB⟩
          refine (helt C d hmem e (List.mem_of_getElem? he)).run _ _ wo₈ _ _ fun z s₈ k₈ r₈ => ?_
          have hl₈ : s₈.heap.IsList D zs.toArray := List.kept hl₇ k₈ (nT D (by simp))
          have hr₈ := hr₇.kept k₈
          have hK₈ : Kept W s₁ s₈ := by
            have := K₇.inner (N := [J] ++ [C, D, I]) (s₂ := s₈) (by simpa using k₈) fun a ha => (List.mem_append.mp ha).elim (hJN a) (hN a)
            exact this
          have hlen : zs.length ≤ sizeLine := by
            rw [hr₅.length]
            exact flat_len hd hz
          refine list_sz hl₈ hlen fun h₉ hl₉ hs₉ => ⟨(inner d).length + 1 - (j + 1), by lia, j + 1, rfl, hjt, ?_⟩
          have take2 : ((inner d).map (f d)).take (j + 1) = ((inner d).map (f d)).take j ++ [f d e] := by rw [List.take_add_one, List.getElem?_map, he]; rfl
          refine ⟨hK₈.own (k := s₈.toks) hs₉.extBut (hN D (by simp)) (nT D (by simp)), fun b o hb e => ?_, ⟨_, (Ns.kept hn₇ k₈ (nT C (by simp))).sameBut hs₉ (Ne.symm hDC), hvx₇⟩, ⟨zs ++ [z], hl₉, ?_⟩, ?_, ?_⟩
          · refine hs₉.extBut b o (fun q => hb (by simp [show b = D from q])) (k₈.keep b o (fun hm => ?_) (hB₇ b o hb e))
            rcases List.mem_append.mp hm with hm | hm
            · rw [hJB b hm] at e; cases e
            · exact hb hm
          · have q := (hr₈.snoc r₈).own (k := s₈.toks) hs₉.extBut (by simp)
            rw [List.append_assoc] at q
            rw [take2]
            exact q
          · exact it.walks.frame _ _ _ (stayI hJN k₈ hst₇) fun b hb o e => hs₉.extBut b o (srcOff b hb).2 e
          · refine it2.walks.frame _ _ _ hst2₇ fun b hb o e => hs₉.extBut b o (srcOff2 b hb).2.1 ?_
            rcases it2.src b hb with rfl | ⟨hbW, o', e'⟩
            · obtain ⟨o2, vs2, e2, ed⟩ := it2.shape _ _ hst2₇
              rw [e2] at e; cases e
              exact k₈.exact JT e2 fun es ep q => by rw [ed] at q; cases q
            · refine k₈.keep b o (fun hm => ?_) e
              rcases List.mem_append.mp hm with hm | hm
              · rw [hJB b hm] at e'; cases e'
              · exact hbW hm
        · have hjn : j = (inner d).length := by lia
          subst hjn
          refine it2.walks.done s₅ _ _ F₅.st2 fun h₆ tk₆ hk₆ => ?_
          have eJ : Heap.ExtBut J s₅.heap h₆ := fun b o hb e => hk₆ b o (by simpa using hb) e
          refine ⟨items.length + 1 - (i + 1), by lia, i + 1, rfl, hlt, F₅.kept.own eJ hJ₁ JT, ⟨_, hns₅.extBut eJ (Ne.symm hJC)⟩, ⟨zs, hl₅.extBut eJ (Ne.symm hJD), ?_⟩, it.walks.frame _ _ _ F₅.st fun b hb o e => eJ b o (srcOffJ b hb) e⟩
          rw [take1, List.flatMap_append, List.flatMap_cons, List.flatMap_nil, List.append_nil]
          have := (hr₅.own (k := tk₆) eJ (by simp)).less (W' := [C, D, I] ++ W) fun a ha => List.mem_append_right _ ha
          rwa [show ((inner d).map (f d)).take (inner d).length = (inner d).map (f d) by rw [List.take_of_length_le (by simp)]] at this
      exact start_in inner_loop fun E => it2.walks.self 0 _ _ _ it2.start inner_loop
    · have hin : i = items.length := by lia
      subst hin
      refine it.walks.done s' _ _ F.st fun h₂ tk₂ hk₂ => ?_
      have eI : Heap.ExtBut I s'.heap h₂ := fun b o hb e => hk₂ b o (by simpa using hb) e
      have K₂ : Kept W s₁ { s' with heap := h₂, toks := tk₂ } := F.kept.own eI it.new (nT I (by simp))
      have hr₂ := hr.own (k := tk₂) eI (by simp)
      rw [List.take_length] at hr₂
      refine h C D _ ?_ (k₁.trans K₂) ⟨_, hns.extBut eI (Ne.symm hIC)⟩ ?_
      · cases e : s.heap.get? C with
        | none => rfl
        | some o =>
          have : ∃ o', s₁.heap.get? C = some o' := by
            by_cases hT : C = tT
            · exact ⟨_, (w₁.wd.tab).choose_spec.1 |> fun e => by rw [hT]; exact e⟩
            · by_cases hw : C ∈ W
              · obtain ⟨sl, e', _⟩ := k₁.slots C o hw hT e; exact ⟨_, e'⟩
              · exact ⟨_, k₁.keep C o hw e⟩
          obtain ⟨o', e'⟩ := this
          rw [f₁ C (by lia)] at e'; cases e'
      · refine Rd.list_mk (s := { s' with heap := h₂, toks := tk₂ }) (hl.extBut eI (Ne.symm hID)) (fun hm => ?_) (hr₂.less fun a ha => ?_)
        · rcases List.mem_append.mp hm with hm | hm
          · exact hDC (by simpa using hm)
          · obtain ⟨o, e⟩ := w₁.wd.live D hm
            rw [hN D (by simp)] at e; cases e
        · rcases List.mem_append.mp ha with ha | ha
          · exact List.mem_append_left _ (by simp only [List.mem_cons, List.not_mem_nil, or_false] at ha ⊢; exact .inl ha)
          · exact List.mem_append_right _ ha
  exact codeAny_compStart_list loop (it.walks.self 0 _ _ _ hst₁ loop)
end
end Mine

/- Fun -/
namespace Mine
open PySem PySem.W PySem.Calls PySem.Spec PyProof.Rows
set_option Elab.async false
set_option linter.unusedVariables false

section
variable {g : Gd} {A : Around} {env : Env} {ρ ρ' ρc : List (Str × PyData)} {pos : Pos}

theorem ex_of_core {elt t i1 : Expr} {ifs : List Expr} {rest : List Comprehension} {scope : Scope} {cl : List (Str × Addr)} {outs : List PyData} (c : Core g A env ρ i1 scope cl (.ListComp elt (⟨t, i1, ifs, 0⟩ :: rest) scope pos) outs)
    (hclos : closureFor scope env = pure cl) (hkind : scope.kind = .function) (hnames : ∀ y ∈ scope.names, y.2 = .local → scope.names.lookup y.1 = some .local)
    (hs : ∀ x, foldedSetIterable i1 env x = pure x := by intro _; rfl) : Ex g A env ρ (.ListComp elt (⟨t, i1, ifs, 0⟩ :: rest) scope pos) (.list outs) := .mk fun W s w E Q h => by
  rw [eval_ListComp]
  refine wpAny_comprehension_free (use := none) rfl hs hclos hkind hnames (c W s w _ E fun C D s'' hC k ⟨m, hn⟩ r => ?_)
  refine ⟨m, hn, fun h' hs' => h _ _ (k.own hs'.extBut hC (w.wd.ne_T hC)) ?_⟩
  exact ((r.own (k := s''.toks) hs'.extBut (by simp)).less fun a ha => List.mem_append_right _ ha)

/-- in a def's body: N: what the call has made and keeps for itself -/
structure In (g : Gd) (A : Around) (env : Env) (ρ : List (Str × PyData)) (N W : List Addr) (s₀ s : Shared) : Prop where
  kept : Kept W s₀ s
  new : ∀ a ∈ N, s₀.heap.get? a = none
  wo : Wo g A env ρ (N ++ W) s
  ns : ∃ m, s.heap.Ns env.locals m
  loc : env.locals ∈ N
  w0 : W0 W s₀

theorem In.step {N W : List Addr} {s₀ s s' : Shared} (x : In g A env ρ N W s₀ s) (k : Kept (N ++ W) s s') : In g A env ρ N W s₀ s' :=
  ⟨x.kept.inner k x.new, x.new, x.wo.kept k, let ⟨_, n⟩ := x.ns; ⟨_, Ns.kept n k (x.w0.ne_T (x.new _ x.loc))⟩, x.loc, x.w0⟩
theorem In.sub {N W : List Addr} {s₀ s : Shared} (x : In g A env ρ N W s₀ s) (h : ∀ p ∈ ρ', p ∈ ρ) : In g A env ρ' N W s₀ s := ⟨x.kept, x.new, ⟨x.wo.wd, x.wo.fs, x.wo.vs.sub h⟩, x.ns, x.loc, x.w0⟩

/-- one of the hidden turns -/
theorem Wd.turn {W : List Addr} {s : Shared} {a : Addr} {h' : Heap} {k : Nat} (w : Wd g W s) (hs : Heap.ExtBut a s.heap h') (ha : a ∈ W) (hT : a ≠ tT) (hl : ∃ o, h'.get? a = some o) : Wd g W { s with heap := h', toks := k } where
  tW := w.tW
  tab := let ⟨ps, e, r⟩ := w.tab; ⟨ps, hs _ _ (Ne.symm hT) e, r⟩
  live := fun b hb => by
    by_cases q : b = a
    · subst q; exact hl
    · obtain ⟨o, e⟩ := w.live b hb; exact ⟨o, hs b o q e⟩
  known := w.known.keeps (hide_mono fun b o hb e => hs b o (fun q => hb (q ▸ ha)) e)
  mode := w.mode
theorem Fs.turn {W : List Addr} {s : Shared} {a : Addr} {h' : Heap} {k : Nat} (f : Fs A W s) (hs : Heap.ExtBut a s.heap h')
    (hd : ∀ o es ep, s.heap.get? a = some o → o.data = .dict es ep → ∃ o' es' ep', h'.get? a = some o' ∧ o'.data = .dict es' ep') : Fs A W { s with heap := h', toks := k } := by
  obtain ⟨envs, e, h⟩ := f
  refine ⟨envs, e, fun env he => ?_⟩
  obtain ⟨h1, L, o, es, ep, h2, h3, h4, h5, h6⟩ := h env he
  by_cases q : L = a
  · subst q
    obtain ⟨o', es', ep', e1, e2⟩ := hd o es ep h5 h6
    exact ⟨h1, L, o', es', ep', h2, h3, h4, e1, e2⟩
  · exact ⟨h1, L, o, es, ep, h2, h3, h4, hs _ _ q h5, h6⟩
theorem Has.turn {env : Env} {s : Shared} {x : Str} {v : Value} {a : Addr} {h' : Heap} (y : Has env s.heap x v) (hs : Heap.ExtBut a s.heap h') (hL : env.locals ≠ a) (hc : ∀ c, env.cells.lookup x = some c → c ≠ a) : Has env h' x v := by
  cases y with
  | loc m hk hT hn hv => exact .loc m hk hT (hn.extBut hs hL) hv
  | cell c hk hc' hT hv => exact .cell c hk hc' hT (let ⟨o, e, r⟩ := hv; ⟨o, hs _ _ (hc c hc') e, r⟩)
  | free c hk hn hc' hT hv => exact .free c hk hn hc' hT (let ⟨o, e, r⟩ := hv; ⟨o, hs _ _ (hc c hc') e, r⟩)

/-- a store into a local name -/
theorem In.store {N W : List Addr} {s₀ s : Shared} {x : Str} {v : Value} {d : PyData} (i : In g A env ρ N W s₀ s) (hx : env.kindOf x = some .local) (hf : env.scope.kind = .function) (r : Rd (N ++ W) s v d) (hcells : ∀ c ∈ env.cells, c.2 ≠ env.locals)
    (hρ : ∀ p ∈ ρ', p = (x, d) ∨ (p ∈ ρ ∧ p.1 ≠ x)) {M : Model} {E : Value → Shared → Prop} {Q : Unit → Shared → Prop} (h : ∀ s', In g A env ρ' N W s₀ s' → Q () s') : wpAny M A (storeName env x v) Q E s := by
  obtain ⟨m, hn⟩ := i.ns
  have hLT := i.w0.ne_T (i.new _ i.loc)
  have hLm : env.locals ∈ N ++ W := List.mem_append_left _ i.loc
  refine wpAny_storeName_local hx hn (fun h' hn' hs => h _ ⟨i.kept.own hs.extBut (i.new _ i.loc) hLT, i.new, ⟨i.wo.wd.turn hs.extBut hLm hLT ?_, i.wo.fs.turn hs.extBut ?_, fun p hp => ?_⟩, ⟨_, hn'⟩, i.loc, i.w0⟩) (by rw [hf]; rfl)
  · obtain ⟨o, _, _, e, _⟩ := hn'; exact ⟨o, e⟩
  · intro o es ep _ _
    obtain ⟨o', es', ep', e, e2, _⟩ := hn'; exact ⟨o', es', ep', e, e2⟩
  · rcases hρ p hp with rfl | ⟨hp, hne⟩
    · exact ⟨v, .loc _ hx hLT hn' (by simp), r.own (k := s.toks + 1) hs.extBut hLm⟩
    · obtain ⟨u, y, ru⟩ := i.wo.vs p hp
      refine ⟨u, ?_, ru.own (k := s.toks + 1) hs.extBut hLm⟩
      cases y with
      | loc m₂ hk hT hn₂ hv =>
        have : m p.1 = m₂ p.1 := by
          obtain ⟨o, es, ep, e, ed, _, hm⟩ := hn
          obtain ⟨o2, es2, ep2, e2, ed2, _, hm2⟩ := hn₂
          rw [e] at e2; cases e2; rw [ed] at ed2; cases ed2
          rw [← hm, ← hm2]
        exact .loc _ hk hT hn' (by simp [hne, this, hv])
      | cell c hk hc hT hv => exact .cell c hk hc hT (let ⟨o, e, r⟩ := hv; ⟨o, hs.extBut _ _ (hcells _ (mem_of_lookup hc)) e, r⟩)
      | free c hk hn3 hc hT hv => exact .free c hk hn3 hc hT (let ⟨o, e, r⟩ := hv; ⟨o, hs.extBut _ _ (hcells _ (mem_of_lookup hc)) e, r⟩)

/-- x = e -/
theorem in_assign {N W : List Addr} {s₀ s : Shared} {x : Str} {px : Pos} {e : Expr} {d : PyData} (i : In g A env ρ N W s₀ s) (hf : env.scope.kind = .function) (he : Ex g A env ρ e d) (hx : env.kindOf x = some .local) (hcells : ∀ c ∈ env.cells, c.2 ≠ env.locals)
    (hρ : ∀ p ∈ ρ', p = (x, d) ∨ (p ∈ ρ ∧ p.1 ≠ x)) {E : Value → Shared → Prop} {Q : Flow → Shared → Prop} (h : ∀ s', In g A env ρ' N W s₀ s' → Q .next s') (hw : swapsWith e (some (.Name x px)) pos.line env = pure false := by rfl) :
    wpAny g.M A (exec (.Assign [.Name x px] e pos) env) Q E s :=
  wpAny_Assign_Name (he.run _ s i.wo E _ fun v s₁ k r => (i.step k).store hx hf r hcells hρ h) hw

/-- x = [..] on one line: the loop's end stores ahead of the letting go -/
theorem in_assign_comp {N W : List Addr} {s₀ s : Shared} {x : Str} {px : Pos} {elt t i1 : Expr} {ifs : List Expr} {rest : List Comprehension} {scope : Scope} {cl : List (Str × Addr)} {outs : List PyData} {cp : Pos} (i : In g A env ρ N W s₀ s) (hf : env.scope.kind = .function)
    (c : Core g A env ρ i1 scope cl (.ListComp elt (⟨t, i1, ifs, 0⟩ :: rest) scope cp) outs) (hclos : closureFor scope env = pure cl) (hkind : scope.kind = .function) (hnames : ∀ y ∈ scope.names, y.2 = .local → scope.names.lookup y.1 = some .local)
    (hx : env.kindOf x = some .local) (hcells : ∀ c ∈ env.cells, c.2 ≠ env.locals) (hρ : ∀ p ∈ ρ', p = (x, .list outs) ∨ (p ∈ ρ ∧ p.1 ≠ x)) {E : Value → Shared → Prop} {Q : Flow → Shared → Prop} (h : ∀ s', In g A env ρ' N W s₀ s' → Q .next s')
    (hw : swapsWith (.ListComp elt (⟨t, i1, ifs, 0⟩ :: rest) scope cp) (some (.Name x px)) pos.line env = pure true := by rfl) (hs : ∀ x, foldedSetIterable i1 env x = pure x := by intro _; rfl) :
    wpAny g.M A (exec (.Assign [.Name x px] (.ListComp elt (⟨t, i1, ifs, 0⟩ :: rest) scope cp) pos) env) Q E s := by
  rw [exec_Assign_Name_used _ _ _ _ hw]
  refine wpAny_bind (wpAny_standAt (wpAny_bind ?_))
  show wpAny _ A (do let _ ← comprehension (.ListComp elt (⟨t, i1, ifs, 0⟩ :: rest) scope cp) scope env _ (newList []) false (eval i1 env) (some (assign (.Name x px) env))) _ _ s
  refine wpAny_bind (wpAny_mono (wpAny_comprehension_free (E := E) (use := some (assign (.Name x px) env)) (Q := fun _ s' => Q .next s') rfl hs hclos hkind hnames (c _ s i.wo _ E fun C D s'' hC k ⟨m, hn⟩ r => ?_)) (fun _ s' hq => wpAny_pure (wpAny_pure hq)) fun _ _ x => x)
  show wpAny g.M A (assign (.Name x px) env (.ref D)) _ _ _
  have hCT := i.wo.wd.ne_T hC
  have offC : ∀ b o, s.heap.get? b = some o → b ≠ C := fun b o e q => by rw [q, hC] at e; cases e
  obtain ⟨mL, hnL⟩ := (i.step k).ns
  have hCL : C ≠ env.locals := fun q => by
    obtain ⟨_, o, _, _, e, _⟩ := i.ns
    rw [q, e] at hC; cases hC
  have hC₀ : s₀.heap.get? C = none := by
    cases e : s₀.heap.get? C with
    | none => rfl
    | some o =>
      have : ∃ o', s.heap.get? C = some o' := by
        by_cases hw : C ∈ W
        · obtain ⟨sl, e', _⟩ := i.kept.slots C o hw hCT e; exact ⟨_, e'⟩
        · exact ⟨_, i.kept.keep C o hw e⟩
      obtain ⟨o', e'⟩ := this
      rw [hC] at e'; cases e'
  have hLT := i.w0.ne_T (i.new _ i.loc)
  have hLm : env.locals ∈ N ++ W := List.mem_append_left _ i.loc
  refine wpAny_assign_Name (wpAny_storeName_local hx hnL (fun h' hn' hs' => ⟨m, hn.extBut hs'.extBut hCL, fun h₃ hs₃ => ?_⟩) (by rw [hf]; rfl))
  have ext : ∀ b o, b ≠ env.locals → b ≠ C → s''.heap.get? b = some o → h₃.get? b = some o := fun b o h1 h2 e => hs₃.extBut b o h2 (hs'.extBut b o h1 e)
  have hn₃ : h₃.Ns env.locals (fun y => if y = x then some (.ref D) else mL y) := hn'.extBut hs₃.extBut (Ne.symm hCL)
  have hide : ∀ b o, b ∉ N ++ W → s.heap.get? b = some o → h₃.get? b = some o := fun b o hb e => ext b o (fun q => hb (q ▸ hLm)) (offC b o e) (k.keep b o hb e)
  refine h _ ⟨((i.step k).kept.own (k := s''.toks + 1) hs'.extBut (i.new _ i.loc) hLT).own (s := { s'' with heap := h', toks := s''.toks + 1 }) (k := s''.toks + 1) hs₃.extBut hC₀ hCT, i.new, ⟨⟨i.wo.wd.tW, ?_, fun b hb => ?_, i.wo.wd.known.keeps (hide_mono hide), i.wo.wd.mode⟩, ?_, fun p hp => ?_⟩, ⟨_, hn₃⟩, i.loc, i.w0⟩
  · obtain ⟨ps, e, r⟩ := k.tab i.wo.wd.tab
    exact ⟨ps, ext _ _ (Ne.symm hLT) (Ne.symm hCT) e, r⟩
  · by_cases q : b = env.locals
    · subst q; obtain ⟨o, _, _, e, _⟩ := hn₃; exact ⟨o, e⟩
    · obtain ⟨o1, e1⟩ := i.wo.wd.live b hb
      obtain ⟨o, e⟩ := (i.wo.wd.kept k).live b hb
      exact ⟨o, ext b o q (offC b o1 e1) e⟩
  · obtain ⟨envs, e, hh⟩ := i.wo.fs
    refine ⟨envs, e, fun env' he => ?_⟩
    obtain ⟨h1, L, o, es, ep, h2, h3, h4, h5, h6⟩ := hh env' he
    by_cases q : L = env.locals
    · obtain ⟨o', es', ep', e1, e2, _⟩ := hn₃
      exact ⟨h1, L, o', es', ep', h2, h3, h4, q ▸ e1, e2⟩
    · obtain ⟨sl, e', _⟩ := k.slots L o h3 h4 h5
      exact ⟨h1, L, _, es, ep, h2, h3, h4, ext L _ q (offC L o h5) e', h6⟩
  · rcases hρ p hp with rfl | ⟨hp, hne⟩
    · refine ⟨.ref D, .loc _ hx hLT hn₃ (by simp), ?_⟩
      obtain ⟨as, rr⟩ := r
      refine Rd.less (W := [C] ++ (N ++ W)) (s := { s'' with heap := h₃, toks := s''.toks + 1 }) ⟨as, Rx.keeps (hide_mono fun b o hb e => ext b o (fun q => hb (List.mem_append_right _ (q ▸ hLm))) (fun q => hb (by simp [q])) e) rr⟩ fun a ha => List.mem_append_right _ ha
    · obtain ⟨u, y, as, ru⟩ := i.wo.vs p hp
      refine ⟨u, ?_, as, Rx.keeps (hide_mono hide) ru⟩
      cases y with
      | loc m₂ hk hT hn₂ hv =>
        have hn₂' := Ns.kept hn₂ k hT
        have : mL p.1 = m₂ p.1 := by
          obtain ⟨o, es, ep, e, ed, _, hm⟩ := hnL
          obtain ⟨o2, es2, ep2, e2, ed2, _, hm2⟩ := hn₂'
          rw [e] at e2; cases e2; rw [ed] at ed2; cases ed2
          rw [← hm, ← hm2]
        exact .loc _ hk hT hn₃ (by simp [hne, this, hv])
      | cell c hk hc hT hv =>
        obtain ⟨o, e, r⟩ := hv
        obtain ⟨o2, e2, r2⟩ := Cell.kept ⟨o, e, r⟩ k hT
        exact .cell c hk hc hT ⟨o2, ext _ _ (hcells _ (mem_of_lookup hc)) (offC _ _ e) e2, r2⟩
      | free c hk hn3 hc hT hv =>
        obtain ⟨o, e, r⟩ := hv
        obtain ⟨o2, e2, r2⟩ := Cell.kept ⟨o, e, r⟩ k hT
        exact .free c hk hn3 hc hT ⟨o2, ext _ _ (hcells _ (mem_of_lookup hc)) (offC _ _ e) e2, r2⟩
end
end Mine

/- Fun2 -/
namespace Mine
open PySem PySem.W PySem.Calls PySem.Spec PyProof.Rows
set_option Elab.async false
set_option linter.unusedVariables false

section
variable {g : Gd} {A : Around} {env : Env} {ρ ρ' ρc : List (Str × PyData)} {pos : Pos}

/-- how a pure def ends -/
def Ret (W : List Addr) (s₀ : Shared) (r : PyData) (fl : Flow) (s' : Shared) : Prop := ∃ v, fl = .ret v ∧ Kept W s₀ s' ∧ Rd W s' v r

theorem in_return {N W : List Addr} {s₀ s : Shared} {e : Expr} {d : PyData} (i : In g A env ρ N W s₀ s) (he : Ex g A env ρ e d) {E : Value → Shared → Prop} : wpAny g.M A (exec (.Return (some e) pos) env) (Ret W s₀ d) E s :=
  wpAny_Return_some (he.run _ s i.wo E _ fun v s' k r => ⟨v, rfl, (i.step k).kept, r.less fun a ha => List.mem_append_right _ ha⟩)

theorem ret_execs {N W : List Addr} {s₀ s : Shared} {e : Expr} {rest : List Stmt} {d : PyData} (i : In g A env ρ N W s₀ s) (he : Ex g A env ρ e d) {E : Value → Shared → Prop} : wpAny g.M A (execs (.Return (some e) pos :: rest) env) (Ret W s₀ d) E s :=
  wpAny_execs_cons (wpAny_mono (in_return i he) (fun fl s' h => by obtain ⟨v, rfl, r⟩ := h; exact ⟨v, rfl, r⟩) fun _ _ x => x)

/-- what a def does with one argument, whatever it gives -/
def SpP (g : Gd) (f : Addr) (k : Nat) (pre : List Addr → Shared → Value → Prop) (post : List Addr → Shared → Value → Shared → Prop) : Prop := ∀ A W s v, Rm A k → Wd g W s → Fs A W s → pre W s v → ∀ (E : Value → Shared → Prop) (Q : Value → Shared → Prop), (∀ v' s', Kept W s s' → post W s v' s' → Q v' s') → wpAny g.M A (call (.ref f) [v]) Q E s
/-- how such a def ends -/
def RetP (W : List Addr) (s₀ : Shared) (post : List Addr → Shared → Value → Shared → Prop) (fl : Flow) (s' : Shared) : Prop := ∃ v, fl = .ret v ∧ Kept W s₀ s' ∧ post W s₀ v s'

theorem enter1P {x : Str} {f : Addr} {name : Str} {params : Arguments} {body : List Stmt} {scope : Scope} {cdv : Value} (F : Fn g x f name params body scope cdv) {p : Str} {k : Nat} {d : PyData} {post : List Addr → Shared → Value → Shared → Prop}
    (hb : ∀ doc pm an ct v, bindArgs (fnX name name params body scope [] .none .none doc pm an cdv ct) ⟨[v], []⟩ = pure [(p, v)]) (hp : scope.names.lookup p = some .local)
    (hcell : ∀ x ∈ scope.names, x.2 ≠ .cell) (hk : scope.kind = .function) (hco : scope.isCoroutine = false) (hgen : scope.isGenerator = false)
    (h : ∀ A' W s₀ s L, Rm A' k → In g A' (envX name scope L f cdv []) [(p, d)] [L] W s₀ s → ∀ E, wpAny g.M A' (execs body (envX name scope L f cdv [])) (RetP W s₀ post) E s) : SpP g f (k + 1) (fun W s v => Rd W s v d) post := fun A W s v rm w fs rd E Q hq => by
  obtain ⟨oc, od, osl, doc, pm, an, ct, eo⟩ := F.ob
  refine wpAny_call (codeAny_call_def (fd := fnX name name params body scope [] .none .none doc pm an cdv ct) (body := body) (binds := [(p, v)]) (by have := rm.depth; lia) (w.k _ _ eo) rfl w.top.nolimit (codeRec_of w.k F.cd) rfl
    (BindsTo.of_eq (hb ..)) hcell (fun y hy => by obtain rfl : y = (p, v) := (by simpa using hy); exact hp) (fun h₀ hns hk₀ => ?_) hco hgen hk)
  have kp : Kept W s { s with heap := h₀, toks := s.toks + [(p, v)].length } := .keeps hk₀
  have hL : ∀ a ∈ [s.heap.objs.size], s.heap.get? a = none := fun a ha => by
    obtain rfl : a = s.heap.objs.size := (by simpa using ha)
    exact Heap.get?_none_of_le (Nat.le_refl _)
  have hLl : ∃ o es ep, h₀.get? s.heap.objs.size = some o ∧ o.data = .dict es ep := let ⟨o, es, ep, e, e2, _⟩ := hns; ⟨o, es, ep, e, e2⟩
  have hLT := w.ne_T (hL _ (.head _))
  refine wpAny_mono (h (A.deeper _) W s _ s.heap.objs.size (rm.deeper _) ⟨kp, hL, ⟨w.grow kp hL fun a ha => ?_, ?_, ?_⟩, ⟨_, hns⟩, .head _, w.w0⟩ _) (fun fl s' h' => ?_) fun _ _ x => x
  · obtain rfl : a = s.heap.objs.size := (by simpa using ha)
    obtain ⟨o, _, _, e, _⟩ := hLl
    exact ⟨o, e⟩
  · obtain ⟨envs, e, hh⟩ := fs.grow (N := [s.heap.objs.size]) kp
    refine ⟨_ :: envs, Around.frames_deeper e, fun env' he => ?_⟩
    cases he with
    | head =>
      obtain ⟨o, es, ep, e1, e2⟩ := hLl
      exact ⟨by show scope.kind ≠ .module; rw [hk]; decide, _, o, es, ep, rfl, .head _, hLT, e1, e2⟩
    | tail _ he => exact hh env' he
  · refine Vs.cons (v := v) (.loc _ ?_ hLT hns (by simp)) (rd.grow kp.keep hL) .nil
    exact hp
  · obtain ⟨v', rfl, k', r'⟩ := h'
    exact hq v' s' k' r'

theorem enter1 {x : Str} {f : Addr} {name : Str} {params : Arguments} {body : List Stmt} {scope : Scope} {cdv : Value} (F : Fn g x f name params body scope cdv) {p : Str} {k : Nat} {d r : PyData}
    (hb : ∀ doc pm an ct v, bindArgs (fnX name name params body scope [] .none .none doc pm an cdv ct) ⟨[v], []⟩ = pure [(p, v)]) (hp : scope.names.lookup p = some .local)
    (hcell : ∀ x ∈ scope.names, x.2 ≠ .cell) (hk : scope.kind = .function) (hco : scope.isCoroutine = false) (hgen : scope.isGenerator = false)
    (h : ∀ A' W s₀ s L, Rm A' k → In g A' (envX name scope L f cdv []) [(p, d)] [L] W s₀ s → ∀ E, wpAny g.M A' (execs body (envX name scope L f cdv [])) (Ret W s₀ r) E s) : Sp1 g f (k + 1) d r :=
  fun A W s v rm w fs rd E Q hq => enter1P F (post := fun W s₀ v s' => Rd W s' v r) hb hp hcell hk hco hgen h A W s v rm w fs rd E Q hq

/-- the same, the parameter a cell or not, with cells -/
theorem enter1c {x : Str} {f : Addr} {name : Str} {params : Arguments} {body : List Stmt} {scope : Scope} {cdv : Value} (F : Fn g x f name params body scope cdv) {p : Str} {k : Nat} {d r : PyData}
    (hb : ∀ doc pm an ct v, bindArgs (fnX name name params body scope [] .none .none doc pm an cdv ct) ⟨[v], []⟩ = pure [(p, v)])
    (hp : scope.names.lookup p = some .local ∨ (scope.names.lookup p = some .cell ∧ ∀ n, ((cellsFrom n scope.names []).lookup p).isSome = true))
    (hk : scope.kind = .function) (hco : scope.isCoroutine = false) (hgen : scope.isGenerator = false)
    (h : ∀ A' W s₀ s L, Rm A' k → In g A' (envX name scope L f cdv (cellsFrom (L + 1) scope.names [])) [(p, d)] (L :: (cellsFrom (L + 1) scope.names []).map (·.2)) W s₀ s →
      (∀ c ∈ cellsFrom (L + 1) scope.names [], c.1 ≠ p → s.heap.IsCell c.2 none) → (∀ c ∈ cellsFrom (L + 1) scope.names [], @LT.lt Nat _ L c.2) → ((cellsFrom (L + 1) scope.names []).Pairwise fun x y => x.2 ≠ y.2) →
      ∀ E, wpAny g.M A' (execs body (envX name scope L f cdv (cellsFrom (L + 1) scope.names []))) (Ret W s₀ r) E s) (hnd : ∀ n, ((cellsFrom n scope.names []).map (·.1)).Nodup) : Sp1 g f (k + 1) d r := fun A W s v rm w fs rd E Q hq => by
  obtain ⟨oc, od, osl, doc, pm, an, ct, eo⟩ := F.ob
  refine wpAny_call (codeAny_call_cells (fd := fnX name name params body scope [] .none .none doc pm an cdv ct) (body := body) (binds := [(p, v)]) (by have := rm.depth; lia) (w.k _ _ eo) rfl w.top.nolimit (codeRec_of w.k F.cd) rfl
    (hb ..) rfl (fun y hy => by obtain rfl : y = (p, v) := (by simpa using hy); exact hp.imp_right fun q => ⟨q.1, q.2 _⟩) (fun s₁ ic => ?_) hco hgen hk)
  obtain ⟨h₀, tk, rfl, hk₀⟩ := ic.done
  have kp : Kept W s { s with heap := h₀, toks := tk } := .keeps hk₀
  generalize hLd : s.heap.objs.size = L at *
  have hLge : @LE.le Nat _ s.heap.objs.size L := by rw [hLd]; exact Nat.le_refl _
  have above : ∀ c ∈ cellsFrom (L + 1) scope.names [], @LT.lt Nat _ L c.2 := fun c hc => ic.above c.1 c.2 hc
  have hN : ∀ a ∈ L :: (cellsFrom (L + 1) scope.names []).map (·.2), s.heap.get? a = none := fun a ha => by
    refine Heap.get?_none_of_le ?_
    rcases List.mem_cons.mp ha with rfl | ha
    · exact hLge
    · obtain ⟨c, hc, rfl⟩ := List.mem_map.mp ha
      exact Nat.le_trans hLge (Nat.le_of_lt (above c hc))
  have hns := ic.toInCall.ns
  have hLl : ∃ o es ep, h₀.get? L = some o ∧ o.data = .dict es ep := let ⟨o, es, ep, e, e2, _⟩ := hns; ⟨o, es, ep, e, e2⟩
  have hLT := w.ne_T (hN _ (.head _))
  have look : ∀ c ∈ cellsFrom (L + 1) scope.names [], (cellsFrom (L + 1) scope.names []).lookup c.1 = some c.2 := fun c hc => lookup_of_mem_nodup (hnd _) hc
  refine wpAny_mono (h (A.deeper _) W s _ L (rm.deeper _) ⟨kp, hN, ⟨w.grow kp hN fun a ha => ?_, ?_, ?_⟩, ⟨_, hns⟩, .head _, w.w0⟩ (fun c hc hne => ?_) above ic.apart _) (fun fl s' h' => ?_) fun _ _ x => x
  · rcases List.mem_cons.mp ha with rfl | ha
    · obtain ⟨o, _, _, e, _⟩ := hLl; exact ⟨o, e⟩
    · obtain ⟨c, hc, rfl⟩ := List.mem_map.mp ha
      obtain ⟨o, e, _⟩ := ic.cell c.1 c.2 (look c hc); exact ⟨o, e⟩
  · obtain ⟨envs, e, hh⟩ := fs.grow (N := L :: (cellsFrom (L + 1) scope.names []).map (·.2)) kp
    refine ⟨_ :: envs, Around.frames_deeper e, fun env' he => ?_⟩
    cases he with
    | head =>
      obtain ⟨o, es, ep, e1, e2⟩ := hLl
      exact ⟨by show scope.kind ≠ .module; rw [hk]; decide, L, o, es, ep, rfl, .head _, hLT, e1, e2⟩
    | tail _ he => exact hh env' he
  · refine Vs.cons (v := v) ?_ (rd.grow kp.keep hN) .nil
    rcases hp with hp | ⟨hp, hpc⟩
    · refine .loc _ hp hLT hns ?_
      simp only [bindL]
      split
      · simp
      · rename_i q
        exact absurd hp q
    · obtain ⟨c, hc⟩ := Option.isSome_iff_exists.mp (hpc (L + 1))
      have hcm := mem_of_lookup hc
      refine .cell c hp hc (w.ne_T (hN c (.tail _ (List.mem_map.mpr ⟨_, hcm, rfl⟩)))) ?_
      have := ic.cell p c hc
      simp only [bindC] at this
      split at this
      · rename_i q
        have q' : scope.names.lookup p = some .local := q
        rw [hp] at q'; cases q'
      · simpa using this
  · have := ic.cell c.1 c.2 (look c hc)
    simp only [bindC] at this
    split at this
    · exact this
    · simpa [hne] using this
  · obtain ⟨v', rfl, k', r'⟩ := h'
    exact hq v' s' k' r'

/-- if -/
theorem in_if {N W : List Addr} {s₀ s : Shared} {t : Expr} {b o : List Stmt} {c : Bool} (i : In g A env ρ N W s₀ s) (ht : Tt g A env ρ t c) {E : Value → Shared → Prop} {Q : Flow → Shared → Prop}
    (h : ∀ s', In g A env ρ N W s₀ s' → Kept (N ++ W) s s' → wpAny g.M A (execs (if c = true then b else o) env) Q E s') : wpAny g.M A (exec (.If t b o pos) env) Q E s :=
  wpAny_If (ht.run _ s i.wo E _ fun s' k => by
    have := h s' (i.step k) k
    cases c with
    | true => exact this
    | false => exact this)
end
end Mine

/- Loop -/
namespace Mine
open PySem PySem.W PySem.Calls PySem.Spec PyProof.Rows
set_option Elab.async false
set_option linter.unusedVariables false

theorem m0 {α : Type} {a : α} {l : List α} : a ∈ a :: l := .head _
theorem m1 {α : Type} {a b : α} {l : List α} : a ∈ b :: a :: l := .tail _ (.head _)
theorem m2 {α : Type} {a b c : α} {l : List α} : a ∈ b :: c :: a :: l := .tail _ (.tail _ (.head _))
theorem m3 {α : Type} {a b c d : α} {l : List α} : a ∈ b :: c :: d :: a :: l := .tail _ (.tail _ (.tail _ (.head _)))
theorem m4 {α : Type} {a b c d e : α} {l : List α} : a ∈ b :: c :: d :: e :: a :: l := .tail _ (.tail _ (.tail _ (.tail _ (.head _))))
theorem m5 {α : Type} {a b c d e f : α} {l : List α} : a ∈ b :: c :: d :: e :: f :: a :: l := .tail _ (.tail _ (.tail _ (.tail _ (.tail _ (.head _)))))
theorem m6 {α : Type} {a b c d e f g : α} {l : List α} : a ∈ b :: c :: d :: e :: f :: g :: a :: l := .tail _ (.tail _ (.tail _ (.tail _ (.tail _ (.tail _ (.head _))))))

section
variable {g : Gd} {A : Around} {env : Env} {ρ ρ' ρc : List (Str × PyData)} {pos : Pos}

theorem wh_loop {σ : Type} {test : Expr} {body : List Stmt} (J : σ → Shared → Prop) (c : σ → Bool) (μ : σ → Nat)
    (ht : ∀ a s (E : Value → Shared → Prop) (Q : Bool → Shared → Prop), J a s → (∀ s', J a s' → Q (c a) s') → wpAny g.M A (isTrue test env (eval test env)) Q E s)
    (hb : ∀ a s (E : Value → Shared → Prop), J a s → c a = true → wpAny g.M A (execs body env) (fun fl s' => fl = .next ∧ ∃ a', μ a' < μ a ∧ J a' s') E s)
    {a₀ : σ} {s : Shared} (h0 : J a₀ s) {E : Value → Shared → Prop} {Q : Flow → Shared → Prop} (h : ∀ a s', J a s' → c a = false → Q .next s') : wpAny g.M A (exec (.While test body [] pos) env) Q E s := by
  refine wpAny_While (codeAny_whileLoop (fun n s => ∃ a, μ a = n ∧ J a s) ?_ (μ a₀) ⟨a₀, rfl, h0⟩)
  rintro n s ⟨a, rfl, hJ⟩
  refine ht a s _ _ hJ fun s' hJ' => ?_
  cases hc : c a with
  | false =>
    rw [if_neg (by simp)]
    exact wpAny_execs_nil (h a s' hJ' hc)
  | true =>
    rw [if_pos rfl]
    refine wpAny_mono (hb a s' _ hJ' hc) (fun fl s₂ h₂ => ?_) fun _ _ x => x
    obtain ⟨rfl, a', hlt, hJ₂⟩ := h₂
    exact ⟨μ a', hlt, a', rfl, hJ₂⟩

/-- a while that turns names alone -/
theorem in_while {σ : Type} {N W : List Addr} {s₀ s : Shared} {test : Expr} {body : List Stmt} (ρ : σ → List (Str × PyData)) (inv : σ → Prop) (c : σ → Bool) (μ : σ → Nat)
    (ht : ∀ a, inv a → Tt g A env (ρ a) test (c a))
    (hb : ∀ a, inv a → c a = true → ∀ s (E : Value → Shared → Prop), In g A env (ρ a) N W s₀ s → wpAny g.M A (execs body env) (fun fl s' => fl = .next ∧ ∃ a', μ a' < μ a ∧ inv a' ∧ In g A env (ρ a') N W s₀ s') E s)
    {a₀ : σ} (i : In g A env (ρ a₀) N W s₀ s) (h0 : inv a₀) {E : Value → Shared → Prop} {Q : Flow → Shared → Prop} (h : ∀ a s', inv a → c a = false → In g A env (ρ a) N W s₀ s' → Q .next s') : wpAny g.M A (exec (.While test body [] pos) env) Q E s :=
  wh_loop (fun a s => inv a ∧ In g A env (ρ a) N W s₀ s) c μ (fun a s E Q ⟨h1, h2⟩ hq => (ht a h1).run _ s h2.wo E Q fun s' k => hq s' ⟨h1, h2.step k⟩)
    (fun a s E ⟨h1, h2⟩ hc => wpAny_mono (hb a h1 hc s E h2) (fun fl s' ⟨e, a', x, y, z⟩ => ⟨e, a', x, y, z⟩) fun _ _ x => x) ⟨h0, i⟩ fun a s' ⟨h1, h2⟩ hc => h a s' h1 hc h2

theorem next_cons {st : Stmt} {rest : List Stmt} {s : Shared} {E : Value → Shared → Prop} {Q : Flow → Shared → Prop} (h : wpAny g.M A (exec st env) (fun fl s' => fl = .next ∧ wpAny g.M A (execs rest env) Q E s') E s) : wpAny g.M A (execs (st :: rest) env) Q E s :=
  wpAny_execs_cons (wpAny_mono h (fun fl s' ⟨e, h⟩ => by subst e; exact h) fun _ _ x => x)
end
end Mine

/- Look -/
namespace Mine
open PySem PySem.W PySem.Calls PySem.Spec PyProof.Rows
set_option Elab.async false
set_option linter.unusedVariables false

abbrev Rho := List (Str × PyData)
def look (x : Str) : Rho → Option PyData
  | [] => none
  | p :: l => if p.1 = x then some p.2 else look x l
def del (x : Str) : Rho → Rho
  | [] => []
  | p :: l => if p.1 = x then del x l else p :: del x l
abbrev upd (x : Str) (d : PyData) (ρ : Rho) : Rho := (x, d) :: del x ρ
theorem look_mem {x : Str} {d : PyData} : ∀ {ρ : Rho}, look x ρ = some d → (x, d) ∈ ρ
  | [], h => by cases h
  | p :: l, h => by
    unfold look at h
    split at h
    · rename_i e; cases h; subst e; exact .head _
    · exact .tail _ (look_mem h)
theorem del_mem {x : Str} : ∀ {ρ : Rho} {p : Str × PyData}, p ∈ del x ρ → p ∈ ρ ∧ p.1 ≠ x
  | [], p, h => by cases h
  | q :: l, p, h => by
    unfold del at h
    split at h
    · exact ⟨.tail _ (del_mem h).1, (del_mem h).2⟩
    · cases h with
      | head => exact ⟨.head _, by assumption⟩
      | tail _ h => exact ⟨.tail _ (del_mem h).1, (del_mem h).2⟩
theorem upd_mem {x : Str} {d : PyData} {ρ : Rho} : ∀ p ∈ upd x d ρ, p = (x, d) ∨ (p ∈ ρ ∧ p.1 ≠ x) := fun p h => by
  cases h with
  | head => exact .inl rfl
  | tail _ h => exact .inr (del_mem h)
def Subs : Rho → Rho → Prop
  | [], _ => True
  | p :: l, ρ => look p.1 ρ = some p.2 ∧ Subs l ρ
theorem Subs.mem {ρ : Rho} : ∀ {ρ' : Rho}, Subs ρ' ρ → ∀ p ∈ ρ', p ∈ ρ
  | [], _, p, h => by cases h
  | q :: l, hs, p, h => by
    cases h with
    | head => exact look_mem hs.1
    | tail _ h => exact Subs.mem hs.2 p h

section
variable {g : Gd} {A : Around} {env : Env} {ρ ρ' ρc : Rho} {pos : Pos}

theorem ex_v {x : Str} {d : PyData} (hf : env.scope.kind = .function) (hm : look x ρ = some d) (hd : (x == ("__debug__" : Str)) = false := by decide) : Ex g A env ρ (.Name x pos) d := ex_var hf (look_mem hm) hd
theorem In.subs {N W : List Addr} {s₀ s : Shared} (x : In g A env ρ N W s₀ s) (h : Subs ρ' ρ) : In g A env ρ' N W s₀ s := x.sub h.mem
theorem in_set {N W : List Addr} {s₀ s : Shared} {x : Str} {px : Pos} {e : Expr} {d : PyData} (i : In g A env ρ N W s₀ s) (hf : env.scope.kind = .function) (he : Ex g A env ρ e d) (hx : env.kindOf x = some .local) (hcells : ∀ c ∈ env.cells, c.2 ≠ env.locals)
    {E : Value → Shared → Prop} {Q : Flow → Shared → Prop} (h : ∀ s', In g A env (upd x d ρ) N W s₀ s' → Q .next s') (hw : swapsWith e (some (.Name x px)) pos.line env = pure false := by rfl) :
    wpAny g.M A (exec (.Assign [.Name x px] e pos) env) Q E s := in_assign i hf he hx hcells upd_mem h hw
theorem in_set_comp {N W : List Addr} {s₀ s : Shared} {x : Str} {px : Pos} {elt t i1 : Expr} {ifs : List Expr} {rest : List Comprehension} {scope : Scope} {cl : List (Str × Addr)} {outs : List PyData} {cp : Pos} (i : In g A env ρ N W s₀ s) (hf : env.scope.kind = .function)
    (c : Core g A env ρ i1 scope cl (.ListComp elt (⟨t, i1, ifs, 0⟩ :: rest) scope cp) outs) (hclos : closureFor scope env = pure cl) (hkind : scope.kind = .function) (hnames : ∀ y ∈ scope.names, y.2 = .local → scope.names.lookup y.1 = some .local)
    (hx : env.kindOf x = some .local) (hcells : ∀ c ∈ env.cells, c.2 ≠ env.locals) {E : Value → Shared → Prop} {Q : Flow → Shared → Prop} (h : ∀ s', In g A env (upd x (.list outs) ρ) N W s₀ s' → Q .next s')
    (hw : swapsWith (.ListComp elt (⟨t, i1, ifs, 0⟩ :: rest) scope cp) (some (.Name x px)) pos.line env = pure true := by rfl) (hs : ∀ x, foldedSetIterable i1 env x = pure x := by intro _; rfl) :
    wpAny g.M A (exec (.Assign [.Name x px] (.ListComp elt (⟨t, i1, ifs, 0⟩ :: rest) scope cp) pos) env) Q E s := in_assign_comp i hf c hclos hkind hnames hx hcells upd_mem h hw hs

theorem nx_set {N W : List Addr} {s₀ s : Shared} {x : Str} {px : Pos} {e : Expr} {rest : List Stmt} {d : PyData} (i : In g A env ρ N W s₀ s) (hf : env.scope.kind = .function) (hx : env.kindOf x = some .local) (hcells : ∀ c ∈ env.cells, c.2 ≠ env.locals) (hw : swapsWith e (some (.Name x px)) pos.line env = pure false) (he : Ex g A env ρ e d)
    {E : Value → Shared → Prop} {Q : Flow → Shared → Prop} (h : ∀ s', In g A env (upd x d ρ) N W s₀ s' → wpAny g.M A (execs rest env) Q E s') :
    wpAny g.M A (execs (.Assign [.Name x px] e pos :: rest) env) Q E s := next_cons (in_set i hf he hx hcells (fun s' i' => ⟨rfl, h s' i'⟩) hw)
theorem nx_set_comp {N W : List Addr} {s₀ s : Shared} {x : Str} {px : Pos} {elt t i1 : Expr} {ifs : List Expr} {rest : List Comprehension} {scope : Scope} {cl : List (Str × Addr)} {outs : List PyData} {cp : Pos} {more : List Stmt} (i : In g A env ρ N W s₀ s) (hf : env.scope.kind = .function)
    (hx : env.kindOf x = some .local) (hcells : ∀ c ∈ env.cells, c.2 ≠ env.locals) (hw : swapsWith (.ListComp elt (⟨t, i1, ifs, 0⟩ :: rest) scope cp) (some (.Name x px)) pos.line env = pure true) (hs : ∀ x, foldedSetIterable i1 env x = pure x)
    (hclos : closureFor scope env = pure cl) (hkind : scope.kind = .function) (hnames : ∀ y ∈ scope.names, y.2 = .local → scope.names.lookup y.1 = some .local) (c : Core g A env ρ i1 scope cl (.ListComp elt (⟨t, i1, ifs, 0⟩ :: rest) scope cp) outs)
    {E : Value → Shared → Prop} {Q : Flow → Shared → Prop} (h : ∀ s', In g A env (upd x (.list outs) ρ) N W s₀ s' → wpAny g.M A (execs more env) Q E s') :
    wpAny g.M A (execs (.Assign [.Name x px] (.ListComp elt (⟨t, i1, ifs, 0⟩ :: rest) scope cp) pos :: more) env) Q E s := next_cons (in_set_comp i hf c hclos hkind hnames hx hcells (fun s' i' => ⟨rfl, h s' i'⟩) hw hs)
theorem Cm.is {op : CmpOp} {a b : PyData} {r r' : Bool} (h : Cm g A op a b r) (e : r = r') : Cm g A op a b r' := e ▸ h
theorem Ex.is {e : Expr} {d d' : PyData} (h : Ex g A env ρ e d) (q : d = d') : Ex g A env ρ e d' := q ▸ h
theorem Tt.is {e : Expr} {d d' : Bool} (h : Tt g A env ρ e d) (q : d = d') : Tt g A env ρ e d' := q ▸ h
end
end Mine

/- Prog -/
namespace Mine
open PySem PySem.W PySem.Calls PySem.Spec PyProof.Rows
set_option Elab.async false
set_option linter.unusedVariables false
set_option maxRecDepth 100000

def stAt (i : Nat) : Stmt := PySem.Challenge.pw_il0211_01.main.body.getD i (.Pass ⟨0, 0, 0, 0⟩)
def bodyOf : Stmt → List Stmt | .FunctionDef _ _ b _ _ _ _ _ _ _ => b | _ => []
def argsOf : Stmt → Arguments | .FunctionDef _ a _ _ _ _ _ _ _ _ => a | _ => ⟨[], [], none, [], [], none, []⟩
def scopeOf : Stmt → Scope | .FunctionDef _ _ _ _ _ _ s _ _ _ => s | _ => { kind := .function, names := [], isGenerator := false, isCoroutine := false, more := [] }
abbrev fBody (i : Nat) : List Stmt := bodyOf (stAt i)
abbrev fArgs (i : Nat) : Arguments := argsOf (stAt i)
abbrev fScope (i : Nat) : Scope := scopeOf (stAt i)

/-- a def of the text -/
abbrev Fd (g : Gd) (x : Str) (i : Nat) (f : Addr) (cdv : Value) : Prop := Fn g x f x (fArgs i) (fBody i) (fScope i) cdv

theorem en_of {name : Str} {scope : Scope} {L f : Addr} {cdv : Value} {cl : List (Str × Addr)} (h : scope.kind = .function) : En (envX name scope L f cdv cl) := ⟨h, rfl, rfl⟩

theorem fmod_nat (n k : Nat) : (n : Int).fmod (k : Int) = ((n % k : Nat) : Int) := by
  rw [Int.fmod_eq_emod_of_nonneg _ (by lia)]; rfl
theorem fdiv_nat (n k : Nat) : (n : Int).fdiv (k : Int) = ((n / k : Nat) : Int) := by
  rw [Int.fdiv_eq_ediv_of_nonneg _ (by lia)]; rfl
abbrev pI (n : Nat) : PyData := .int (n : Int)
abbrev pL (l : List Nat) : PyData := .list (l.map pI)

section
variable {g : Gd} {A : Around} {env : Env} {ρ : Rho} {pos : Pos}
theorem en_mod {l : Expr} {a k : Nat} {j : Nat} {q : Pos} (hl : Ex g A env ρ l (pI a)) (hb : k ≠ 0) : Ex g A env ρ (.BinOp l .Mod (.Constant (.int (k : Nat)) j q) pos) (pI (a % k)) :=
  (ex_mod hl ex_int (by lia)).is (by rw [fmod_nat])
theorem en_div {l : Expr} {a k : Nat} {j : Nat} {q : Pos} (hl : Ex g A env ρ l (pI a)) (hb : k ≠ 0) (hs : k < 1000000000) : Ex g A env ρ (.BinOp l .FloorDiv (.Constant (.int (k : Nat)) j q) pos) (pI (a / k)) :=
  (ex_floordiv hl ex_int (by lia) (PyProof.noPylong_small (by lia))).is (by rw [fdiv_nat])
theorem en_add {l r : Expr} {a b : Nat} (hl : Ex g A env ρ l (pI a)) (hr : Ex g A env ρ r (pI b)) : Ex g A env ρ (.BinOp l .Add r pos) (pI (a + b)) :=
  (ex_add hl hr).is (by simp)
theorem en_int {k j : Nat} : Ex g A env ρ (.Constant (.int (k : Nat)) j pos) (pI k) := ex_int
theorem cn_gt {a k : Nat} : Cm g A .Gt (pI a) (pI k) (decide (k < a)) := cm_gt.is (decide_eq_decide.mpr (by lia))
theorem cn_lt {a k : Nat} : Cm g A .Lt (pI a) (pI k) (decide (a < k)) := cm_lt.is (decide_eq_decide.mpr (by lia))
theorem cn_eq {a k : Nat} : Cm g A .Eq (pI a) (pI k) (decide (a = k)) := cm_eq.is (by by_cases h : a = k <;> simp [h]; lia)
theorem cn_ne {a k : Nat} : Cm g A .NotEq (pI a) (pI k) (decide (a ≠ k)) := cm_ne.is (by by_cases h : a = k <;> simp [h]; lia)
theorem no_cells {name : Str} {scope : Scope} {L f : Addr} {cdv : Value} : ∀ c ∈ (envX name scope L f cdv []).cells, c.2 ≠ (envX name scope L f cdv []).locals := fun c hc => nomatch hc
end

/-- a number's octets, below 4096 -/
def octs (n : Nat) : List Nat := if 63 < n then [n / 64 + 64, n % 64] else [n % 64]

theorem oct_sp {g : Gd} {f : Addr} {cdv : Value} (F : Fd g "_law_octets" 12 f cdv) {n : Nat} (hn : n < 4096) : Sp1 g f 1 (pI n) (pL (octs n)) := by
  refine enter1 F (p := "number") (fun _ _ _ _ _ => rfl) rfl (by decide) rfl rfl rfl fun A W s₀ s L rm i E => ?_
  refine next_cons (in_set i rfl (ex_list (.cons (en_mod (k := 64) (ex_v rfl rfl) (by decide)) .nil) (by simp [sizeLine_eq])) rfl no_cells fun s₁ i₁ => ⟨rfl, ?_⟩)
  refine next_cons (in_while (σ := Bool) (fun b => if b = true then [("octets", pL [n / 64 + 64, n % 64]), ("number", pI (n / 64))] else [("octets", pL [n % 64]), ("number", pI n)]) (fun b => b = true → 63 < n) (fun b => if b = true then false else decide (63 < n)) (fun b => if b = true then 0 else 1) (fun b hb => ?_) (fun b hb hc s E i => ?_) (a₀ := false) i₁ (by simp) (fun b s' hb hc i => ⟨rfl, ?_⟩))
  · cases b
    · exact tt_cmp (ex_v rfl rfl) (en_int (k := 63)) cn_gt
    · exact tt_cmp (ex_v rfl rfl) (en_int (k := 63)) (cn_gt.is (by simp; lia))
  · cases b
    · simp only [Bool.false_eq_true, if_false, decide_eq_true_eq] at hc
      refine next_cons (in_set i rfl (en_div (k := 64) (ex_v rfl rfl) (by decide) (by decide)) rfl no_cells fun s₁ i₁ => ⟨rfl, ?_⟩)
      refine next_cons (in_set i₁ rfl (ex_add_list (ex_list (.cons (en_add (en_mod (k := 64) (ex_v rfl rfl) (by decide)) (en_int (k := 64))) .nil) (by simp [sizeLine_eq])) (ex_v rfl rfl) (by simp [sizeLine_eq])) rfl no_cells fun s₂ i₂ => ⟨rfl, ?_⟩)
      refine wpAny_execs_nil ⟨rfl, true, by simp, by simpa using hc, i₂.subs ⟨?_, rfl, trivial⟩⟩
      show some _ = some _
      rw [show (n / 64 % 64) = n / 64 by lia]
      rfl
    · simp at hc
  · cases b
    · simp only [Bool.false_eq_true, if_false, decide_eq_false_iff_not] at hc
      refine ret_execs i ((ex_v rfl rfl).is ?_)
      simp [octs, hc]
    · refine ret_execs i ((ex_v rfl rfl).is ?_)
      simp [octs, hb rfl]
end Mine

/- Comp -/
namespace Mine
open PySem PySem.W PySem.Calls PySem.Spec PyProof.Rows
set_option Elab.async false
set_option linter.unusedVariables false
set_option maxRecDepth 100000

theorem un_mk {α : Type} {mk : α → PyData} (inj : ∀ a b, mk a = mk b → a = b) : ∃ r : PyData → Option α, ∀ a, r (mk a) = some a := by
  classical
  refine ⟨fun d => if h : ∃ a, mk a = d then some h.choose else none, fun a => ?_⟩
  have h : ∃ b, mk b = mk a := ⟨a, rfl⟩
  simp only [h, dif_pos]
  exact congrArg some (inj _ _ h.choose_spec)

abbrev pLL (l : List (List Nat)) : PyData := .list (l.map pL)
section
variable {g : Gd} {A : Around} {env : Env} {ρ ρc : Rho} {pos : Pos} {α β : Type}

theorem core_map {mk : α → PyData} {l : List α} (inj : ∀ a b, mk a = mk b → a = b) {elt iter : Expr} {x : Str} {px : Pos} {scope : Scope} {cl : List (Str × Addr)} {F : α → PyData} (hh : A.handled = none)
    (hkind : scope.kind = .function) (hcell : ∀ y ∈ scope.names, y.2 ≠ .cell) (hx : scope.names.lookup x = some .local)
    (hit : It g A env ρ iter (l.map mk)) (hcap : ∀ C W s, Vs env ρ W s → Vs (compEnvC scope cl C env) ρc W s)
    (helt : ∀ C, ∀ a ∈ l, Ex g A (compEnvC scope cl C env) ((x, mk a) :: ρc) elt (F a)) (hz : l.length ≤ sizeLine) : Core g A env ρ iter scope cl (.ListComp elt [⟨.Name x px, iter, [], 0⟩] scope pos) (l.map F) := by
  obtain ⟨r, hr⟩ := un_mk inj
  have := core_comp1 (g := g) (A := A) (env := env) (ρ := ρ) (ρc := ρc) (pos := pos) (px := px) (elt := elt) (cl := cl) (p := fun _ => true) (f := fun d => ((r d).map F).getD .none) hh hkind hcell hx hit hcap (.inl ⟨rfl, fun _ _ => rfl⟩)
    (fun C d hd _ => by obtain ⟨a, ha, rfl⟩ := List.mem_map.mp hd; rw [hr]; exact helt C a ha) (by simpa using hz)
  have e : ((l.map mk).filter fun _ => true).map (fun d => ((r d).map F).getD .none) = l.map F := by
    rw [List.filter_eq_self.mpr (fun _ _ => rfl), List.map_map]
    exact List.map_congr_left fun a _ => by simp [hr]
  rw [e] at this
  exact this
theorem core_filter {mk : α → PyData} {l : List α} (inj : ∀ a b, mk a = mk b → a = b) {elt iter c : Expr} {x : Str} {px : Pos} {scope : Scope} {cl : List (Str × Addr)} {F : α → PyData} {p : α → Bool} (hh : A.handled = none)
    (hkind : scope.kind = .function) (hcell : ∀ y ∈ scope.names, y.2 ≠ .cell) (hx : scope.names.lookup x = some .local)
    (hit : It g A env ρ iter (l.map mk)) (hcap : ∀ C W s, Vs env ρ W s → Vs (compEnvC scope cl C env) ρc W s)
    (hif : ∀ C, ∀ a ∈ l, Tt g A (compEnvC scope cl C env) ((x, mk a) :: ρc) c (p a))
    (helt : ∀ C, ∀ a ∈ l, p a = true → Ex g A (compEnvC scope cl C env) ((x, mk a) :: ρc) elt (F a)) (hz : l.length ≤ sizeLine) : Core g A env ρ iter scope cl (.ListComp elt [⟨.Name x px, iter, [c], 0⟩] scope pos) ((l.filter p).map F) := by
  obtain ⟨r, hr⟩ := un_mk inj
  have := core_comp1 (g := g) (A := A) (env := env) (ρ := ρ) (ρc := ρc) (pos := pos) (px := px) (elt := elt) (cl := cl) (p := fun d => ((r d).map p).getD false) (f := fun d => ((r d).map F).getD .none) hh hkind hcell hx hit hcap
    (.inr ⟨c, rfl, fun C d hd => by obtain ⟨a, ha, rfl⟩ := List.mem_map.mp hd; rw [hr]; exact hif C a ha⟩)
    (fun C d hd hp => by obtain ⟨a, ha, rfl⟩ := List.mem_map.mp hd; rw [hr] at hp ⊢; exact helt C a ha hp) (by simpa using hz)
  have e : ((l.map mk).filter fun d => ((r d).map p).getD false).map (fun d => ((r d).map F).getD .none) = (l.filter p).map F := by
    rw [List.filter_map, List.map_map]
    have : ((fun d => ((r d).map p).getD false) ∘ mk) = p := by funext a; simp [hr]
    rw [this]
    exact List.map_congr_left fun a _ => by simp [hr]
  rw [e] at this
  exact this
theorem core_flat {mk : α → PyData} {nk : β → PyData} {l : List α} {m : α → List β} (inj : ∀ a b, mk a = mk b → a = b) (inj2 : ∀ a b, nk a = nk b → a = b) {elt i1 i2 : Expr} {x y : Str} {px py : Pos} {scope : Scope} {cl : List (Str × Addr)} {F : α → β → PyData} (hh : A.handled = none)
    (hkind : scope.kind = .function) (hcell : ∀ y ∈ scope.names, y.2 ≠ .cell) (hx : scope.names.lookup x = some .local) (hy : scope.names.lookup y = some .local) (hxy : x ≠ y)
    (hit : It g A env ρ i1 (l.map mk)) (hcap : ∀ C W s, Vs env ρ W s → Vs (compEnvC scope cl C env) ρc W s)
    (hin : ∀ C, ∀ a ∈ l, It g A (compEnvC scope cl C env) ((x, mk a) :: ρc) i2 ((m a).map nk))
    (helt : ∀ C, ∀ a ∈ l, ∀ b ∈ m a, Ex g A (compEnvC scope cl C env) ((y, nk b) :: (x, mk a) :: ρc) elt (F a b)) (hz : (l.flatMap fun a => (m a).map (F a)).length ≤ sizeLine)
    (hs2 : ∀ C x, foldedSetIterable i2 (compEnvC scope cl C env) x = pure x := by intro _ _; rfl) :
    Core g A env ρ i1 scope cl (.ListComp elt [⟨.Name x px, i1, [], 0⟩, ⟨.Name y py, i2, [], 0⟩] scope pos) (l.flatMap fun a => (m a).map (F a)) := by
  obtain ⟨r, hr⟩ := un_mk inj
  obtain ⟨q, hq⟩ := un_mk inj2
  have e : ((l.map mk).flatMap fun d => (((r d).map fun a => (m a).map nk).getD []).map fun e => ((r d).bind fun a => (q e).map (F a)).getD .none) = l.flatMap fun a => (m a).map (F a) := by
    rw [List.flatMap_map]
    refine congrArg (fun f => l.flatMap f) ?_
    funext a
    simp only [hr, Option.map_some, Option.getD_some, Option.bind_some, List.map_map]
    exact List.map_congr_left fun b _ => by simp [hq]
  have := core_comp2 (g := g) (A := A) (env := env) (ρ := ρ) (ρc := ρc) (pos := pos) (px := px) (py := py) (elt := elt) (cl := cl) (items := l.map mk) (inner := fun d => ((r d).map fun a => (m a).map nk).getD []) (f := fun d e => ((r d).bind fun a => (q e).map (F a)).getD .none) hh hkind hcell hx hy hxy hit hcap
    (fun C d hd => by obtain ⟨a, ha, rfl⟩ := List.mem_map.mp hd; simp only [hr, Option.map_some, Option.getD_some]; exact hin C a ha)
    (fun C d hd e he => by
      obtain ⟨a, ha, rfl⟩ := List.mem_map.mp hd
      simp only [hr, Option.map_some, Option.getD_some] at he
      obtain ⟨b, hb, rfl⟩ := List.mem_map.mp he
      simp only [hr, hq, Option.bind_some, Option.map_some, Option.getD_some]
      exact helt C a ha b hb) (by rw [e]; exact hz) hs2
  rw [e] at this
  exact this

/-- the figures of a display -/
def figs : List Expr → Option (List Nat)
  | [] => some []
  | .Constant (.int (.ofNat n)) _ _ :: es => (figs es).map (n :: ·)
  | _ => none
theorem figs_exs : ∀ {es : List Expr} {l : List Nat}, figs es = some l → Exs g A env ρ es (l.map pI) ∧ es.all unstar = true
  | [], l, h => by cases h; exact ⟨.nil, rfl⟩
  | e :: es, l, h => by
    unfold figs at h
    split at h
    · cases h
      rename_i q; cases q
    · rename_i n k p es' q
      cases q
      cases hq : figs es with
      | none => rw [hq] at h; cases h
      | some l' =>
        rw [hq] at h
        cases h
        have := figs_exs hq
        exact ⟨.cons ex_int this.1, by simp [this.2, unstar]⟩
    · cases h
theorem ex_figs {es : List Expr} {l : List Nat} (h : figs es = some l) (hz : l.length ≤ sizeLine) : Ex g A env ρ (.List es pos) (pL l) := ex_list (figs_exs h).1 (by simpa using hz) (figs_exs (g := g) (A := A) (env := env) (ρ := ρ) h).2
theorem pI_inj : ∀ a b, pI a = pI b → a = b := fun a b h => by injection h with h; lia
theorem int_inj : ∀ a b, PyData.int a = PyData.int b → a = b := fun a b h => by injection h
theorem pL_inj : ∀ a b, pL a = pL b → a = b := fun a b h => by
  injection h with h
  exact List.map_inj_right pI_inj |>.mp h
theorem no_cap {W : List Addr} {s : Shared} : Vs env [] W s := Vs.nil
end
end Mine

/- Blk -/
namespace Mine
open PySem PySem.W PySem.Calls PySem.Spec PyProof.Rows
set_option Elab.async false
set_option linter.unusedVariables false
set_option maxHeartbeats 400000
set_option maxRecDepth 100000

def pick8 : List Nat := [1, 44, 34, 32, 1836, 1826, 9, 13]
def blk (x : Int) : List Nat := [x.natAbs % 4096, pick8.getD (x / 4096 % 8).toNat 0, (x / 64 % 64).toNat, (x / 32768 % 128).toNat]
def blks (xs : List Int) : List (List Nat) := [[5, 44, 34, 7], [1836, 2, 34, 32], [13, 65, 3, 5]] ++ xs.map blk

section
variable {g : Gd} {A : Around} {env : Env} {ρ : Rho} {pos : Pos}
theorem ei_divmod {l : Expr} {a : Int} {k m : Nat} {j j' : Nat} {p q r : Pos} (hl : Ex g A env ρ l (.int a)) (hb : k ≠ 0) (hm : m ≠ 0) (hs : k < 1000000000) : Ex g A env ρ (.BinOp (.BinOp l .FloorDiv (.Constant (.int (k : Nat)) j p) q) .Mod (.Constant (.int (m : Nat)) j' r) pos) (pI (a / k % m).toNat) :=
  (ex_mod (ex_floordiv hl ex_int (by lia) (PyProof.noPylong_small (by lia))) ex_int (by lia)).is (by
    rw [Int.fdiv_eq_ediv_of_nonneg _ (by lia), Int.fmod_eq_emod_of_nonneg _ (by lia), show pI _ = PyData.int _ from congrArg PyData.int (Int.toNat_of_nonneg (Int.emod_nonneg _ (by lia)))])
end

theorem blk_sp {g : Gd} {f : Addr} {cdv : Value} (F : Fd g "_law_blocks" 11 f cdv) (bA : Bn g "abs" (.builtin "abs")) {xs : List Int} (hn : xs.length ≤ 4) : Sp1 g f 1 (.list (xs.map .int)) (pLL (blks xs)) := by
  refine enter1 F (p := "numbers") (fun _ _ _ _ _ => rfl) rfl (by decide) rfl rfl rfl fun A W s₀ s L rm i E => ?_
  refine nx_set (d := pLL [[5, 44, 34, 7], [1836, 2, 34, 32], [13, 65, 3, 5]]) i rfl rfl no_cells rfl ?_ ?_
  · refine ex_list (.cons ?_ (.cons ?_ (.cons ?_ .nil))) (by simp [sizeLine_eq])
    · exact ex_figs rfl (by simp [sizeLine_eq])
    · exact ex_figs rfl (by simp [sizeLine_eq])
    · exact ex_figs rfl (by simp [sizeLine_eq])
  intro s₁ i₁
  have hz : xs.length ≤ sizeLine := by rw [sizeLine_eq]; lia
  refine ret_execs i₁ (Ex.is (d := .list ((blks xs).map pL)) ?_ rfl)
  refine (ex_add_list (a := [pL [5, 44, 34, 7], pL [1836, 2, 34, 32], pL [13, 65, 3, 5]]) (b := xs.map fun x => pL (blk x)) (ex_v rfl rfl) (ex_of_core (cl := []) ?_ rfl rfl (by decide)) ?_).is ?_
  · refine core_map (ρc := []) (l := xs) (mk := PyData.int) int_inj rm.handled rfl (by decide) rfl ?_ ?_ ?_ hz
    · exact it_list rm.handled (ex_v rfl rfl)
    · intro _ _ _ _; exact Vs.nil
    · intro C x _
      refine Ex.is (ex_list (ds := [pI (x.natAbs % 4096), pI (pick8.getD (x / 4096 % 8).toNat 0), pI (x / 64 % 64).toNat, pI (x / 32768 % 128).toNat]) (.cons ?_ (.cons ?_ (.cons ?_ (.cons ?_ .nil)))) (by simp [sizeLine_eq])) rfl
      · refine (ex_mod (b := 4096) (ex_abs ⟨rfl, rfl, rfl⟩ bA rfl (ex_v rfl rfl)) ex_int (by decide)).is ?_
        rw [show (if x < 0 then -x else x) = ((x.natAbs : Nat) : Int) by split <;> lia]
        exact congrArg PyData.int (fmod_nat _ 4096)
      · refine ex_item (ex_figs (l := pick8) rfl (by simp [sizeLine_eq, pick8])) (ei_divmod (k := 4096) (m := 8) (ex_v rfl rfl) (by decide) (by decide) (by decide)) (by lia) ?_ (by simp [sizeLine_eq, pick8])
        have : (x / ((4096 : Nat) : Int) % ((8 : Nat) : Int)).toNat < 8 := by lia
        rw [List.getElem?_map]
        simp only [Int.toNat_natCast]
        generalize hk : (x / ((4096 : Nat) : Int) % ((8 : Nat) : Int)).toNat = k at this ⊢
        match k, this with
        | 0, _ => rfl
        | 1, _ => rfl
        | 2, _ => rfl
        | 3, _ => rfl
        | 4, _ => rfl
        | 5, _ => rfl
        | 6, _ => rfl
        | 7, _ => rfl
      · exact ei_divmod (k := 64) (m := 64) (ex_v rfl rfl) (by decide) (by decide) (by decide)
      · exact ei_divmod (k := 32768) (m := 128) (ex_v rfl rfl) (by decide) (by decide) (by decide)
  · simp [sizeLine_eq]; lia
  · simp [blks]
end Mine

/- Strs -/
namespace Mine
open PySem PySem.W PySem.Calls PySem.Spec PyProof.Rows
set_option Elab.async false
set_option linter.unusedVariables false
set_option maxRecDepth 100000

abbrev sI (l : List Nat) : Str := ⟨l.toArray⟩
abbrev pS (l : List Nat) : PyData := .str (sI l)
theorem sI_app (a b : List Nat) : sI a ++ sI b = sI (a ++ b) := congrArg Str.mk (by simp)
theorem sI_len (a : List Nat) : (sI a).length = a.length := by show a.toArray.size = _; simp
def jn (sep : List Nat) : List (List Nat) → List Nat
  | [] => []
  | [x] => x
  | x :: y :: r => x ++ sep ++ jn sep (y :: r)
theorem jn_nil : ∀ ls : List (List Nat), jn [] ls = ls.flatten
  | [] => rfl
  | [x] => by simp [jn]
  | x :: y :: r => by simp only [jn, jn_nil (y :: r), List.flatten_cons, List.append_nil]
theorem join_jn (sep : List Nat) (ls : List (List Nat)) : Txt.join (sI sep) (ls.map sI) = sI (jn sep ls) := by
  show Builtin.Str.glued _ _ = _
  rw [StrLaws.glued_eq_join]
  induction ls with
  | nil => rfl
  | cons x r ih =>
    cases r with
    | nil => rfl
    | cons y r =>
      show sI x ++ sI sep ++ Str.join (sI sep) (List.map sI (y :: r)) = _
      rw [ih, sI_app, sI_app]
      rfl
theorem join_ok {sep : List Nat} {ls : List (List Nat)} (h : (ls.map List.length).sum + ls.length * sep.length ≤ sizeLine) : JoinOk (sI sep) (ls.map sI) = true := by
  unfold JoinOk
  rw [StrLaws.joinTotal]
  have e : ((ls.map sI).map (·.length)).sum = (ls.map List.length).sum := by
    rw [List.map_map]
    refine congrArg List.sum (List.map_congr_left fun a _ => sI_len a)
  rw [e, List.length_map, sI_len]
  simp [Builtin.Str.tooLong]
  lia
theorem pS_inj : ∀ a b, pS a = pS b → a = b := fun a b h => by
  injection h with h; injection h with h; simpa using congrArg Array.toList h
theorem ofs0 : Str.ofString "" = sI [] := by decide
theorem ofs1 : Str.ofString "\"" = sI [34] := by decide
theorem ofs2 : Str.ofString "\\" = sI [92] := by decide
theorem ofs3 : Str.ofString ", " = sI [44, 32] := by decide

section
variable {g : Gd} {A : Around} {env : Env} {ρ : Rho} {pos : Pos}
theorem es_add {l r : Expr} {a b : List Nat} (hl : Ex g A env ρ l (pS a)) (hr : Ex g A env ρ r (pS b)) (hz : a.length + b.length ≤ sizeLine) : Ex g A env ρ (.BinOp l .Add r pos) (pS (a ++ b)) :=
  (ex_add_str hl hr (by rw [sI_len, sI_len]; exact hz)).is (congrArg PyData.str (sI_app a b))
theorem es_str {x : Str} {k : Nat} {l : List Nat} (h : x = sI l) : Ex g A env ρ (.Constant (.str x) k pos) (pS l) := h ▸ ex_str
theorem es_chr (n : En env) {x : Str} {np : Pos} {e : Expr} {a : Nat} (b : Bn g x (.builtin "chr")) (hx : env.kindOf x = some .globalImplicit) (he : Ex g A env ρ e (pI a)) (ha : a < 128) (hs : starEach [e] env = [(false, eval e env)]) (hd : (x == ("__debug__" : Str)) = false) :
    Ex g A env ρ (.Call (.Name x np) [e] [] pos) (pS [a]) := ex_chr n b hx he ha hs hd
theorem es_join {o e : Expr} {apos : Pos} {sep : List Nat} {ls : List (List Nat)} (ho : Ex g A env ρ o (pS sep)) (he : Ex g A env ρ e (.list (ls.map pS))) (hok : (ls.map List.length).sum + ls.length * sep.length ≤ sizeLine) (hs : starEach [e] env = [(false, eval e env)]) (hbase : attributeBase o "join" env (eval o env) = eval o env) (hline : (apos.endLine == pos.line) = true) :
    Ex g A env ρ (.Call (.Attribute o "join" apos) [e] [] pos) (pS (jn sep ls)) :=
  (ex_join (xs := ls.map sI) ho (by rw [List.map_map]; exact he) (join_ok hok) hs hbase hline).is (congrArg PyData.str (join_jn sep ls))
end

def mark (o : Nat) : List Nat := (if o = 34 ∨ o = 92 then [92] else []) ++ [o]
def marked (l : List Nat) : List Nat := [34] ++ l.flatMap mark ++ [34]
theorem mark_len (o : Nat) : (mark o).length ≤ 2 := by unfold mark; split <;> simp

theorem marked_sp {g : Gd} {f : Addr} {cdv : Value} (F : Fd g "_law_marked" 14 f cdv) (bC : Bn g "chr" (.builtin "chr")) {l : List Nat} (hl : l.length ≤ 8) (h8 : ∀ o ∈ l, o < 128) : Sp1 g f 1 (pL l) (pS (marked l)) := by
  refine enter1 F (p := "octets") (fun _ _ _ _ _ => rfl) rfl (by decide) rfl rfl rfl fun A W s₀ s L rm i E => ?_
  have hs : ((l.map mark).map List.length).sum ≤ 16 := by
    have : ∀ l : List Nat, ((l.map mark).map List.length).sum ≤ 2 * l.length := fun l => by
      induction l with
      | nil => simp
      | cons a r ih => simp only [List.map_cons, List.sum_cons, List.length_cons]; have := mark_len a; lia
    have := this l; lia
  have hj : jn [] (l.map mark) = l.flatMap mark := by rw [jn_nil, List.flatMap_def]
  have hf : (l.flatMap mark).length ≤ 16 := by rw [List.flatMap_def, List.length_flatten]; exact hs
  refine ret_execs i (Ex.is (es_add (a := [34] ++ jn [] (l.map mark)) (b := [34]) (es_add (es_str (by decide)) (es_join (ls := l.map mark) (es_str (by decide)) (ex_of_core (cl := []) ?_ rfl rfl (by decide)) ?_ rfl rfl rfl) ?_) (es_str (by decide)) ?_) ?_)
  · rw [List.map_map]
    refine core_map (ρc := []) (l := l) (mk := pI) pI_inj rm.handled rfl (by decide) rfl ?_ ?_ ?_ ?_
    · exact it_list rm.handled (ex_v rfl rfl)
    · intro _ _ _ _; exact Vs.nil
    · intro C o ho
      refine es_add (a := if o = 34 ∨ o = 92 then [92] else []) (b := [o]) (ex_ifexp (c := [34, 92].contains ((o : Nat) : Int)) (tt_cmp (ex_v rfl rfl) (ex_list (ds := [34, 92].map .int) (.cons ex_int (.cons ex_int .nil)) (by simp [sizeLine_eq])) cm_in) (fun h => ?_) (fun h => ?_)) (es_chr ⟨rfl, rfl, rfl⟩ bC rfl (ex_v rfl rfl) (h8 o ho) rfl (by decide)) ?_
      · rw [if_pos (by simp at h; lia)]; exact es_str (by decide)
      · rw [if_neg (by simp at h; lia)]; exact es_str (by decide)
      · rw [sizeLine_eq]; split <;> simp
    · rw [sizeLine_eq]; lia
  · rw [sizeLine_eq]; simp only [List.length_nil]; lia
  · rw [sizeLine_eq, hj]; simp only [List.length_cons, List.length_nil]; lia
  · rw [sizeLine_eq, hj]; simp only [List.length_append, List.length_cons, List.length_nil]; lia
  · rw [hj]; rfl
end Mine

/- Shap -/
namespace Mine
open PySem PySem.W PySem.Calls PySem.Spec PyProof.Rows
set_option Elab.async false
set_option linter.unusedVariables false
set_option maxRecDepth 100000

def Sh (n : Nat) (d : PyData) : Prop := d.canLay0 = true ∧ d.depth ≤ n
theorem Sh.int {n : Nat} {i : Int} : Sh n (.int i) := ⟨by simp [PyData.canLay0], by simp [PyData.depth]⟩
theorem Sh.str {n : Nat} {l : List Nat} (h : ∀ c ∈ l, c < 0x110000) : Sh n (pS l) := ⟨by simp [PyData.canLay0, PyData.strOk]; exact h, by simp [PyData.depth]⟩
theorem Sh.all {n : Nat} : ∀ {ds : List PyData}, (∀ d ∈ ds, Sh n d) → PyData.canLayAll0 ds = true ∧ PyData.depthAll ds ≤ n
  | [], _ => ⟨by simp [PyData.canLayAll0], by simp [PyData.depthAll]⟩
  | d :: ds, h => by
    have h1 := h d (.head _)
    have h2 := Sh.all fun x hx => h x (.tail _ hx)
    exact ⟨by simp [PyData.canLayAll0, h1.1, h2.1], by simp only [PyData.depthAll]; have := h1.2; have := h2.2; lia⟩
theorem Sh.list {n : Nat} {ds : List PyData} (h : ∀ d ∈ ds, Sh n d) : Sh (n + 1) (.list ds) := ⟨by simp [PyData.canLay0, (Sh.all h).1], by simp only [PyData.depth]; have := (Sh.all h).2; lia⟩
theorem Sh.tuple {n : Nat} {ds : List PyData} (h : ∀ d ∈ ds, Sh n d) : Sh (n + 1) (.tuple ds) := ⟨by simp [PyData.canLay0, (Sh.all h).1], by simp only [PyData.depth]; have := (Sh.all h).2; lia⟩
theorem Sh.lmap {n : Nat} {α : Type} {mk : α → PyData} {l : List α} (h : ∀ a ∈ l, Sh n (mk a)) : Sh (n + 1) (.list (l.map mk)) := Sh.list fun d hd => by obtain ⟨a, ha, rfl⟩ := List.mem_map.mp hd; exact h a ha
theorem Sh.shaped {d : PyData} {n : Nat} (h : Sh n d) (hn : n ≤ 64) : SeqAt.shaped d = true := by
  unfold SeqAt.shaped; rw [h.1]; simp; exact Nat.le_trans h.2 hn
theorem Sh.pL {l : List Nat} : Sh 1 (pL l) := Sh.lmap fun _ _ => Sh.int
theorem Sh.pLL {l : List (List Nat)} : Sh 2 (pLL l) := Sh.lmap fun _ _ => Sh.pL

def EqF {α : Type} [DecidableEq α] (mk : α → PyData) : Prop := ∀ a b, PyData.eqv (mk a) (mk b) = decide (a = b)
theorem EqF.pI : EqF pI := fun a b => by simp only [PyData.eqv]; by_cases h : a = b <;> simp [h]; lia
theorem eqvAll_map {α : Type} [DecidableEq α] {mk : α → PyData} (h : EqF mk) : ∀ a b : List α, PyData.eqvAll (a.map mk) (b.map mk) = decide (a = b)
  | [], [] => by simp [PyData.eqvAll]
  | [], _ :: _ => by simp [PyData.eqvAll]
  | _ :: _, [] => by simp [PyData.eqvAll]
  | a :: as, b :: bs => by simp only [List.map_cons, PyData.eqvAll, h a b, eqvAll_map h as bs, List.cons.injEq, Bool.decide_and]
theorem EqF.list {α : Type} [DecidableEq α] {mk : α → PyData} (h : EqF mk) : EqF fun l : List α => PyData.list (l.map mk) := fun a b => by simp only [PyData.eqv]; exact eqvAll_map h a b
theorem EqF.pL : EqF pL := EqF.list EqF.pI
theorem EqF.pLL : EqF pLL := EqF.list EqF.pL
theorem EqF.pS : EqF pS := fun a b => by
  simp only [PyData.eqv]
  by_cases h : a = b
  · subst h; simp
  · have : sI a ≠ sI b := fun q => h (by injection q with q; simpa using congrArg Array.toList q)
    simp [h]
section
variable {g : Gd} {A : Around} {env : Env} {ρ : Rho} {pos : Pos}
theorem ce_eq {α : Type} [DecidableEq α] {mk : α → PyData} (h : EqF mk) {a b : α} {n : Nat} (ha : Sh n (mk a)) (hb : Sh n (mk b)) (hn : n ≤ 64) (hu : A.units + 64 < cLine) : Cm g A .Eq (mk a) (mk b) (decide (a = b)) :=
  (cm_eqv (ha.shaped hn) (hb.shaped hn) hu).is (h a b)
theorem ce_ne {α : Type} [DecidableEq α] {mk : α → PyData} (h : EqF mk) {a b : α} {n : Nat} (ha : Sh n (mk a)) (hb : Sh n (mk b)) (hn : n ≤ 64) (hu : A.units + 64 < cLine) : Cm g A .NotEq (mk a) (mk b) (decide (a ≠ b)) :=
  (cm_nev (ha.shaped hn) (hb.shaped hn) hu).is (by rw [h a b]; simp)

/-- what a comprehension catches of the block's cells -/
theorem Vs.catch {W : List Addr} {s : Shared} {env' : Env} {x : Str} {c : Addr} {d : PyData} {ρ' : Rho} (v : Vs env ρ W s) (hl : look x ρ = some d) (hk : env.kindOf x = some .cell ∨ (env.kindOf x = some .free ∧ (x == ("__classdict__" : Str)) = false)) (hc : env.cells.lookup x = some c)
    (hk' : env'.kindOf x = some .cell ∨ env'.kindOf x = some .free) (hc' : env'.cells.lookup x = some c) (hd : (x == ("__classdict__" : Str)) = false) (r : Vs env' ρ' W s) : Vs env' ((x, d) :: ρ') W s := by
  obtain ⟨u, y, ru⟩ := v _ (look_mem hl)
  refine Vs.cons (v := u) ?_ ru r
  cases y with
  | loc m h _ _ _ => exact absurd h (by rcases hk with hk | hk <;> simp [hk])
  | cell c2 _ h2 hT hv => rw [hc] at h2; cases h2; exact hk'.elim (fun q => .cell c q hc' hT hv) fun q => .free c q hd hc' hT hv
  | free c2 _ _ h2 hT hv => rw [hc] at h2; cases h2; exact hk'.elim (fun q => .cell c q hc' hT hv) fun q => .free c q hd hc' hT hv
end
end Mine

/- Bare -/
namespace Mine
open PySem PySem.W PySem.Calls PySem.Spec PyProof.Rows
set_option Elab.async false
set_option linter.unusedVariables false
set_option maxRecDepth 100000
set_option maxHeartbeats 400000

def ws10 : List Nat := [9, 10, 11, 12, 13, 28, 29, 30, 31, 32]
def inner (l : List Nat) : List Nat := (List.range l.length).filter fun k => !ws10.contains (l.getD k 0)
def bare (l : List Nat) : List Nat := if inner l = [] then [] else (l.drop ((inner l).getD 0 0)).take ((inner l).getD ((inner l).length - 1) 0 + 1 - (inner l).getD 0 0)

theorem inner_lt {l : List Nat} {k : Nat} (h : k ∈ inner l) : k < l.length := by
  unfold inner at h
  have := (List.mem_filter.mp h).1
  simpa using this
theorem getD_mem {l : List Nat} {i : Nat} (h : i < l.length) : l.getD i 0 ∈ l := by
  rw [List.getD_eq_getElem?_getD, List.getElem?_eq_getElem h]; exact List.getElem_mem h
theorem some_getD {l : List Nat} {i : Nat} (h : i < l.length) : l[i]? = some (l.getD i 0) := by
  rw [List.getD_eq_getElem?_getD, List.getElem?_eq_getElem h]; rfl

theorem cn_notin {g : Gd} {A : Around} {a : Nat} {ns : List Nat} : Cm g A .NotIn (pI a) (pL ns) (!ns.contains a) := by
  have := cm_notin (g := g) (A := A) (a := (a : Int)) (ns := ns.map fun n : Nat => (n : Int))
  rw [List.map_map] at this
  refine Cm.is this ?_
  congr 1
  rw [Bool.eq_iff_iff]
  simp only [List.contains_iff_mem, List.mem_map]
  exact ⟨fun ⟨b, h1, h2⟩ => by rwa [show a = b by lia], fun h => ⟨a, h, rfl⟩⟩
theorem cn_in {g : Gd} {A : Around} {a : Nat} {ns : List Nat} : Cm g A .In (pI a) (pL ns) (ns.contains a) := by
  have := cm_in (g := g) (A := A) (a := (a : Int)) (ns := ns.map fun n : Nat => (n : Int))
  rw [List.map_map] at this
  refine Cm.is this ?_
  rw [Bool.eq_iff_iff]
  simp only [List.contains_iff_mem, List.mem_map]
  exact ⟨fun ⟨b, h1, h2⟩ => by rwa [show a = b by lia], fun h => ⟨a, h, rfl⟩⟩

theorem bare_sp {g : Gd} {f : Addr} {cdv : Value} (F : Fd g "_law_bare" 15 f cdv) (bR : Bn g "range" (.type "range")) (bL : Bn g "len" (.builtin "len")) {l : List Nat} (hl : l.length ≤ 1000) : Sp1 g f 1 (pL l) (pL (bare l)) := by
  refine enter1c F (p := "row") (fun _ _ _ _ _ => rfl) (.inr ⟨rfl, fun _ => rfl⟩) rfl rfl rfl (fun A W s₀ s L rm i hcs hab hap E => ?_) (fun n => by show ([(("row" : Str), n)].map fun x => x.1).Nodup; simp)
  have hcells : ∀ c ∈ (envX "_law_bare" (fScope 15) L f cdv (cellsFrom (L + 1) (fScope 15).names [])).cells, c.2 ≠ (envX "_law_bare" (fScope 15) L f cdv (cellsFrom (L + 1) (fScope 15).names [])).locals := fun c hc => neN (by have := hab c hc; show @Ne Nat c.2 L; lia)
  have hz : l.length ≤ sizeLine := by rw [sizeLine_eq]; lia
  have hu := rm.units
  refine nx_set_comp (cl := [("row", L + 1)]) (outs := (inner l).map pI) i rfl rfl hcells rfl (fun _ => rfl) rfl rfl (by decide) ?_ ?_
  · refine core_filter (ρc := [("row", pL l)]) (l := List.range l.length) (mk := pI) (p := fun k => !ws10.contains (l.getD k 0)) (F := pI) pI_inj rm.handled rfl (by decide) rfl ?_ ?_ ?_ ?_ ?_
    · exact it_range1 ⟨rfl, rfl, rfl⟩ (k := l.length) rm.handled bR rfl ((ex_len ⟨rfl, rfl, rfl⟩ bL rfl (ex_v rfl rfl) (by simpa using hz)).is (by simp)) hz
    · intro C W s v
      exact Vs.catch v rfl (.inl rfl) rfl (.inl rfl) rfl (by decide) Vs.nil
    · intro C k hk
      have hk' : k < l.length := by simpa using hk
      refine tt_cmp (ex_item (d := pI (l.getD k 0)) (ex_v rfl rfl) (ex_v rfl rfl) (by lia) ?_ (by simpa using hz)) (ex_figs (l := ws10) rfl (by simp [ws10, sizeLine_eq])) cn_notin
      rw [Int.toNat_natCast, List.getElem?_map, some_getD hk']; rfl
    · intro C k hk _
      exact ex_v rfl rfl
    · simpa using hz
  · intro s₁ i₁
    have hil : (inner l).length ≤ l.length := by
      have := List.length_filter_le (fun k => !ws10.contains (l.getD k 0)) (List.range l.length)
      simpa [inner] using this
    have hz2 : ((inner l).map pI).length ≤ sizeLine := by rw [List.length_map]; lia
    refine ret_execs i₁ (ex_ifexp (c := decide (inner l ≠ [])) (tt_cmp (ex_v rfl rfl) (ex_figs (l := []) rfl (by simp [sizeLine_eq])) (ce_ne EqF.pL Sh.pL Sh.pL (by decide) (by lia))) (fun h => ?_) (fun h => ?_))
    · have hne : inner l ≠ [] := by simpa using h
      have hp : 0 < (inner l).length := List.length_pos_iff.mpr hne
      have h0 := inner_lt (getD_mem hp)
      have h1 := inner_lt (getD_mem (l := inner l) (i := (inner l).length - 1) (by lia))
      refine (ex_slice (a := (inner l).getD 0 0) (b := (inner l).getD ((inner l).length - 1) 0 + 1) (ex_v rfl rfl) (pt_some (ex_item (d := pI ((inner l).getD 0 0)) (k := 0) (ex_v rfl rfl) ex_int (by decide) ?_ hz2)) (pt_some (en_add (b := 1) (ex_item_neg (d := pI ((inner l).getD ((inner l).length - 1) 0)) (k := -1) (ex_v rfl rfl) (ex_neg ex_int) (by decide) ?_ ?_ hz2) en_int)) ?_ (by simpa using hz)).is ?_
      · rw [List.getElem?_map]; simp only [Int.toNat_zero]; rw [some_getD hp]; rfl
      · rw [List.length_map]; lia
      · rw [List.length_map, show (-1 + ((inner l).length : Int)).toNat = (inner l).length - 1 by lia, List.getElem?_map, some_getD (by lia)]; rfl
      · rw [kms_bounds, List.length_map]
        simp only [kms_lo, kms_hi]
        rw [if_neg (by lia), if_neg (by lia)]
        simp only [Int.toNat_natCast]
        rw [Nat.min_eq_left (by lia), Nat.min_eq_left (by lia)]
      · simp only [bare, if_neg hne, pL, List.map_take, List.map_drop]
    · have he : inner l = [] := by simpa using h
      exact (ex_figs (l := []) rfl (by simp [sizeLine_eq])).is (by simp [bare, he])
end Mine

/- Own -/
namespace Mine
open PySem PySem.W PySem.Calls PySem.Spec PyProof.Rows
set_option Elab.async false
set_option linter.unusedVariables false
set_option maxRecDepth 100000

section
variable {g : Gd} {A : Around} {env : Env} {ρ ρ' : Rho} {pos : Pos}

theorem IsL_kept {W : List Addr} {s s' : Shared} {D : Addr} {its : Array Value} {n : Nat} (h : IsL s.heap D its n) (k : Kept W s s') (hT : D ≠ tT) : IsL s'.heap D its n := k.exact hT h fun es ep q => by cases q

theorem Kept.back {W : List Addr} {s s' : Shared} (k : Kept W s s') {a : Addr} (ha : s'.heap.get? a = none) (hT : a ≠ tT) : s.heap.get? a = none := by
  cases e : s.heap.get? a with
  | none => rfl
  | some o =>
    by_cases hw : a ∈ W
    · obtain ⟨sl, e', _⟩ := k.slots a o hw hT e; rw [ha] at e'; cases e'
    · rw [k.keep a o hw e] at ha; cases ha

theorem In.neT {N W : List Addr} {s₀ s : Shared} (i : In g A env ρ N W s₀ s) {a : Addr} (ha : a ∈ N) : a ≠ tT := i.w0.ne_T (i.new a ha)
theorem In.locNe {N W : List Addr} {s₀ s : Shared} (i : In g A env ρ N W s₀ s) {D : Addr} {its : Array Value} {n : Nat} (h : IsL s.heap D its n) : env.locals ≠ D := fun q => by
  obtain ⟨m, o, es, ep, e, ed, _⟩ := i.ns
  rw [q, h] at e; cases e; cases ed

/-- an owned list turns -/
theorem In.turn {N W : List Addr} {s₀ s : Shared} {D : Addr} {its : Array Value} {n k : Nat} {h' : Heap} (i : In g A env ρ N W s₀ s) (hD : D ∈ N) (hl : IsL s.heap D its n) (hs : Heap.ExtBut D s.heap h') (hl' : ∃ o, h'.get? D = some o)
    (hc : ∀ c ∈ env.cells, c.2 ≠ D) : In g A env ρ N W s₀ { s with heap := h', toks := k } := by
  have hDT := i.neT hD
  have hDm : D ∈ N ++ W := List.mem_append_left _ hD
  refine ⟨i.kept.own hs (i.new D hD) hDT, i.new, ⟨i.wo.wd.turn hs hDm hDT hl', i.wo.fs.turn hs (fun o es ep e ed => ?_), fun p hp => ?_⟩, ?_, i.loc, i.w0⟩
  · rw [hl] at e; cases e; cases ed
  · obtain ⟨v, y, r⟩ := i.wo.vs p hp
    exact ⟨v, y.turn hs (i.locNe hl) (fun c h => hc _ (mem_of_lookup h)), r.own hs hDm⟩
  · obtain ⟨m, hn⟩ := i.ns
    exact ⟨m, hn.extBut hs (i.locNe hl)⟩

/-- one more is owned -/
theorem In.grow {N W : List Addr} {s₀ s s' : Shared} {a : Addr} (i : In g A env ρ N W s₀ s) (k : Kept (N ++ W) s s') (ha : s.heap.get? a = none) (hl : ∃ o, s'.heap.get? a = some o) : In g A env ρ (a :: N) W s₀ s' := by
  have hN : ∀ b ∈ [a], s.heap.get? b = none := fun b hb => by obtain rfl : b = a := (by simpa using hb); exact ha
  have haT := i.wo.wd.ne_T ha
  have j := i.step k
  refine ⟨j.kept, fun b hb => ?_, ⟨i.wo.wd.grow (N := [a]) k hN (fun b hb => by obtain rfl : b = a := (by simpa using hb); exact hl), i.wo.fs.grow (N := [a]) k, i.wo.vs.grow (N := [a]) k hN⟩, j.ns, .tail _ i.loc, i.w0⟩
  cases hb with
  | head => exact i.kept.back ha haT
  | tail _ hb => exact i.new b hb

/-- some are owned no more -/
theorem In.out {N N' W : List Addr} {s₀ s : Shared} (i : In g A env ρ N W s₀ s) (hs : ∀ a ∈ N', a ∈ N) (hd : ∀ a ∈ N, a ∉ N' → ∃ o, s.heap.get? a = some o ∧ ∀ es ep, o.data ≠ .dict es ep) (hloc : env.locals ∈ N') : In g A env ρ N' W s₀ s := by
  have sub : ∀ a ∈ N' ++ W, a ∈ N ++ W := fun a ha => (List.mem_append.mp ha).elim (fun h => List.mem_append_left _ (hs a h)) fun h => List.mem_append_right _ h
  refine ⟨i.kept, fun a ha => i.new a (hs a ha), ⟨⟨?_, i.wo.wd.tab, fun a ha => i.wo.wd.live a (sub a ha), i.wo.wd.known.keeps (hide_less sub), (Mk.iff fun a ha => i.neT (hs a ha)).trans ((Mk.iff fun a ha => i.neT ha).symm.trans i.wo.wd.mode)⟩, ?_, fun p hp => ?_⟩, i.ns, hloc, i.w0⟩
  · rcases List.mem_append.mp i.wo.wd.tW with h | h
    · exact absurd rfl (i.neT h)
    · exact List.mem_append_right _ h
  · obtain ⟨envs, e, hh⟩ := i.wo.fs
    refine ⟨envs, e, fun env' he => ?_⟩
    obtain ⟨h1, L, o, es, ep, h2, h3, h4, h5, h6⟩ := hh env' he
    refine ⟨h1, L, o, es, ep, h2, ?_, h4, h5, h6⟩
    rcases List.mem_append.mp h3 with h | h
    · by_cases q : L ∈ N'
      · exact List.mem_append_left _ q
      · obtain ⟨o', e', nd⟩ := hd L h q
        rw [h5] at e'; cases e'
        exact absurd h6 (nd es ep)
    · exact List.mem_append_right _ h
  · obtain ⟨v, y, r⟩ := i.wo.vs p hp
    exact ⟨v, y, r.less sub⟩

/-- a value known by name is also data -/
theorem In.know {N W : List Addr} {s₀ s : Shared} {x : Str} {v : Value} {d : PyData} (i : In g A env ρ N W s₀ s) (h : Has env s.heap x v) (r : Rd (N ++ W) s v d) : In g A env ((x, d) :: ρ) N W s₀ s :=
  ⟨i.kept, i.new, ⟨i.wo.wd, i.wo.fs, Vs.cons h r i.wo.vs⟩, i.ns, i.loc, i.w0⟩

/-- a store into a local name, with all that is kept -/
theorem In.store2 {N W : List Addr} {s₀ s : Shared} {x : Str} {v : Value} (i : In g A env ρ N W s₀ s) (hx : env.kindOf x = some .local) (hf : env.scope.kind = .function) (hcells : ∀ c ∈ env.cells, c.2 ≠ env.locals)
    {M : Model} {E : Value → Shared → Prop} {Q : Unit → Shared → Prop} (h : ∀ h', Heap.ExtBut env.locals s.heap h' → (∀ y u, y ≠ x → Has env s.heap y u → Has env h' y u) → Has env h' x v → In g A env (del x ρ) N W s₀ { s with heap := h', toks := s.toks + 1 } → Q () { s with heap := h', toks := s.toks + 1 }) : wpAny M A (storeName env x v) Q E s := by
  obtain ⟨m, hn⟩ := i.ns
  have hLT := i.w0.ne_T (i.new _ i.loc)
  have hLm : env.locals ∈ N ++ W := List.mem_append_left _ i.loc
  refine wpAny_storeName_local hx hn (fun h' hn' hs => ?_) (by rw [hf]; rfl)
  have keep : ∀ y u, y ≠ x → Has env s.heap y u → Has env h' y u := fun y u hne hy => by
    cases hy with
    | loc m₂ hk hT hn₂ hv =>
      have : m y = m₂ y := by
        obtain ⟨o, es, ep, e, ed, _, hm⟩ := hn
        obtain ⟨o2, es2, ep2, e2, ed2, _, hm2⟩ := hn₂
        rw [e] at e2; cases e2; rw [ed] at ed2; cases ed2
        rw [← hm, ← hm2]
      exact .loc _ hk hT hn' (by simp [hne, this, hv])
    | cell c hk hc hT hv => exact .cell c hk hc hT (let ⟨o, e, r⟩ := hv; ⟨o, hs.extBut _ _ (hcells _ (mem_of_lookup hc)) e, r⟩)
    | free c hk hn3 hc hT hv => exact .free c hk hn3 hc hT (let ⟨o, e, r⟩ := hv; ⟨o, hs.extBut _ _ (hcells _ (mem_of_lookup hc)) e, r⟩)
  refine h h' hs.extBut keep (.loc _ hx hLT hn' (by simp)) ⟨i.kept.own hs.extBut (i.new _ i.loc) hLT, i.new, ⟨i.wo.wd.turn hs.extBut hLm hLT ?_, i.wo.fs.turn hs.extBut ?_, fun p hp => ?_⟩, ⟨_, hn'⟩, i.loc, i.w0⟩
  · obtain ⟨o, _, _, e, _⟩ := hn'; exact ⟨o, e⟩
  · intro o es ep _ _
    obtain ⟨o', es', ep', e, e2, _⟩ := hn'; exact ⟨o', es', ep', e, e2⟩
  · obtain ⟨hp, hne⟩ := del_mem hp
    obtain ⟨u, y, ru⟩ := i.wo.vs p hp
    exact ⟨u, keep _ _ hne y, ru.own (k := s.toks + 1) hs.extBut hLm⟩

/-- o.append(e) -/
theorem app_stmt {N W : List Addr} {s₀ s : Shared} {D : Addr} {vs : List Value} {n : Nat} {o e : Expr} {apos p2 : Pos} {d : PyData} (i : In g A env ρ N W s₀ s) (hD : D ∈ N) (hl : IsL s.heap D vs.toArray n) (hz : vs.length ≤ sizeLine) (hc : ∀ c ∈ env.cells, c.2 ≠ D)
    (ho : ∀ (E : Value → Shared → Prop) (Q : Value → Shared → Prop), (∀ s₁, Kept (N ++ W) s s₁ → Q (.ref D) s₁) → wpAny g.M A (eval o env) Q E s) (he : Ex g A env ρ e d)
    (hbase : attributeBase o "append" env (eval o env) = eval o env) (hs : starEach [e] env = [(false, eval e env)]) (hline : (apos.endLine == pos.line) = true) (hi : interactive env = false) (hsw : swapsWith (.Call (.Attribute o "append" apos) [e] [] pos) none p2.line env = pure false)
    {E : Value → Shared → Prop} {Q : Flow → Shared → Prop} (h : ∀ s₁ h' v, Kept (N ++ W) s s₁ → Rd (N ++ W) s₁ v d → Heap.ExtBut D s₁.heap h' → IsL h' D (vs ++ [v]).toArray (n + 1) → In g A env ρ N W s₀ { s₁ with heap := h' } → Q .next { s₁ with heap := h' }) :
    wpAny g.M A (exec (.Expr (.Call (.Attribute o "append" apos) [e] [] pos) p2) env) Q E s := by
  refine wpAny_Expr (Call_method1 hbase hs hline (ho E _ fun s₁ k₁ => ?_)) hi hsw
  have hl₁ := IsL_kept hl k₁ (i.neT hD)
  refine ⟨"list", "list.append", PySem.F.plainAttrs_list, PySem.F.slot_list_append, PySem.F.type_list_append, ⟨_, hl₁, rfl⟩, (fun a q => by cases q; exact ⟨_, hl₁, rfl⟩), P.append_list (he.run _ s₁ (i.wo.kept k₁) E _ fun v s₂ k₂ r₂ => ?_)⟩
  have hl₂ := IsL_kept hl₁ k₂ (i.neT hD)
  have i₂ := i.step (k₁.trans k₂)
  refine ⟨vs.toArray, n, by simpa using hz, hl₂, h s₂ _ v (k₁.trans k₂) r₂ (Heap.SameBut.update ..).extBut ?_ (i₂.turn (k := s₂.toks) hD hl₂ (Heap.SameBut.update ..).extBut ⟨_, hl₂.update _⟩ hc)⟩
  have := hl₂.update fun xs => xs.push v
  simpa using this

/-- o.append([]) -/
theorem app_new {N W : List Addr} {s₀ s : Shared} {D : Addr} {vs : List Value} {n : Nat} {o : Expr} {lp apos p2 : Pos} (i : In g A env ρ N W s₀ s) (hD : D ∈ N) (hl : IsL s.heap D vs.toArray n) (hz : vs.length ≤ sizeLine) (hc : ∀ c ∈ env.cells, c.2 ≠ D)
    (ho : ∀ (E : Value → Shared → Prop) (Q : Value → Shared → Prop), (∀ s₁, Kept (N ++ W) s s₁ → Q (.ref D) s₁) → wpAny g.M A (eval o env) Q E s)
    (hbase : attributeBase o "append" env (eval o env) = eval o env) (hline : (apos.endLine == pos.line) = true) (hi : interactive env = false) (hsw : swapsWith (.Call (.Attribute o "append" apos) [.List [] lp] [] pos) none p2.line env = pure false)
    {E : Value → Shared → Prop} {Q : Flow → Shared → Prop} (h : ∀ s₁ h' F, Kept (N ++ W) s s₁ → s.heap.get? F = none → F ≠ D → IsL s₁.heap F #[] 0 → Heap.ExtBut D s₁.heap h' → IsL h' D (vs ++ [Value.ref F]).toArray (n + 1) → In g A env ρ (F :: N) W s₀ { s₁ with heap := h' } → Q .next { s₁ with heap := h' }) :
    wpAny g.M A (exec (.Expr (.Call (.Attribute o "append" apos) [.List [] lp] [] pos) p2) env) Q E s := by
  refine wpAny_Expr (Call_method1 hbase rfl hline (ho E _ fun s₁ k₁ => ?_)) hi hsw
  have hl₁ := IsL_kept hl k₁ (i.neT hD)
  refine ⟨"list", "list.append", PySem.F.plainAttrs_list, PySem.F.slot_list_append, PySem.F.type_list_append, ⟨_, hl₁, rfl⟩, (fun a q => by cases q; exact ⟨_, hl₁, rfl⟩), P.append_list (List_ (spliced_nil (wpAny_newObj_type ?_ (by show ([] : List Value).toArray.size ≤ sizeLine; simp))))⟩
  have k₂ : Kept (N ++ W) s { s₁ with heap := s₁.heap.push { cls := .type "list", data := .seq ([] : List Value).toArray } } := k₁.trans .push'
  have hl₂ := hl₁.push { cls := .type "list", data := .seq ([] : List Value).toArray }
  have hF := IsL.new s₁.heap ([] : List Value).toArray
  have f₁ : s₁.heap.get? s₁.heap.objs.size = none := Heap.get?_none_of_le (Nat.le_refl _)
  have fs : s.heap.get? s₁.heap.objs.size = none := k₁.back f₁ ((i.wo.wd.kept k₁).ne_T f₁)
  have hne : s₁.heap.objs.size ≠ D := fun q => by rw [q] at f₁; have e := hl₁; unfold IsL at e; rw [f₁] at e; cases e
  have i₂ := i.grow k₂ fs ⟨_, hF⟩
  have hfin := hl₂.update fun xs => xs.push (Value.ref s₁.heap.objs.size)
  refine ⟨vs.toArray, n, by simpa using hz, hl₂, h _ _ _ k₂ fs hne hF (Heap.SameBut.update ..).extBut ?_ (i₂.turn (k := s₁.toks) (.tail _ hD) hl₂ (Heap.SameBut.update ..).extBut ⟨_, hl₂.update _⟩ hc)⟩
  simpa using hfin

theorem add_raw {l b : Addr} {vs us : List Value} {s : Shared} {E : Value → Shared → Prop} {Q : Value → Shared → Prop} (hl : s.heap.IsList l vs.toArray) (hb : s.heap.IsList b us.toArray) (hz : vs.length + us.length ≤ sizeLine)
    (h : Q (.ref s.heap.objs.size) { s with heap := s.heap.push { cls := .type "list", data := .seq (vs ++ us).toArray } }) : wpAny g.M A (binaryOp .Add (.ref l) (.ref b)) Q E s := by
  obtain ⟨⟨cls, dd, data, sl⟩, ho, hc, n, hd⟩ := hl
  obtain ⟨⟨cls2, dd2, data2, sl2⟩, ho2, hc2, n2, hd2⟩ := hb
  simp only at hc hd hc2 hd2
  subst hc hd hc2 hd2
  refine concat_meets ⟨_, ho, rfl⟩ ⟨_, ho2, rfl⟩ noFill_list_add seq_list_add PySem.F.slot_list_add PySem.F.entry_list_add (PySem.F.args_list_add_2 _ _) (list_addW l b vs.toArray us.toArray n n2 dd dd2 sl sl2 (by simpa using hz)) ⟨ho, ho2, ?_⟩
  simpa using h
end
end Mine

/- Cut -/
namespace Mine
open PySem PySem.W PySem.Calls PySem.Spec PyProof.Rows
set_option Elab.async false
set_option linter.unusedVariables false
set_option maxRecDepth 100000
set_option maxHeartbeats 400000

def quoted : List Nat → List Nat → List Nat × List Nat
  | [], cur => (cur, [])
  | 34 :: r, cur => (cur ++ [34], r)
  | [92], cur => (cur, [])
  | 92 :: c :: r, cur => quoted r (cur ++ [c])
  | c :: r, cur => quoted r (cur ++ [c])
theorem quoted_len : ∀ (r cur : List Nat), (quoted r cur).2.length ≤ r.length := fun r cur => by
  fun_induction quoted r cur <;> simp_all <;> lia
def cutGo (r : List Nat) (done : List (List Nat)) (cur : List Nat) : List (List Nat) × List Nat :=
  match r with
  | [] => (done, cur)
  | c :: r =>
    if c = 44 then cutGo r (done ++ [cur]) []
    else if c = 34 then
      have : (quoted r (cur ++ [34])).2.length < (c :: r).length := Nat.lt_succ_of_le (quoted_len r _)
      cutGo (quoted r (cur ++ [34])).2 done (quoted r (cur ++ [34])).1
    else cutGo r done (cur ++ [c])
termination_by r.length
def cut (l : List Nat) : List (List Nat) :=
  (cutGo l [] []).1.map bare ++ ([(cutGo l [] []).2].filter fun p => decide (p ≠ [])).map bare

theorem sub_raw {g : Gd} {A : Around} {value slice : Expr} {o i : Value} {T id : String} {s : Shared} {E : Value → Shared → Prop} {Q : Value → Shared → Prop} (hT : s.TypeIs o T)
    (hl : typeLookup (.type T) "__getitem__" = pure (some (.builtin id))) (h : wpAny g.M A (getItem o i) Q E s)
    (hs : subscripted slice false o i = operate [o, i] (getItem o i)) : wpAny g.M A (subscriptTail value slice o i) Q E s := by
  unfold subscriptTail
  refine wpAny_bind ?_
  rw [getitemInPython_of_ne hT.not_modules]
  refine wpAny_bind (wpAny_specialOf hT hl ?_)
  have fin : wpAny g.M A (subscripted slice false o i) (fun r s₃ => wpAny g.M A (letTemporaryGo value o r >>= fun _ => pure r) Q E s₃) E s := by
    rw [hs]
    exact wpAny_operating (wpAny_mono h (fun r s₃ h₃ => wpAny_bind (wpAny_letTemp ⟨_, _, rfl⟩ (wpAny_pure h₃))) fun _ _ x => x)
  first
    | exact wpAny_pure (wpAny_bind fin)
    | exact wpAny_bind (wpAny_pure (wpAny_bind fin))
    | exact wpAny_bind fin

section
variable {g : Gd} {A : Around} {env : Env} {ρ ρ' : Rho} {pos : Pos}

/-- x[-1] of an owned list -/
theorem last_eval {N W : List Addr} {s₀ s : Shared} {x : Str} {P : Addr} {vs : List Value} {v : Value} {n : Nat} {px p1 p2 : Pos} (i : In g A env ρ N W s₀ s) (hf : env.scope.kind = .function) (hP : P ∈ N) (hx : Has env s.heap x (.ref P)) (hl : IsL s.heap P (vs ++ [v]).toArray n) (hz : vs.length < sizeLine)
    (hd : (x == ("__debug__" : Str)) = false) {E : Value → Shared → Prop} {Q : Value → Shared → Prop} (h : ∀ s₁, Kept (N ++ W) s s₁ → Q v s₁) : wpAny g.M A (eval (.Subscript (.Name x px) (.UnaryOp .USub (.Constant (.int 1) 0 p1) p2) pos) env) Q E s := by
  refine Subscript_ (Has.name hf hx hd ((ex_neg (g := g) (A := A) (env := env) (ρ := ρ) ex_int).run _ s i.wo E _ fun u s₁ k₁ r₁ => ?_))
  obtain ⟨t, rfl⟩ := r₁.int_inv
  have hl₁ := IsL_kept hl k₁ (i.neT hP)
  refine sub_raw hl₁.isList.typeIs slot_list_getitem.lookup (wpAny_getItem_list_neg hl₁.isList (by decide) (by simp; lia) (by rw [sizeLine_eq] at hz; simp) ?_ (h _ k₁)) rfl
  have : ((-1 : Int) + ((vs ++ [v]).toArray.size : Nat)).toNat = vs.length := by simp; lia
  rw [this]; simp

/-- the state of the cutting -/
structure Cut (g : Gd) (A : Around) (env : Env) (W : List Addr) (s₀ : Shared) (l : List Nat) (P : Addr) (dn : List (List Nat)) (cur : List Nat) (k : Nat) (Q : Addr) (s : Shared) : Prop where
  i : In g A env [("octets", pL l), ("k", pI k)] [P, Q, env.locals] W s₀ s
  np : Has env s.heap "pieces" (.ref P)
  lp : ∃ vs n, IsL s.heap P (vs ++ [Value.ref Q]).toArray n ∧ RdAll ([P, Q, env.locals] ++ W) s vs (dn.map pL)
  lq : ∃ qs n, IsL s.heap Q qs.toArray n ∧ RdAll ([P, Q, env.locals] ++ W) s qs (cur.map pI)
  ne : P ≠ Q

theorem Cut.kept {W : List Addr} {s₀ s s' : Shared} {l : List Nat} {P Q : Addr} {dn : List (List Nat)} {cur : List Nat} {k : Nat} (c : Cut g A env W s₀ l P dn cur k Q s) (kk : Kept ([P, Q, env.locals] ++ W) s s') : Cut g A env W s₀ l P dn cur k Q s' :=
  ⟨c.i.step kk, c.np.kept kk, let ⟨vs, n, h1, h2⟩ := c.lp; ⟨vs, n, IsL_kept h1 kk (c.i.neT (by simp)), h2.kept kk⟩, let ⟨vs, n, h1, h2⟩ := c.lq; ⟨vs, n, IsL_kept h1 kk (c.i.neT (by simp)), h2.kept kk⟩, c.ne⟩

/-- an env of a def without cells -/
structure Pe (env : Env) : Prop where
  fn : env.scope.kind = .function
  nc : env.cells = []

theorem cut_setk {W : List Addr} {s₀ s : Shared} {l : List Nat} {P Q : Addr} {dn : List (List Nat)} {cur : List Nat} {k k' : Nat} (pe : Pe env) (c : Cut g A env W s₀ l P dn cur k Q s) {e : Expr} {px : Pos} {rest : List Stmt} (hx : env.kindOf "k" = some .local)
    (hw : swapsWith e (some (.Name "k" px)) pos.line env = pure false) (he : Ex g A env [("octets", pL l), ("k", pI k)] e (pI k')) {E : Value → Shared → Prop} {R : Flow → Shared → Prop} (h : ∀ s', Cut g A env W s₀ l P dn cur k' Q s' → wpAny g.M A (execs rest env) R E s') :
    wpAny g.M A (execs (.Assign [.Name "k" px] e pos :: rest) env) R E s := by
  refine next_cons (wpAny_Assign_Name (he.run _ s c.i.wo E _ fun v s₁ k₁ r₁ => ?_) hw)
  have c₁ := c.kept k₁
  refine c₁.i.store2 hx pe.fn (by rw [pe.nc]; intro _ h; cases h) fun h' hs hk hv i' => ⟨rfl, h _ ?_⟩
  have hLm : env.locals ∈ [P, Q, env.locals] ++ W := by simp
  refine ⟨(In.know i' hv (r₁.own (k := s₁.toks + 1) hs hLm)).sub fun p hp => ?_, hk _ _ (by decide) c₁.np, ?_, ?_, c.ne⟩
  · simp only [List.mem_cons, List.not_mem_nil, or_false] at hp
    rcases hp with rfl | rfl
    · exact .tail _ (look_mem (by rfl))
    · exact .head _
  · obtain ⟨vs, n, h1, h2⟩ := c₁.lp
    exact ⟨vs, n, hs _ _ (Ne.symm (c₁.i.locNe h1)) h1, h2.own (k := s₁.toks + 1) hs hLm⟩
  · obtain ⟨vs, n, h1, h2⟩ := c₁.lq
    exact ⟨vs, n, hs _ _ (Ne.symm (c₁.i.locNe h1)) h1, h2.own (k := s₁.toks + 1) hs hLm⟩

/-- pieces[-1].append(e) -/
theorem cut_app {W : List Addr} {s₀ s : Shared} {l : List Nat} {P Q : Addr} {dn : List (List Nat)} {cur : List Nat} {k a : Nat} (pe : Pe env) (c : Cut g A env W s₀ l P dn cur k Q s) {e : Expr} {px p1 p2 p3 p4 apos : Pos} {rest : List Stmt} (hz1 : dn.length < sizeLine) (hz2 : cur.length ≤ sizeLine)
    (hs : starEach [e] env = [(false, eval e env)]) (hline : (apos.endLine == pos.line) = true) (hi : interactive env = false) (he : Ex g A env [("octets", pL l), ("k", pI k)] e (pI a)) {E : Value → Shared → Prop} {R : Flow → Shared → Prop} (h : ∀ s', Cut g A env W s₀ l P dn (cur ++ [a]) k Q s' → wpAny g.M A (execs rest env) R E s') :
    wpAny g.M A (execs (.Expr (.Call (.Attribute (.Subscript (.Name "pieces" px) (.UnaryOp .USub (.Constant (.int 1) 0 p1) p2) p3) "append" apos) [e] [] pos) p4 :: rest) env) R E s := by
  obtain ⟨vs, n, h1, h2⟩ := c.lp
  obtain ⟨qs, m, h3, h4⟩ := c.lq
  have hc : ∀ b : Addr, ∀ c ∈ env.cells, c.2 ≠ b := fun b => by rw [pe.nc]; intro _ h; cases h
  refine next_cons (app_stmt c.i (D := Q) (by simp) h3 (by rw [h4.length]; simpa using hz2) (hc _) (fun E' Q' hq => last_eval c.i pe.fn (by simp) c.np h1 (by rw [h2.length]; simpa using hz1) (by decide) hq) he rfl hs hline hi rfl fun s₁ h' v k₁ r₁ hs' hl' i' => ⟨rfl, h _ ?_⟩)
  have hQm : Q ∈ [P, Q, env.locals] ++ W := by simp
  have c₁ := c.kept k₁
  refine ⟨i', c₁.np.turn hs' (c₁.i.locNe (IsL_kept h3 k₁ (c.i.neT (by simp)))) (fun b hb => hc _ _ (mem_of_lookup hb)), ?_, ⟨qs ++ [v], _, hl', ?_⟩, c.ne⟩
  · exact ⟨vs, n, hs' _ _ c.ne (IsL_kept h1 k₁ (c.i.neT (by simp))), (h2.kept k₁).own (k := s₁.toks) hs' hQm⟩
  · rw [List.map_append]
    exact ((h4.kept k₁).snoc r₁).own (k := s₁.toks) hs' hQm

/-- pieces.append([]) -/
theorem cut_new {W : List Addr} {s₀ s : Shared} {l : List Nat} {P Q : Addr} {dn : List (List Nat)} {cur : List Nat} {k : Nat} (pe : Pe env) (c : Cut g A env W s₀ l P dn cur k Q s) {px lp p4 apos : Pos} {rest : List Stmt} (hz1 : dn.length < sizeLine)
    (hline : (apos.endLine == pos.line) = true) (hi : interactive env = false) {E : Value → Shared → Prop} {R : Flow → Shared → Prop} (h : ∀ Q' s', Cut g A env W s₀ l P (dn ++ [cur]) [] k Q' s' → wpAny g.M A (execs rest env) R E s') :
    wpAny g.M A (execs (.Expr (.Call (.Attribute (.Name "pieces" px) "append" apos) [.List [] lp] [] pos) p4 :: rest) env) R E s := by
  obtain ⟨vs, n, h1, h2⟩ := c.lp
  obtain ⟨qs, m, h3, h4⟩ := c.lq
  have hc : ∀ b : Addr, ∀ c ∈ env.cells, c.2 ≠ b := fun b => by rw [pe.nc]; intro _ h; cases h
  refine next_cons (app_new c.i (D := P) (by simp) h1 (by simp only [List.length_append, List.length_cons, List.length_nil]; rw [h2.length, List.length_map]; lia) (hc _) (fun E' Q' hq => Has.name pe.fn c.np (by decide) (hq s (.refl ..))) rfl hline hi rfl fun s₁ h' F k₁ hF hFP hFl hs' hl' i' => ⟨rfl, h F _ ?_⟩)
  have c₁ := c.kept k₁
  have hFs : ∀ a o, s.heap.get? a = some o → F ≠ a := fun a o e q => by rw [q, e] at hF; cases hF
  have hFQ : F ≠ Q := hFs _ _ h3
  have hFL : F ≠ env.locals := by obtain ⟨m, o, es, ep, e, _⟩ := c.i.ns; exact hFs _ _ e
  have hFnew : ∀ b ∈ [F], s.heap.get? b = none := fun b hb => by obtain rfl : b = F := (by simpa using hb); exact hF
  have hPm : P ∈ [F, P, Q, env.locals] ++ W := by simp
  have h3' : IsL h' Q qs.toArray m := hs' _ _ (Ne.symm c.ne) (IsL_kept h3 k₁ (c.i.neT (by simp)))
  have sub : ∀ a ∈ [P, F, env.locals] ++ W, a ∈ [F, P, Q, env.locals] ++ W := fun a ha => by
    rcases List.mem_append.mp ha with ha | ha
    · simp only [List.mem_cons, List.not_mem_nil, or_false] at ha; rcases ha with rfl | rfl | rfl <;> simp
    · exact List.mem_append_right _ ha
  have rv : RdAll ([P, F, env.locals] ++ W) { s₁ with heap := h' } vs (dn.map pL) := ((h2.grow (N := [F]) k₁.keep hFnew).own (k := s₁.toks) hs' hPm).less sub
  have rq : RdAll ([P, F, env.locals] ++ W) { s₁ with heap := h' } qs (cur.map pI) := ((h4.grow (N := [F]) k₁.keep hFnew).own (k := s₁.toks) hs' hPm).less sub
  have hQW : Q ∉ W := fun hw => by
    obtain ⟨o, e⟩ := c.i.w0.live Q hw
    rw [c.i.new Q (by simp)] at e; cases e
  have hQN : Q ∉ [P, F, env.locals] ++ W := fun hm => by
    rcases List.mem_append.mp hm with hm | hm
    · simp only [List.mem_cons, List.not_mem_nil, or_false] at hm
      rcases hm with h | h | h
      · exact c.ne h.symm
      · exact hFQ h.symm
      · exact c.i.locNe h3 h.symm
    · exact hQW hm
  refine ⟨i'.out (fun a ha => ?_) (fun a ha hn => ?_) (by simp), c₁.np.turn hs' (c₁.i.locNe (IsL_kept h1 k₁ (c.i.neT (by simp)))) (fun b hb => hc _ _ (mem_of_lookup hb)), ⟨vs ++ [.ref Q], n + 1, hl', ?_⟩, ⟨[], 0, hs' _ _ hFP hFl, .nil⟩, Ne.symm hFP⟩
  · simp only [List.mem_cons, List.not_mem_nil, or_false] at ha ⊢; rcases ha with rfl | rfl | rfl <;> simp
  · have : a = Q := by simp only [List.mem_cons, List.not_mem_nil, or_false] at ha hn; rcases ha with rfl | rfl | rfl | rfl <;> simp_all
    subst this
    exact ⟨_, h3', fun es ep q => by cases q⟩
  · rw [List.map_append]
    exact rv.snoc (Rd.list_mk (s := { s₁ with heap := h' }) (IsL.isList h3') hQN rq)
end
end Mine

/- Cut2 -/
namespace Mine
open PySem PySem.W PySem.Calls PySem.Spec PyProof.Rows
set_option Elab.async false
set_option linter.unusedVariables false
set_option maxRecDepth 100000
set_option maxHeartbeats 400000

section
variable {g : Gd} {A : Around} {env : Env} {ρ ρ' : Rho} {pos : Pos}

/-- pieces[-1] = pieces[-1] + e -/
theorem cut_join {W : List Addr} {s₀ s : Shared} {l : List Nat} {P Q : Addr} {dn : List (List Nat)} {cur us : List Nat} {k : Nat} (pe : Pe env) (c : Cut g A env W s₀ l P dn cur k Q s) {e : Expr} {px p1 p2 p3 px' p1' p2' p3' pb : Pos} {rest : List Stmt} (hz1 : dn.length < sizeLine) (hz2 : cur.length + us.length ≤ sizeLine)
    (hsw : swapsWith (.BinOp (.Subscript (.Name "pieces" px) (.UnaryOp .USub (.Constant (.int 1) 0 p1) p2) p3) .Add e pb) (some (.Subscript (.Name "pieces" px') (.UnaryOp .USub (.Constant (.int 1) 0 p1') p2') p3')) pos.line env = pure false)
    (he : Ex g A env [("octets", pL l), ("k", pI k)] e (pL us)) {E : Value → Shared → Prop} {R : Flow → Shared → Prop} (h : ∀ Q' s', Cut g A env W s₀ l P dn (cur ++ us) k Q' s' → wpAny g.M A (execs rest env) R E s') :
    wpAny g.M A (execs (.Assign [.Subscript (.Name "pieces" px') (.UnaryOp .USub (.Constant (.int 1) 0 p1') p2') p3'] (.BinOp (.Subscript (.Name "pieces" px) (.UnaryOp .USub (.Constant (.int 1) 0 p1) p2) p3) .Add e pb) pos :: rest) env) R E s := by
  obtain ⟨vs, n, h1, h2⟩ := c.lp
  have hc : ∀ b : Addr, ∀ c ∈ env.cells, c.2 ≠ b := fun b => by rw [pe.nc]; intro _ h; cases h
  refine next_cons (wpAny_Assign_Subscript (wpAny_BinOp (last_eval c.i pe.fn (by simp) c.np h1 (by rw [h2.length]; simpa using hz1) (by decide) fun s₁ k₁ => he.run _ s₁ (c.i.step k₁).wo E _ fun v s₂ k₂ r₂ => ?_)) hsw)
  have c₂ := (c.kept k₁).kept k₂
  clear h1 h2
  obtain ⟨vs, n, h1, h2⟩ := c₂.lp
  obtain ⟨qs, m, h3, h4⟩ := c₂.lq
  obtain ⟨b, ws, rfl, hbW, hb, r⟩ := r₂.list_inv
  refine add_raw h3.isList hb (by rw [h4.length, r.length]; simpa using hz2) ?_
  generalize hF : s₂.heap.objs.size = F
  have f₂ : s₂.heap.get? F = none := Heap.get?_none_of_le (Nat.le_of_eq hF)
  have hFl : IsL (s₂.heap.push { cls := .type "list", data := .seq (qs ++ ws).toArray }) F (qs ++ ws).toArray 0 := hF ▸ IsL.new ..
  have kp : Kept ([P, Q, env.locals] ++ W) s₂ { s₂ with heap := s₂.heap.push { cls := .type "list", data := .seq (qs ++ ws).toArray } } := .push'
  have hFnew : ∀ b ∈ [F], s₂.heap.get? b = none := fun b hb => by obtain rfl : b = F := (by simpa using hb); exact f₂
  have i₃ := c₂.i.grow kp f₂ ⟨_, hFl⟩
  have np₃ := c₂.np.kept kp
  have hPT := c.i.neT (a := P) (by simp)
  refine Has.name pe.fn np₃ (by decide) ((ex_neg (g := g) (A := A) (env := env) (ρ := [("octets", pL l), ("k", pI k)]) ex_int).run _ _ i₃.wo E _ fun u s₄ k₄ r₄ => ?_)
  obtain ⟨t, rfl⟩ := r₄.int_inv
  have i₄ := i₃.step k₄
  have np₄ := np₃.kept k₄
  have h1₄ : IsL s₄.heap P (vs ++ [Value.ref Q]).toArray n := IsL_kept (IsL_kept h1 kp hPT) k₄ hPT
  have hFT : F ≠ tT := i₄.neT (by simp)
  have hFl₄ : IsL s₄.heap F (qs ++ ws).toArray 0 := IsL_kept hFl k₄ hFT
  refine ki_setBack (n := n) h1₄ (by decide) (by simp; lia) (by decide) ⟨rfl, h F _ ?_⟩
  have hs' := (Heap.SameBut.update s₄.heap P (Obj.mapSeq (·.setIfInBounds ((-1 : Int) + ((vs ++ [Value.ref Q]).toArray.size : Nat)).toNat (Value.ref F)))).extBut
  have hl' := h1₄.update (·.setIfInBounds ((-1 : Int) + ((vs ++ [Value.ref Q]).toArray.size : Nat)).toNat (Value.ref F))
  have i₅ := i₄.turn (k := s₄.toks) (by simp) h1₄ hs' ⟨_, hl'⟩ (hc _)
  have hFs : ∀ a o, s₂.heap.get? a = some o → F ≠ a := fun a o e q => by rw [q, e] at f₂; cases f₂
  have hFP : F ≠ P := hFs _ _ h1
  have hFQ : F ≠ Q := hFs _ _ h3
  have sub : ∀ a ∈ [P, F, env.locals] ++ W, a ∈ [F, P, Q, env.locals] ++ W := fun a ha => by
    rcases List.mem_append.mp ha with ha | ha
    · simp only [List.mem_cons, List.not_mem_nil, or_false] at ha; rcases ha with rfl | rfl | rfl <;> simp
    · exact List.mem_append_right _ ha
  have hPm : P ∈ [F, P, Q, env.locals] ++ W := by simp
  have grow : ∀ {xs : List Value} {ds : List PyData}, RdAll ([P, Q, env.locals] ++ W) s₂ xs ds → RdAll ([P, F, env.locals] ++ W) { s₄ with heap := s₄.heap.update P (Obj.mapSeq (·.setIfInBounds ((-1 : Int) + ((vs ++ [Value.ref Q]).toArray.size : Nat)).toNat (Value.ref F))) } xs ds := fun x =>
    (((x.grow (N := [F]) kp.keep hFnew).kept k₄).own (k := s₄.toks) hs' hPm).less sub
  have hfin : ∃ n', IsL (s₄.heap.update P (Obj.mapSeq (·.setIfInBounds ((-1 : Int) + ((vs ++ [Value.ref Q]).toArray.size : Nat)).toNat (Value.ref F)))) P (vs ++ [Value.ref F]).toArray n' := by
    have e : (vs ++ [Value.ref Q]).toArray.setIfInBounds ((-1 : Int) + ((vs ++ [Value.ref Q]).toArray.size : Nat)).toNat (Value.ref F) = (vs ++ [Value.ref F]).toArray := by
      have : ((-1 : Int) + ((vs ++ [Value.ref Q]).toArray.size : Nat)).toNat = vs.length := by simp; lia
      rw [this]
      simp
    rw [e] at hl'
    exact ⟨_, hl'⟩
  obtain ⟨n', hfin⟩ := hfin
  refine ⟨i₅.out (fun a ha => ?_) (fun a ha hn => ?_) (by simp), np₄.turn hs' (i₄.locNe h1₄) (fun b hb => hc _ _ (mem_of_lookup hb)), ⟨vs, n', hfin, grow h2⟩, ⟨qs ++ ws, 0, hs' _ _ hFP hFl₄, ?_⟩, Ne.symm hFP⟩
  · simp only [List.mem_cons, List.not_mem_nil, or_false] at ha ⊢; rcases ha with rfl | rfl | rfl <;> simp
  · have : a = Q := by simp only [List.mem_cons, List.not_mem_nil, or_false] at ha hn; rcases ha with rfl | rfl | rfl | rfl <;> simp_all
    subst this
    exact ⟨_, hs' _ _ (Ne.symm c.ne) (IsL_kept (IsL_kept h3 kp (c.i.neT (by simp))) k₄ (c.i.neT (by simp))), fun es ep q => by cases q⟩
  · rw [List.map_append]
    exact grow (h4.append r)
end
end Mine

/- Cut3 -/
namespace Mine
open PySem PySem.W PySem.Calls PySem.Spec PyProof.Rows
set_option Elab.async false
set_option linter.unusedVariables false
set_option maxRecDepth 100000
set_option maxHeartbeats 1000000

theorem drop_at {l : List Nat} {k : Nat} (h : k < l.length) : l.drop k = l.getD k 0 :: l.drop (k + 1) := by
  rw [List.drop_eq_getElem_cons h, List.getD_eq_getElem?_getD, List.getElem?_eq_getElem h]; rfl
theorem drop_over {l : List Nat} {k : Nat} (h : l.length ≤ k) : l.drop k = [] := List.drop_eq_nil_of_le h
theorem quoted_plain {c : Nat} {r cur : List Nat} (h1 : c ≠ 34) (h2 : c ≠ 92) : quoted (c :: r) cur = quoted r (cur ++ [c]) := by
  rw [quoted.eq_def]
  split <;> simp_all
theorem quoted_step {l cur : List Nat} {k : Nat} (h : k < l.length) (hc : l.getD k 0 ≠ 34) :
    quoted (l.drop (k + (if l.getD k 0 = 92 then 1 else 0) + 1)) (cur ++ (l.drop (k + (if l.getD k 0 = 92 then 1 else 0))).take 1) = quoted (l.drop k) cur := by
  rw [drop_at h]
  by_cases h9 : l.getD k 0 = 92
  · rw [if_pos h9, h9]
    by_cases h2 : k + 1 < l.length
    · rw [drop_at h2]
      simp only [List.take_succ_cons, List.take_zero]
      rw [quoted]
    · rw [drop_over (by lia), drop_over (by lia)]
      simp [quoted]
  · simp only [if_neg h9, Nat.add_zero]
    rw [quoted_plain hc h9, drop_at h]
    simp
theorem quoted_end {l cur : List Nat} {k : Nat} (h : k < l.length → l.getD k 0 = 34) : quoted (l.drop k) cur = (cur ++ (l.drop k).take 1, l.drop (k + 1)) := by
  by_cases hk : k < l.length
  · rw [drop_at hk, h hk]
    simp [quoted]
  · rw [drop_over (by lia), drop_over (by lia)]
    simp [quoted]
theorem cutGo_comma {r cur : List Nat} {dn : List (List Nat)} : cutGo (44 :: r) dn cur = cutGo r (dn ++ [cur]) [] := by rw [cutGo]; simp
theorem cutGo_quote {r cur : List Nat} {dn : List (List Nat)} : cutGo (34 :: r) dn cur = cutGo (quoted r (cur ++ [34])).2 dn (quoted r (cur ++ [34])).1 := by rw [cutGo]; simp
theorem cutGo_plain {c : Nat} {r cur : List Nat} {dn : List (List Nat)} (h1 : c ≠ 44) (h2 : c ≠ 34) : cutGo (c :: r) dn cur = cutGo r dn (cur ++ [c]) := by rw [cutGo]; simp [h1, h2]
theorem quoted_tot : ∀ (r cur : List Nat), (quoted r cur).1.length + (quoted r cur).2.length ≤ cur.length + r.length := fun r cur => by
  fun_induction quoted r cur <;> simp_all <;> lia
def tot (dn : List (List Nat)) (cur : List Nat) : Nat := (dn.map List.length).sum + dn.length + cur.length
theorem cutGo_tot (r : List Nat) (dn : List (List Nat)) (cur : List Nat) : tot (cutGo r dn cur).1 (cutGo r dn cur).2 ≤ tot dn cur + r.length := by
  fun_induction cutGo r dn cur with
  | case1 => simp
  | case2 dn cur r ih =>
    have : tot (dn ++ [cur]) [] = tot dn cur + 1 := by simp [tot]; lia
    simp only [List.length_cons]; lia
  | case3 dn cur r h1 this ih =>
    have := quoted_tot r (cur ++ [34])
    simp only [tot, List.length_append, List.length_cons, List.length_nil] at ih this ⊢; lia
  | case4 dn cur c r h1 h2 ih => simp only [tot, List.length_append, List.length_cons, List.length_nil] at ih ⊢; lia
theorem le_sum {l : List (List Nat)} {x : List Nat} (h : x ∈ l) : x.length ≤ (l.map List.length).sum := by
  induction l with
  | nil => cases h
  | cons a r ih =>
    simp only [List.map_cons, List.sum_cons]
    cases h with
    | head => lia
    | tail _ h => have := ih h; lia
theorem cutGo_nil {cur : List Nat} {dn : List (List Nat)} : cutGo [] dn cur = (dn, cur) := by rw [cutGo]

section
variable {g : Gd} {A : Around} {env : Env} {ρ ρ' : Rho} {pos : Pos}

theorem en_item {value slice : Expr} {l : List Nat} {k : Nat} (hv : Ex g A env ρ value (pL l)) (hi : Ex g A env ρ slice (pI k)) (hk : k < l.length) (hz : l.length ≤ sizeLine)
    (hs : ∀ o i, subscripted slice false o i = operate [o, i] (getItem o i)) : Ex g A env ρ (.Subscript value slice pos) (pI (l.getD k 0)) :=
  ex_item hv hi (by lia) (by rw [Int.toNat_natCast, List.getElem?_map, some_getD hk]; rfl) (by simpa using hz) hs
theorem en_len (n : En env) {x : Str} {np : Pos} {e : Expr} {l : List Nat} (b : Bn g x (.builtin "len")) (hx : env.kindOf x = some .globalImplicit) (he : Ex g A env ρ e (pL l)) (hz : l.length ≤ sizeLine) (hs : starEach [e] env = [(false, eval e env)]) (hd : (x == ("__debug__" : Str)) = false) :
    Ex g A env ρ (.Call (.Name x np) [e] [] pos) (pI l.length) := (ex_len n b hx he (by simpa using hz) hs hd).is (by simp)
/-- octets[k:k + 1] -/
theorem en_slice1 {value lo hi : Expr} {sp : Pos} {l : List Nat} {k : Nat} (hv : Ex g A env ρ value (pL l)) (h1 : Ex g A env ρ lo (pI k)) (h2 : Ex g A env ρ hi (pI (k + 1))) (hz : l.length ≤ sizeLine) :
    Ex g A env ρ (.Subscript value (.Slice (some lo) (some hi) none sp) pos) (pL ((l.drop k).take 1)) := by
  refine (ex_slice (a := min k l.length) (b := min (k + 1) l.length) hv (pt_some h1) (pt_some h2) ?_ (by simpa using hz)).is ?_
  · rw [kms_bounds, List.length_map]
    simp only [kms_lo, kms_hi]
    rw [if_neg (by lia), if_neg (by lia)]
    simp only [Int.toNat_natCast]
  · refine congrArg PyData.list ?_
    rw [← List.map_drop, ← List.map_take]
    congr 1
    by_cases h : k < l.length
    · rw [Nat.min_eq_left (by lia), Nat.min_eq_left (by lia), Nat.add_sub_cancel_left]
    · rw [drop_over (k := k) (by lia), drop_over (k := min k l.length) (by lia)]; simp

theorem cut_if {W : List Addr} {s₀ s : Shared} {l : List Nat} {P Q : Addr} {dn : List (List Nat)} {cur : List Nat} {k : Nat} (c : Cut g A env W s₀ l P dn cur k Q s) {t : Expr} {b o rest : List Stmt} {v : Bool} (ht : Tt g A env [("octets", pL l), ("k", pI k)] t v) {E : Value → Shared → Prop} {R : Flow → Shared → Prop}
    (h : ∀ s', Cut g A env W s₀ l P dn cur k Q s' → wpAny g.M A (execs (if v = true then b else o) env) (fun fl s' => fl = .next ∧ wpAny g.M A (execs rest env) R E s') E s') : wpAny g.M A (execs (.If t b o pos :: rest) env) R E s := by
  refine next_cons (wpAny_If (ht.run _ s c.i.wo E _ fun s' k => ?_))
  have := h s' (c.kept k)
  cases v with
  | true => exact this
  | false => exact this
end

theorem cut_sp {g : Gd} {f fb : Addr} {cdv cdb : Value} (F : Fd g "_law_cut" 16 f cdv) (Fb : Fd g "_law_bare" 15 fb cdb) (bR : Bn g "range" (.type "range")) (bL : Bn g "len" (.builtin "len")) {l : List Nat} (hl : l.length ≤ 900) : Sp1 g f 2 (pL l) (pLL (cut l)) := by
  refine enter1 F (p := "octets") (fun _ _ _ _ _ => rfl) rfl (by decide) rfl rfl rfl fun A W s₀ s L rm i E => ?_
  generalize henv : envX "_law_cut" (fScope 16) L f cdv [] = env at *
  have pe : Pe env := henv ▸ ⟨rfl, rfl⟩
  have en : En env := henv ▸ ⟨rfl, rfl, rfl⟩
  have hL : env.locals = L := henv ▸ rfl
  have kO : env.kindOf "octets" = some .local := henv ▸ rfl
  have kP : env.kindOf "pieces" = some .local := henv ▸ rfl
  have kK : env.kindOf "k" = some .local := henv ▸ rfl
  have kL : env.kindOf "len" = some .globalImplicit := henv ▸ rfl
  have hin : interactive env = false := henv ▸ rfl
  have hcells : ∀ c ∈ env.cells, c.2 ≠ env.locals := by rw [pe.nc]; intro _ h; cases h
  have hz : l.length ≤ sizeLine := by rw [sizeLine_eq]; lia
  rw [← hL] at i
  refine next_cons (wpAny_Assign_Name (List_ ?_) rfl)
  refine spliced_cons (List_ (spliced_nil (wpAny_newObj_type (spliced_nil (wpAny_newObj_type ?_ ?_)) ?_)))
  rotate_left
  · show ([_] : List Value).toArray.size ≤ sizeLine
    simp [sizeLine_eq]
  · show ([] : List Value).toArray.size ≤ sizeLine
    simp
  dsimp only
  generalize hQ : s.heap.objs.size = Q
  generalize hh1 : s.heap.push { cls := .type "list", data := .seq ([] : List Value).toArray } = h1
  have lq : IsL h1 Q ([] : List Value).toArray 0 := by rw [← hh1, ← hQ]; exact IsL.new ..
  have k1 : Kept ([env.locals] ++ W) s { s with heap := h1 } := by rw [← hh1]; exact .push'
  have q0 : s.heap.get? Q = none := Heap.get?_none_of_le (Nat.le_of_eq hQ)
  have i1 := i.grow k1 q0 ⟨_, lq⟩
  generalize hP : h1.objs.size = P
  generalize hh2 : h1.push { cls := .type "list", data := .seq ([Value.ref Q] : List Value).toArray } = h2
  have lp : IsL h2 P ([] ++ [Value.ref Q] : List Value).toArray 0 := by rw [← hh2, ← hP]; exact IsL.new ..
  have p0 : h1.get? P = none := Heap.get?_none_of_le (Nat.le_of_eq hP)
  have k2 : Kept ([Q, env.locals] ++ W) { s with heap := h1 } { s with heap := h2 } := by rw [← hh2]; exact .push'
  have i2 := i1.grow k2 p0 ⟨_, lp⟩
  have lq2 := IsL_kept lq k2 (i1.neT (by simp))
  have hPQ : P ≠ Q := fun q => by rw [q] at p0; have e := lq; unfold IsL at e; rw [p0] at e; cases e
  refine i2.store2 kP pe.fn hcells fun h3 hs3 hk3 hv3 i3 => ⟨rfl, ?_⟩
  have lp3 := hs3 _ _ (Ne.symm (i2.locNe lp)) lp
  have lq3 := hs3 _ _ (Ne.symm (i2.locNe lq2)) lq2
  clear i2 i1 k2 k1 lq2 lq lp p0 q0
  refine next_cons (wpAny_Assign_Name ((ex_int (g := g) (A := A) (env := env) (ρ := del "pieces" [("octets", pL l)])).run _ _ i3.wo E _ fun v s4 k4 r4 => i3.step k4 |>.store2 kK pe.fn hcells fun h5 hs5 hk5 hv5 i5 => ⟨rfl, ?_⟩) rfl)
  have c0 : Cut g A env W s₀ l P [] [] 0 Q { s4 with heap := h5, toks := s4.toks + 1 } := by
    have i4 := i3.step k4
    have lp4 := IsL_kept lp3 k4 (i3.neT (by simp))
    have lq4 := IsL_kept lq3 k4 (i3.neT (by simp))
    refine ⟨(In.know i5 hv5 (r4.own (k := s4.toks + 1) hs5 (by simp))).sub fun p hp => ?_, hk5 _ _ (by decide) (hv3.kept k4), ⟨[], 0, hs5 _ _ (Ne.symm (i4.locNe lp4)) lp4, .nil⟩, ⟨[], 0, hs5 _ _ (Ne.symm (i4.locNe lq4)) lq4, .nil⟩, hPQ⟩
    simp only [List.mem_cons, List.not_mem_nil, or_false] at hp
    rcases hp with rfl | rfl
    · exact .tail _ (look_mem (by rfl))
    · exact .head _
  generalize ({ s4 with heap := h5, toks := s4.toks + 1 } : Shared) = s5 at c0
  clear i5 hv5 hk5 hs5 r4 k4 i3 lp3 lq3 hv3 hk3 hs3
  refine next_cons (wh_loop (σ := (List (List Nat) × List Nat) × Nat × Addr) (fun a s => Cut g A env W s₀ l P a.1.1 a.1.2 a.2.1 a.2.2 s ∧ cutGo (l.drop a.2.1) a.1.1 a.1.2 = cutGo l [] [] ∧ a.1.1.length ≤ a.2.1 ∧ a.1.2.length ≤ a.2.1) (fun a => decide (a.2.1 < l.length)) (fun a => l.length - a.2.1) ?_ ?_ (a₀ := (([], []), 0, Q)) ⟨c0, rfl, by simp, by simp⟩ ?_)
  · rintro ⟨⟨dn, cur⟩, k, Q⟩ s E R ⟨c, h1, h2, h3⟩ hq
    exact (tt_cmp (ex_v pe.fn rfl) (en_len en bL kL (ex_v pe.fn rfl) hz rfl (by decide)) cn_lt).run _ s c.i.wo E R fun s' k' => hq s' ⟨c.kept k', h1, h2, h3⟩
  · rintro ⟨⟨dn, cur⟩, k, Q⟩ s E ⟨c, h1, h2, h3⟩ hk
    dsimp only at c h1 h2 h3 hk
    have hk : k < l.length := by simpa using hk
    have hsz : k ≤ sizeLine := by lia
    refine cut_if c (v := decide (l.getD k 0 = 44)) (tt_cmp (en_item (ex_v pe.fn rfl) (ex_v pe.fn rfl) hk hz (fun _ _ => rfl)) (en_int (k := 44)) cn_eq) ?_
    clear c s
    intro s c
    by_cases h44 : l.getD k 0 = 44
    · rw [if_pos (decide_eq_true h44)]
      refine cut_new pe c (by lia) rfl hin ?_
      intro Q' s c
      refine wpAny_execs_nil ⟨rfl, cut_setk (k' := k + 1) pe c kK rfl (en_add (ex_v pe.fn rfl) en_int) ?_⟩
      intro s c
      refine wpAny_execs_nil ⟨rfl, ((dn ++ [cur], []), k + 1, Q'), by dsimp only; lia, c, ?_, by simp; lia, by simp⟩
      dsimp only
      rw [← h1, drop_at hk, h44, cutGo_comma]
    · rw [if_neg (by simpa using h44)]
      refine cut_if c (v := decide (l.getD k 0 = 34)) (tt_cmp (en_item (ex_v pe.fn rfl) (ex_v pe.fn rfl) hk hz (fun _ _ => rfl)) (en_int (k := 34)) cn_eq) ?_
      clear c s
      intro s c
      by_cases h34 : l.getD k 0 = 34
      · rw [if_pos (decide_eq_true h34)]
        refine cut_app (a := 34) pe c (by lia) (by lia) rfl rfl hin en_int ?_
        clear c s
        intro s c
        refine cut_setk (k' := k + 1) pe c kK rfl (en_add (ex_v pe.fn rfl) en_int) ?_
        clear c s
        intro s c
        refine next_cons (wh_loop (σ := List Nat × Nat × Addr) (fun a s => Cut g A env W s₀ l P dn a.1 a.2.1 a.2.2 s ∧ quoted (l.drop a.2.1) a.1 = quoted (l.drop (k + 1)) (cur ++ [34]) ∧ k < a.2.1 ∧ a.1.length ≤ a.2.1 ∧ a.2.1 ≤ l.length + 2) (fun a => decide (a.2.1 < l.length) && decide (l.getD a.2.1 0 ≠ 34)) (fun a => l.length + 2 - a.2.1) ?_ ?_ (a₀ := (cur ++ [34], k + 1, Q)) ⟨c, rfl, by simp, by simp; lia, by simp; lia⟩ ?_)
        · rintro ⟨cur, j, Q⟩ s E R ⟨c, q1, q2, q3, q4⟩ hq
          refine (tt_and (tt_cmp (ex_v pe.fn rfl) (en_len en bL kL (ex_v pe.fn rfl) hz rfl (by decide)) cn_lt) (fun hj => ?_)).run _ s c.i.wo E R fun s' k' => hq s' ⟨c.kept k', q1, q2, q3, q4⟩
          exact tt_cmp (en_item (ex_v pe.fn rfl) (ex_v pe.fn rfl) (by simpa using hj) hz (fun _ _ => rfl)) (en_int (k := 34)) cn_ne
        · rintro ⟨cur, j, Q⟩ s E ⟨c, q1, q2, q3, q4⟩ hj
          dsimp only at c q1 q2 q3 q4 hj
          rw [Bool.and_eq_true, decide_eq_true_eq, decide_eq_true_eq] at hj
          refine cut_setk (k' := j + (if l.getD j 0 = 92 then 1 else 0)) pe c kK rfl ((ex_add_bool (ex_v pe.fn rfl) (ex_cmp (en_item (ex_v pe.fn rfl) (ex_v pe.fn rfl) hj.1 hz (fun _ _ => rfl)) (en_int (k := 92)) cn_eq)).is ?_) ?_
          · by_cases h9 : l.getD j 0 = 92
            · rw [if_pos h9, if_pos (decide_eq_true h9)]; rfl
            · rw [if_neg h9, if_neg (by rw [decide_eq_false h9]; decide)]; rfl
          clear c s
          intro s c
          generalize hj2 : j + (if l.getD j 0 = 92 then 1 else 0) = j2 at c
          have hj2' : j ≤ j2 ∧ j2 ≤ j + 1 := by split at hj2 <;> lia
          have ht : ((l.drop j2).take 1).length ≤ 1 := List.length_take_le _ _
          refine cut_join pe c (by rw [sizeLine_eq]; lia) (by rw [sizeLine_eq]; lia) rfl (en_slice1 (ex_v pe.fn rfl) (ex_v pe.fn rfl) (en_add (ex_v pe.fn rfl) en_int) hz) ?_
          clear c s
          intro Q' s c
          refine cut_setk (k' := j2 + 1) pe c kK rfl (en_add (ex_v pe.fn rfl) en_int) ?_
          clear c s
          intro s c
          refine wpAny_execs_nil ⟨rfl, (cur ++ (l.drop j2).take 1, j2 + 1, Q'), by dsimp only; lia, c, ?_, by dsimp only; lia, by simp only [List.length_append]; lia, by dsimp only; lia⟩
          dsimp only
          rw [← q1, ← hj2]
          exact quoted_step hj.1 hj.2
        · rintro ⟨cur', j, Q'⟩ s ⟨c, q1, q2, q3, q4⟩ hj
          dsimp only at c q1 q2 q3 q4 hj
          refine ⟨rfl, ?_⟩
          have hj' : j < l.length → l.getD j 0 = 34 := fun h => by
            rw [decide_eq_true h, Bool.true_and, decide_eq_false_iff_not] at hj
            exact Decidable.not_not.mp hj
          rw [quoted_end hj'] at q1
          have ht : ((l.drop j).take 1).length ≤ 1 := List.length_take_le _ _
          refine cut_join pe c (by rw [sizeLine_eq]; lia) (by rw [sizeLine_eq]; lia) rfl (en_slice1 (ex_v pe.fn rfl) (ex_v pe.fn rfl) (en_add (ex_v pe.fn rfl) en_int) hz) ?_
          clear c s
          intro Q'' s c
          refine wpAny_execs_nil ⟨rfl, wpAny_execs_nil ⟨rfl, cut_setk (k' := j + 1) pe c kK rfl (en_add (ex_v pe.fn rfl) en_int) ?_⟩⟩
          clear c s
          intro s c
          refine wpAny_execs_nil ⟨rfl, ((dn, cur' ++ (l.drop j).take 1), j + 1, Q''), by dsimp only; lia, c, ?_, by dsimp only; lia, by simp only [List.length_append]; lia⟩
          dsimp only
          rw [← h1, drop_at hk, h34, cutGo_quote, ← q1]
      · rw [if_neg (by simpa using h34)]
        refine cut_app (a := l.getD k 0) pe c (by lia) (by lia) rfl rfl hin (en_item (ex_v pe.fn rfl) (ex_v pe.fn rfl) hk hz (fun _ _ => rfl)) ?_
        clear c s
        intro s c
        refine wpAny_execs_nil ⟨rfl, wpAny_execs_nil ⟨rfl, cut_setk (k' := k + 1) pe c kK rfl (en_add (ex_v pe.fn rfl) en_int) ?_⟩⟩
        clear c s
        intro s c
        refine wpAny_execs_nil ⟨rfl, ((dn, cur ++ [l.getD k 0]), k + 1, Q), by dsimp only; lia, c, ?_, by dsimp only; lia, by simp; lia⟩
        dsimp only
        rw [← h1, drop_at hk, cutGo_plain h44 h34]
  · rintro ⟨⟨dn, cur⟩, k, Q⟩ s ⟨c, h1, h2, h3⟩ hk
    dsimp only at c h1 h2 h3 hk
    refine ⟨rfl, ?_⟩
    have hk : l.length ≤ k := by simpa using hk
    rw [drop_over hk, cutGo_nil] at h1
    have hb := cutGo_tot l [] []
    rw [← h1] at hb
    have hb : (dn.map List.length).sum + dn.length + cur.length ≤ l.length := by simpa [tot] using hb
    obtain ⟨vs, n, l1, l2⟩ := c.lp
    obtain ⟨qs, m, l3, l4⟩ := c.lq
    have sub : ∀ a ∈ [env.locals] ++ W, a ∈ [P, Q, env.locals] ++ W := fun a ha => by
      rcases List.mem_append.mp ha with ha | ha
      · simp only [List.mem_cons, List.not_mem_nil, or_false] at ha; rcases ha with rfl; simp
      · exact List.mem_append_right _ ha
    have off : ∀ a ∈ [P, Q], a ∉ [env.locals] ++ W := fun a ha hm => by
      rcases List.mem_append.mp hm with hm | hm
      · have e : a = env.locals := by simpa using hm
        simp only [List.mem_cons, List.not_mem_nil, or_false] at ha
        rcases ha with rfl | rfl
        · exact c.i.locNe l1 e.symm
        · exact c.i.locNe l3 e.symm
      · obtain ⟨o, e⟩ := c.i.w0.live a hm
        rw [c.i.new a (by simp only [List.mem_cons, List.not_mem_nil, or_false] at ha ⊢; rcases ha with rfl | rfl <;> simp)] at e; cases e
    have i' : In g A env [("octets", pL l), ("k", pI k)] [env.locals] W s₀ s := c.i.out (fun a ha => by obtain rfl : a = env.locals := (by simpa using ha); simp) (fun a ha hn => by
      simp only [List.mem_cons, List.not_mem_nil, or_false] at ha hn
      rcases ha with rfl | rfl | rfl
      · exact ⟨_, l1, fun es ep q => by cases q⟩
      · exact ⟨_, l3, fun es ep q => by cases q⟩
      · exact absurd rfl hn) (by simp)
    have rp : Rd ([env.locals] ++ W) s (.ref P) (pLL (dn ++ [cur])) := by
      refine Rd.list_mk l1.isList (off _ (by simp)) ?_
      rw [List.map_append]
      exact (l2.less sub).snoc (Rd.list_mk l3.isList (off _ (by simp)) (l4.less sub))
    have i'' := i'.know c.np rp
    have hpz : (dn ++ [cur]).length ≤ sizeLine := by simp only [List.length_append, List.length_cons, List.length_nil]; rw [sizeLine_eq]; lia
    have ht : (dn ++ [cur]).dropLast = dn := by simp
    have rm1 : Rm A 1 := rm
    have bare1 : ∀ p ∈ dn ++ [cur], p.length ≤ 1000 := fun p hp => by
      rcases List.mem_append.mp hp with hp | hp
      · have := le_sum hp; lia
      · obtain rfl : p = cur := by simpa using hp
        lia
    refine ret_execs i'' (Ex.is (ex_add_list (a := dn.map fun p => pL (bare p)) (b := ([cur].filter fun p => decide (p ≠ [])).map fun p => pL (bare p)) (ex_of_core (cl := []) ?_ (henv ▸ rfl) rfl (by decide) (fun _ => rfl)) (ex_of_core (cl := []) ?_ (henv ▸ rfl) rfl (by decide) (fun _ => rfl)) ?_) ?_)
    · refine core_map (ρc := []) (l := dn) (mk := pL) pL_inj rm.handled rfl (by decide) rfl (it_list rm.handled ?_) ?_ ?_ ?_
      · refine (ex_slice (a := 0) (b := dn.length) (ex_v pe.fn rfl) pt_none (pt_some (ex_neg ex_int)) ?_ (by simpa using hpz)).is ?_
        · rw [kms_bounds, List.length_map]
          simp [kms_lo, kms_hi]
        · refine congrArg PyData.list ?_
          simp
      · intro _ _ _ _; exact Vs.nil
      · intro C p hp
        exact ex_fn1 ⟨by subst henv; rfl, by subst henv; rfl, by subst henv; rfl⟩ Fb rm1 (henv ▸ rfl) (ex_v rfl rfl) (bare_sp Fb bR bL (bare1 p (List.mem_append_left _ hp)))
      · rw [sizeLine_eq]; lia
    · refine core_filter (ρc := []) (l := [cur]) (mk := pL) (p := fun p => decide (p ≠ [])) pL_inj rm.handled rfl (by decide) rfl (it_list rm.handled ?_) ?_ ?_ ?_ ?_
      · refine (ex_slice (a := dn.length) (b := dn.length + 1) (ex_v pe.fn rfl) (pt_some (ex_neg ex_int)) pt_none ?_ (by simpa using hpz)).is ?_
        · rw [kms_bounds, List.length_map]
          simp [kms_lo, kms_hi]
        · refine congrArg PyData.list ?_
          simp
      · intro _ _ _ _; exact Vs.nil
      · intro C p hp
        exact tt_cmp (ex_v rfl rfl) (ex_figs (l := []) rfl (by simp)) (ce_ne EqF.pL Sh.pL Sh.pL (by decide) (by have := rm.units; lia))
      · intro C p hp _
        exact ex_fn1 ⟨by subst henv; rfl, by subst henv; rfl, by subst henv; rfl⟩ Fb rm1 (henv ▸ rfl) (ex_v rfl rfl) (bare_sp Fb bR bL (bare1 p (List.mem_append_right _ hp)))
      · rw [sizeLine_eq]; simp
    · have := List.length_filter_le (fun p => decide (p ≠ [])) [cur]
      simp only [List.length_map, List.length_cons, List.length_nil] at this ⊢
      rw [sizeLine_eq]; lia
    · have e : cut l = dn.map bare ++ ([cur].filter fun p => decide (p ≠ [])).map bare := by unfold cut; rw [← h1]
      rw [e, pLL, List.map_append, List.map_map, List.map_map]
      rfl
end Mine

/- ForL -/
namespace Mine
open PySem PySem.W PySem.Calls PySem.Spec PyProof.Rows
set_option Elab.async false
set_option linter.unusedVariables false
set_option maxRecDepth 100000
set_option maxHeartbeats 400000

/-- what stays but for the owned N (M: all that is hidden) -/
def Sur (N M : List Addr) (s s' : Shared) : Prop := ∀ b o, b ∉ N → ((∀ es ep, o.data ≠ .dict es ep) ∧ b ≠ tT ∨ b ∉ M) → s.heap.get? b = some o → s'.heap.get? b = some o
theorem Sur.refl {N M : List Addr} {s : Shared} : Sur N M s s := fun _ _ _ _ e => e
theorem Sur.trans {N M : List Addr} {s₁ s₂ s₃ : Shared} (x : Sur N M s₁ s₂) (y : Sur N M s₂ s₃) : Sur N M s₁ s₃ := fun b o h1 h2 e => y b o h1 h2 (x b o h1 h2 e)
theorem Sur.kept {N M : List Addr} {s s' : Shared} (k : Kept M s s') : Sur N M s s' := fun b o _ h e => by
  rcases h with ⟨h1, h2⟩ | h
  · exact k.exact h2 e h1
  · exact k.keep b o h e
theorem Sur.turn {N M : List Addr} {s : Shared} {a : Addr} {h' : Heap} {k : Nat} (hs : Heap.ExtBut a s.heap h') (ha : a ∈ N) : Sur N M s { s with heap := h', toks := k } := fun b o h1 _ e => hs b o (fun q => h1 (q ▸ ha)) e

/-- a statement about the owned, stable in what does not touch it -/
structure Stb (env : Env) (own : List Addr) (names : List Str) (X : List Addr → Shared → Prop) : Prop where
  kept : ∀ M s s', X M s → tT ∈ M → Kept M s s' → X M s'
  turn : ∀ M s a h' k, X M s → a ∈ M → a ∉ own → a ≠ env.locals → (∀ c ∈ env.cells, c.2 ≠ a) → Heap.ExtBut a s.heap h' → X M { s with heap := h', toks := k }
  store : ∀ M s h' k, X M s → env.locals ∈ M → env.locals ∉ own → Heap.ExtBut env.locals s.heap h' → (∀ y u, y ∈ names → Has env s.heap y u → Has env h' y u) → X M { s with heap := h', toks := k }
  grow : ∀ M s s' a, X M s → tT ∈ M → Kept M s s' → s.heap.get? a = none → X (a :: M) s'
  less : ∀ M M' s, X M s → (∀ a ∈ M', a ∈ M) → (Mk M → Mk M') → X M' s

theorem Stb.triv {env : Env} {own : List Addr} {names : List Str} : Stb env own names fun _ _ => True := ⟨fun _ _ _ _ _ _ => trivial, fun _ _ _ _ _ _ _ _ _ _ _ => trivial, fun _ _ _ _ _ _ _ _ _ => trivial, fun _ _ _ _ _ _ _ _ => trivial, fun _ _ _ _ _ _ => trivial⟩

/-- an owned list -/
structure Ow (env : Env) (x : Str) (D : Addr) (ds : List PyData) (M : List Addr) (s : Shared) : Prop where
  nm : Has env s.heap x (.ref D)
  nT : D ≠ tT
  ls : ∃ vs n, IsL s.heap D (List.toArray vs) n ∧ RdAll M s vs ds

theorem Ow.stb {env : Env} {x : Str} {D : Addr} {ds : List PyData} : Stb env [D] [x] (Ow env x D ds) where
  kept := fun M s s' h _ k => ⟨h.nm.kept k, h.nT, let ⟨vs, n, a, b⟩ := h.ls; ⟨vs, n, IsL_kept a k h.nT, b.kept k⟩⟩
  turn := fun M s a h' k h ha ho hL hc hs => ⟨h.nm.turn hs (Ne.symm hL) fun c e => hc _ (mem_of_lookup e), h.nT, let ⟨vs, n, p, q⟩ := h.ls; ⟨vs, n, hs _ _ (fun q => ho (by simp [← q])) p, q.own hs ha⟩⟩
  store := fun M s h' k h hL ho hs hk => ⟨hk _ _ (by simp) h.nm, h.nT, let ⟨vs, n, p, q⟩ := h.ls; ⟨vs, n, hs _ _ (fun q => ho (by simp [← q])) p, q.own hs hL⟩⟩
  grow := fun M s s' a h _ k ha => ⟨h.nm.kept k, h.nT, let ⟨vs, n, p, q⟩ := h.ls; ⟨vs, n, IsL_kept p k h.nT, q.grow (N := [a]) k.keep fun b hb => by obtain rfl : b = a := (by simpa using hb); exact ha⟩⟩
  less := fun M M' s h hs _ => ⟨h.nm, h.nT, let ⟨vs, n, p, q⟩ := h.ls; ⟨vs, n, p, q.less hs⟩⟩

/-- in a body with something owned -/
structure Sx (g : Gd) (A : Around) (env : Env) (ρ : Rho) (N W : List Addr) (s₀ : Shared) (X : List Addr → Shared → Prop) (N₀ : List Addr) (base s : Shared) : Prop where
  i : In g A env ρ N W s₀ s
  x : X (N ++ W) s
  sur : Sur N₀ (N ++ W) base s

section
variable {g : Gd} {A : Around} {env : Env} {ρ ρ' : Rho} {pos : Pos} {N W N₀ own : List Addr} {names : List Str} {s₀ base s : Shared} {X : List Addr → Shared → Prop}

theorem Sx.step {s' : Shared} (st : Stb env own names X) (x : Sx g A env ρ N W s₀ X N₀ base s) (k : Kept (N ++ W) s s') : Sx g A env ρ N W s₀ X N₀ base s' := ⟨x.i.step k, st.kept _ _ _ x.x x.i.wo.wd.tW k, x.sur.trans (.kept k)⟩
theorem Sx.subs (x : Sx g A env ρ N W s₀ X N₀ base s) (h : Subs ρ' ρ) : Sx g A env ρ' N W s₀ X N₀ base s := ⟨x.i.subs h, x.x, x.sur⟩

/-- a store into a local -/
theorem sx_store (st : Stb env own names X) (i : Sx g A env ρ N W s₀ X N₀ base s) {x : Str} {v : Value} {d : PyData} (hx : env.kindOf x = some .local) (hf : env.scope.kind = .function) (hcells : ∀ c ∈ env.cells, c.2 ≠ env.locals) (hL : env.locals ∉ own) (hL₀ : env.locals ∈ N₀) (hn : x ∉ names) (r : Rd (N ++ W) s v d)
    {M : Model} {E : Value → Shared → Prop} {Q : Unit → Shared → Prop} (h : ∀ s', Sx g A env (upd x d ρ) N W s₀ X N₀ base s' → Q () s') : wpAny M A (storeName env x v) Q E s := by
  have hLm : env.locals ∈ N ++ W := List.mem_append_left _ i.i.loc
  exact i.i.store2 hx hf hcells fun h' hs hk hv i' => h _ ⟨i'.know hv (r.own (k := s.toks + 1) hs hLm), st.store _ _ _ _ i.x hLm hL hs (fun y u hy => hk y u fun q => hn (q ▸ hy)), i.sur.trans (.turn hs hL₀)⟩

theorem sx_set (st : Stb env own names X) (i : Sx g A env ρ N W s₀ X N₀ base s) {x : Str} {px : Pos} {e : Expr} {d : PyData} {rest : List Stmt} (hf : env.scope.kind = .function) (hcells : ∀ c ∈ env.cells, c.2 ≠ env.locals) (hL : env.locals ∉ own) (hL₀ : env.locals ∈ N₀) (hn : x ∉ names) (hx : env.kindOf x = some .local) (hw : swapsWith e (some (.Name x px)) pos.line env = pure false)
    (he : Ex g A env ρ e d) {E : Value → Shared → Prop} {Q : Flow → Shared → Prop} (h : ∀ s', Sx g A env (upd x d ρ) N W s₀ X N₀ base s' → wpAny g.M A (execs rest env) Q E s') : wpAny g.M A (execs (.Assign [.Name x px] e pos :: rest) env) Q E s :=
  next_cons (wpAny_Assign_Name (he.run _ s i.i.wo E _ fun v s₁ k r => sx_store st (i.step st k) hx hf hcells hL hL₀ hn r fun s' i' => ⟨rfl, h s' i'⟩) hw)

/-- x = y = e -/
theorem sx_set2 (st : Stb env own names X) (i : Sx g A env ρ N W s₀ X N₀ base s) {x y : Str} {px py : Pos} {e : Expr} {d : PyData} {rest : List Stmt} (hf : env.scope.kind = .function) (hcells : ∀ c ∈ env.cells, c.2 ≠ env.locals) (hL : env.locals ∉ own) (hL₀ : env.locals ∈ N₀) (hn : x ∉ names) (hx : env.kindOf x = some .local) (hn2 : y ∉ names) (hy : env.kindOf y = some .local)
    (he1 : (assignEach [.Name x px, .Name y py] env).map (·.2) = [assign (.Name x px) env, assign (.Name y py) env]) (hw : swappedStores [.Name x px, .Name y py] e env = pure none)
    (he : Ex g A env ρ e d) (hi : ∀ W s s' v, Rd W s v d → Rd W s' v d) {E : Value → Shared → Prop} {Q : Flow → Shared → Prop} (h : ∀ s', Sx g A env (upd y d (upd x d ρ)) N W s₀ X N₀ base s' → wpAny g.M A (execs rest env) Q E s') : wpAny g.M A (execs (.Assign [.Name x px, .Name y py] e pos :: rest) env) Q E s :=
  next_cons (wpAny_Assign_two (he.run _ s i.i.wo E _ fun v s₁ k r => wpAny_assign_Name (sx_store st (i.step st k) hx hf hcells hL hL₀ hn r fun s₂ i₂ => wpAny_assign_Name (sx_store st i₂ hy hf hcells hL hL₀ hn2 (hi _ _ _ _ r) fun s' i' => ⟨rfl, h s' i'⟩))) he1 hw)

/-- x += e, texts -/
theorem sx_aug (st : Stb env own names X) (i : Sx g A env ρ N W s₀ X N₀ base s) {x : Str} {px : Pos} {e : Expr} {a b : List Nat} {rest : List Stmt} (hf : env.scope.kind = .function) (hcells : ∀ c ∈ env.cells, c.2 ≠ env.locals) (hL : env.locals ∉ own) (hL₀ : env.locals ∈ N₀) (hn : x ∉ names) (hx : env.kindOf x = some .local)
    (ha : look x ρ = some (pS a)) (he : Ex g A env ρ e (pS b)) (hz : a.length + b.length ≤ sizeLine) {E : Value → Shared → Prop} {Q : Flow → Shared → Prop} (h : ∀ s', Sx g A env (upd x (pS (a ++ b)) ρ) N W s₀ X N₀ base s' → wpAny g.M A (execs rest env) Q E s') : wpAny g.M A (execs (.AugAssign (.Name x px) .Add e pos :: rest) env) Q E s := by
  obtain ⟨u, hu, ru⟩ := i.i.wo.vs _ (look_mem ha)
  obtain ⟨t, rfl⟩ := ru.str_inv
  refine next_cons (wpAny_AugAssign_Name (hu.load hf (he.run _ s i.i.wo E _ fun v s₁ k r => ?_)))
  obtain ⟨t', rfl⟩ := r.str_inv
  refine PyProof.Rows.iadd_str (fun t2 tk => ?_) (by rw [sI_len, sI_len]; exact hz)
  rw [sI_app]
  exact sx_store st ((i.step st k).step st (.toks (k := tk))) hx hf hcells hL hL₀ hn .str fun s' i' => ⟨rfl, h s' i'⟩

theorem sx_if (st : Stb env own names X) (i : Sx g A env ρ N W s₀ X N₀ base s) {t : Expr} {b o rest : List Stmt} {v : Bool} (ht : Tt g A env ρ t v) {E : Value → Shared → Prop} {R : Flow → Shared → Prop}
    (h : ∀ s', Sx g A env ρ N W s₀ X N₀ base s' → wpAny g.M A (execs (if v = true then b else o) env) (fun fl s' => match fl with | .next => wpAny g.M A (execs rest env) R E s' | fl => R fl s') E s') : wpAny g.M A (execs (.If t b o pos :: rest) env) R E s := by
  refine wpAny_execs_cons (wpAny_If (ht.run _ s i.i.wo E _ fun s' k => ?_))
  have := h s' (i.step st k)
  cases v with
  | true => exact wpAny_mono this (fun fl s₂ h₂ => by cases fl <;> exact h₂) fun _ _ x => x
  | false => exact wpAny_mono this (fun fl s₂ h₂ => by cases fl <;> exact h₂) fun _ _ x => x

/-- x.append(e) for the owned list -/
theorem sx_app {x : Str} {D : Addr} {ds : List PyData} {d : PyData} (i : Sx g A env ρ N W s₀ (Ow env x D ds) N₀ base s) {e : Expr} {px apos p2 : Pos} {rest : List Stmt} (hf : env.scope.kind = .function) (hD : D ∈ N) (hD₀ : D ∈ N₀) (hc : ∀ c ∈ env.cells, c.2 ≠ D) (hd : (x == ("__debug__" : Str)) = false) (hz : ds.length ≤ sizeLine)
    (hbase : attributeBase (.Name x px) "append" env (eval (.Name x px) env) = eval (.Name x px) env) (hs : starEach [e] env = [(false, eval e env)]) (hline : (apos.endLine == pos.line) = true) (hi : interactive env = false) (hsw : swapsWith (.Call (.Attribute (.Name x px) "append" apos) [e] [] pos) none p2.line env = pure false)
    (he : Ex g A env ρ e d) {E : Value → Shared → Prop} {R : Flow → Shared → Prop} (h : ∀ s', Sx g A env ρ N W s₀ (Ow env x D (ds ++ [d])) N₀ base s' → wpAny g.M A (execs rest env) R E s') :
    wpAny g.M A (execs (.Expr (.Call (.Attribute (.Name x px) "append" apos) [e] [] pos) p2 :: rest) env) R E s := by
  obtain ⟨vs, n, hl, hr⟩ := i.x.ls
  refine next_cons (app_stmt i.i hD hl (by rw [hr.length]; exact hz) hc (fun E' Q' hq => Has.name hf i.x.nm hd (hq s (.refl ..))) he hbase hs hline hi hsw fun s₁ h' v k₁ r₁ hs' hl' i' => ⟨rfl, h _ ⟨i', ⟨?_, i.x.nT, vs ++ [v], n + 1, hl', ?_⟩, ?_⟩⟩)
  · exact (i.x.nm.kept k₁).turn hs' (i.i.locNe hl) fun c e => hc _ (mem_of_lookup e)
  · exact ((hr.kept k₁).snoc r₁).own (k := s₁.toks) hs' (List.mem_append_left _ hD)
  · exact (i.sur.trans (.kept k₁)).trans (.turn (k := s₁.toks) hs' hD₀)

/-- one that is owned is let go of -/
theorem In.drop {I : Addr} {h' : Heap} {k : Nat} {o : Obj} (i : In g A env ρ (I :: N) W s₀ s) (eI : Heap.ExtBut I s.heap h') (e : s.heap.get? I = some o) (ed : ∀ es ep, o.data ≠ .dict es ep) (IL : I ≠ env.locals) (cI : ∀ c ∈ env.cells, c.2 ≠ I) (hIN : I ∉ N ++ W) : In g A env ρ N W s₀ { s with heap := h', toks := k } := by
  have IT := i.neT (a := I) (by simp)
  have Im : I ∈ (I :: N) ++ W := List.mem_append_left _ (.head _)
  have sub : ∀ a ∈ N ++ W, a ∈ (I :: N) ++ W := fun a ha => (List.mem_append.mp ha).elim (fun h => List.mem_append_left _ (List.mem_cons_of_mem _ h)) fun h => List.mem_append_right _ h
  refine ⟨i.kept.own eI (i.new I (.head _)) IT, fun a ha => i.new a (.tail _ ha), ⟨⟨?_, ?_, fun a ha => ?_, ?_, (Mk.iff fun a ha => i.neT (.tail _ ha)).trans ((Mk.iff (N := I :: N) fun a ha => i.neT ha).symm.trans i.wo.wd.mode)⟩, ?_, fun p hp => ?_⟩, ?_, ?_, i.w0⟩
  · rcases List.mem_append.mp i.wo.wd.tW with h | h
    · exact absurd rfl (i.neT h)
    · exact List.mem_append_right _ h
  · obtain ⟨ps, e, r⟩ := i.wo.wd.tab; exact ⟨ps, eI _ _ (Ne.symm IT) e, r⟩
  · obtain ⟨o', e'⟩ := i.wo.wd.live a (sub a ha)
    exact ⟨o', eI _ _ (fun q => hIN (q ▸ ha)) e'⟩
  · exact (i.wo.wd.known.keeps (hide_mono fun b o hb e => eI b o (fun q => hb (q ▸ Im)) e)).keeps (hide_less sub)
  · obtain ⟨envs, e1, hh⟩ := i.wo.fs
    refine ⟨envs, e1, fun env' he => ?_⟩
    obtain ⟨h1, L, o2, es, ep, h2, h3, h4, h5, h6⟩ := hh env' he
    have hLI : L ≠ I := fun q => by rw [q, e] at h5; cases h5; exact ed es ep h6
    refine ⟨h1, L, o2, es, ep, h2, ?_, h4, eI _ _ hLI h5, h6⟩
    rcases List.mem_cons.mp h3 with h | h
    · exact absurd h hLI
    · exact h
  · obtain ⟨v, y, r⟩ := i.wo.vs p hp
    exact ⟨v, y.turn eI (Ne.symm IL) (fun c hc => cI _ (mem_of_lookup hc)), (r.own eI Im).less sub⟩
  · obtain ⟨m, hn⟩ := i.ns
    exact ⟨m, hn.extBut eI (Ne.symm IL)⟩
  · rcases List.mem_cons.mp i.loc with h | h
    · exact absurd h.symm IL
    · exact h

theorem In.offW (i : In g A env ρ N W s₀ s) {a : Addr} (ha : a ∈ N) : a ∉ W := fun hm => by
  obtain ⟨o, e⟩ := i.w0.live a hm
  rw [i.new a ha] at e; cases e
/-- what was owned is now a datum as the others -/
theorem In.frozen {x : Str} {D : Addr} {ds : List PyData} (i : In g A env ρ (D :: N) W s₀ s) (o : Ow env x D ds ((D :: N) ++ W) s) (hD : D ∉ N) : In g A env ((x, .list ds) :: ρ) N W s₀ s := by
  obtain ⟨vs, n, hl, hr⟩ := o.ls
  have j : In g A env ρ N W s₀ s := i.out (fun a ha => .tail _ ha) (fun a ha hn => by
    cases ha with
    | head => exact ⟨_, hl, fun es ep q => by cases q⟩
    | tail _ h => exact absurd h hn) (by
    rcases List.mem_cons.mp i.loc with h | h
    · exact absurd h (i.locNe hl)
    · exact h)
  refine j.know o.nm (Rd.list_mk hl.isList (fun hm => (List.mem_append.mp hm).elim hD (i.offW (.head _))) (hr.less fun a ha => ?_))
  exact (List.mem_append.mp ha).elim (fun h => List.mem_append_left _ (.tail _ h)) fun h => List.mem_append_right _ h

/-- the for loop -/
theorem in_for {Xs : Nat → List Addr → Shared → Prop} {ρs : Nat → Rho} {x : Str} {px : Pos} {iter : Expr} {items : List PyData} {body : List Stmt} (st : ∀ k, Stb env own names (Xs k)) (hh : A.handled = none) (i : In g A env (ρs 0) N W s₀ s) (x0 : Xs 0 (N ++ W) s)
    (hf : env.scope.kind = .function) (hcells : ∀ c ∈ env.cells, c.2 ≠ env.locals) (hcN : ∀ c ∈ env.cells, c.2 ∈ N) (hL : env.locals ∉ own) (hown : ∀ a ∈ own, a ∈ N) (hn : x ∉ names) (hx : env.kindOf x = some .local) (hfs : ∀ x, foldedSetIterable iter env x = pure x)
    (hit : It g A env (ρs 0) iter items)
    (hb : ∀ I k d s₁, I ∉ N → items[k]? = some d → Sx g A env (upd x d (ρs k)) (I :: N) W s₀ (Xs k) N s₁ s₁ → ∀ E, wpAny g.M A (execs body env) (fun fl s' => (fl = .next ∨ fl = .cont) ∧ Sx g A env (ρs (k + 1)) (I :: N) W s₀ (Xs (k + 1)) N s₁ s') E s₁)
    {E : Value → Shared → Prop} {Q : Flow → Shared → Prop} (h : ∀ s', In g A env (ρs items.length) N W s₀ s' → Xs items.length (N ++ W) s' → Q .next s') : wpAny g.M A (exec (.For (.Name x px) iter body [] pos) env) Q E s := by
  refine wpAny_For (hit.run _ s i.wo E _ fun xv s₁ k₁ hiter => hiter _ _ fun I s₂ fp P St k₂ it => ?_) hfs
  have i₁ := i.step k₁
  have x₁ := (st 0).kept _ _ _ x0 i.wo.wd.tW k₁
  have live : ∀ {k : Nat} {h : Heap}, St k h → ∃ o vs, h.get? I = some o ∧ o.data = .fields vs := fun hst => it.shape _ _ hst
  have i₂ : In g A env (ρs 0) (I :: N) W s₀ s₂ := i₁.grow k₂ it.new (let ⟨o, vs, e, _⟩ := live it.start; ⟨o, e⟩)
  have x₂ := (st 0).grow _ _ _ I x₁ i₁.wo.wd.tW k₂ it.new
  have IT : I ≠ tT := i₂.neT (by simp)
  have IN : I ∉ N := fun hm => by obtain ⟨o, e⟩ := i₁.wo.wd.live I (List.mem_append_left _ hm); rw [it.new] at e; cases e
  have IM : I ∉ N ++ W := fun hm => by obtain ⟨o, e⟩ := i₁.wo.wd.live I hm; rw [it.new] at e; cases e
  have IL : I ≠ env.locals := fun q => IN (q ▸ i.loc)
  have Iown : I ∉ own := fun hm => IN (hown I hm)
  have cI : ∀ c ∈ env.cells, c.2 ≠ I := fun c hc q => IN (q ▸ hcN c hc)
  have srcB : ∀ b ∈ fp, b = I ∨ (b ∉ (I :: N) ++ W ∧ ∃ o, s₁.heap.get? b = some o) := fun b hb => by
    rcases it.src b hb with h | ⟨h1, o, e⟩
    · exact .inl h
    · refine .inr ⟨fun hm => ?_, o, e⟩
      rcases List.mem_cons.mp hm with h | h
      · rw [h, it.new] at e; cases e
      · exact h1 h
  -- what the walk reads stays
  have stay : ∀ k (s₅ s₆ : Shared), St k s₅.heap → Sur N ((I :: N) ++ W) s₅ s₆ → St k s₆.heap := fun k s₅ s₆ hst hs => it.walks.frame _ _ _ hst fun b hb o e => by
    rcases srcB b hb with rfl | ⟨hbM, _⟩
    · obtain ⟨o2, vs2, e2, ed⟩ := live hst
      rw [e2] at e; cases e
      exact hs _ _ IN (.inl ⟨(fun es ep q => by rw [ed] at q; cases q), IT⟩) e2
    · exact hs _ _ (fun hm => hbM (List.mem_append_left _ (List.mem_cons_of_mem _ hm))) (.inr hbM) e
  have Im : I ∈ (I :: N) ++ W := List.mem_append_left _ (.head _)
  -- the iterator turns
  have turned : ∀ k (s₅ : Shared) h' tk, In g A env (ρs k) (I :: N) W s₀ s₅ → Xs k ((I :: N) ++ W) s₅ → (∀ b o, b ∉ [I] → s₅.heap.get? b = some o → h'.get? b = some o) → (∃ o, h'.get? I = some o) → St k s₅.heap →
      In g A env (ρs k) (I :: N) W s₀ { s₅ with heap := h', toks := tk } ∧ Xs k ((I :: N) ++ W) { s₅ with heap := h', toks := tk } := fun k s₅ h' tk i₅ x₅ hk hl hst => by
    have eI : Heap.ExtBut I s₅.heap h' := fun b o hb e => hk b o (by simpa using hb) e
    refine ⟨⟨i₅.kept.own eI (i₅.new I (.head _)) IT, i₅.new, ⟨i₅.wo.wd.turn eI Im IT hl, i₅.wo.fs.turn eI (fun o es ep e ed => ?_), fun p hp => ?_⟩, ?_, i₅.loc, i₅.w0⟩, (st k).turn _ _ I _ _ x₅ Im Iown IL cI eI⟩
    · obtain ⟨o2, vs2, e2, ed2⟩ := live hst
      rw [e2] at e; cases e
      rw [ed2] at ed; cases ed
    · obtain ⟨v, y, r⟩ := i₅.wo.vs p hp
      exact ⟨v, y.turn eI (Ne.symm IL) (fun c hc => cI _ (mem_of_lookup hc)), r.own eI Im⟩
    · obtain ⟨m, hn⟩ := i₅.ns
      exact ⟨m, hn.extBut eI (Ne.symm IL)⟩
  refine codeAny_forLoop (fun n s' => ∃ k, n = items.length + 1 - k ∧ k ≤ items.length ∧ In g A env (ρs k) (I :: N) W s₀ s' ∧ Xs k ((I :: N) ++ W) s' ∧ St k s'.heap ∧ ∀ b o, b ∉ (I :: N) ++ W → s₂.heap.get? b = some o → s'.heap.get? b = some o) ?_ (items.length + 1) ⟨0, by lia, Nat.zero_le _, i₂, x₂, it.start, fun _ _ _ e => e⟩
  rintro n s' ⟨k, rfl, hk, ik, xk, hst, hkb⟩
  by_cases hlt : k < items.length
  · refine it.walks.item k s' _ _ hlt hst fun v h₃ tk₃ hP hst₃ hk₃ => ?_
    obtain ⟨o₃, vs₃, e₃, _⟩ := live hst₃
    obtain ⟨i₃, x₃⟩ := turned k s' h₃ tk₃ ik xk hk₃ ⟨_, e₃⟩ hst
    obtain ⟨d, hd, rd⟩ := it.item k v hP
    have hkb₃ : ∀ b o, b ∉ (I :: N) ++ W → s₂.heap.get? b = some o → h₃.get? b = some o := fun b o hb e => hk₃ b o (fun h => hb (by rw [List.mem_singleton.mp h]; exact Im)) (hkb b o hb e)
    have K₃ : ∀ b o, b ∉ N ++ W → s₁.heap.get? b = some o → h₃.get? b = some o := fun b o hb e => hkb₃ b o (fun hm => by
      rcases List.mem_cons.mp hm with h | h
      · rw [h, it.new] at e; cases e
      · exact hb h) (k₂.keep b o hb e)
    have rd₃ : Rd ((I :: N) ++ W) { s' with heap := h₃, toks := tk₃ } v d := rd.grow (N := [I]) K₃ fun b hb => by obtain rfl : b = I := (by simpa using hb); exact it.new
    refine wpAny_assign_Name (sx_store (st k) (base := { s' with heap := h₃, toks := tk₃ }) ⟨i₃, x₃, .refl⟩ hx hf hcells hL i.loc hn rd₃ fun s₄ i₄ => ?_)
    refine wpAny_mono (hb I k d s₄ IN hd ⟨i₄.i, i₄.x, .refl⟩ _) (fun fl s₅ h₅ => ?_) fun _ _ x => x
    obtain ⟨hfl, i₅⟩ := h₅
    have key : ∃ m, m < items.length + 1 - k ∧ ∃ k, m = items.length + 1 - k ∧ k ≤ items.length ∧ In g A env (ρs k) (I :: N) W s₀ s₅ ∧ Xs k ((I :: N) ++ W) s₅ ∧ St k s₅.heap ∧ ∀ b o, b ∉ (I :: N) ++ W → s₂.heap.get? b = some o → s₅.heap.get? b = some o := by
      have nN : ∀ b, b ∉ (I :: N) ++ W → b ∉ N := fun b hb h => hb (List.mem_append_left _ (List.mem_cons_of_mem _ h))
      refine ⟨items.length + 1 - (k + 1), by lia, k + 1, rfl, hlt, i₅.i, i₅.x, stay _ s₄ s₅ (stay _ { s' with heap := h₃, toks := tk₃ } s₄ hst₃ i₄.sur) i₅.sur, fun b o hb e => i₅.sur b o (nN b hb) (.inr hb) (i₄.sur b o (nN b hb) (.inr hb) (hkb₃ b o hb e))⟩
    rcases hfl with rfl | rfl <;> exact key
  · have : k = items.length := by lia
    subst this
    refine it.walks.done s' _ _ hst fun h₃ tk₃ hk₃ => wpAny_execs_nil ?_
    obtain ⟨o, vs, e, ed⟩ := live hst
    have eI : Heap.ExtBut I s'.heap h₃ := fun b o hb e => hk₃ b o (by simpa using hb) e
    exact h _ (ik.drop eI e (fun es ep q => by rw [ed] at q; cases q) IL cI IM) ((st _).less _ _ _ ((st _).turn _ _ I _ _ xk Im Iown IL cI eI) (fun a ha => (List.mem_append.mp ha).elim (fun h => List.mem_append_left _ (List.mem_cons_of_mem _ h)) fun h => List.mem_append_right _ h) fun h => h.un (N := [I]) (W := N ++ W) fun a ha => by obtain rfl : a = I := (by simpa using ha); exact IT)
end
end Mine

/- Http -/
namespace Mine
open PySem PySem.W PySem.Calls PySem.Spec PyProof.Rows
set_option Elab.async false
set_option linter.unusedVariables false
set_option maxRecDepth 100000
set_option maxHeartbeats 1000000

structure Hs where
  res : List (List Nat)
  part : List Nat
  esc : Bool
  quo : Bool
def hStep (h : Hs) (c : Nat) : Hs :=
  if h.esc = true then { h with part := h.part ++ [c], esc := false }
  else if h.quo = true then (if c = 92 then { h with esc := true } else if c = 34 then { h with part := h.part ++ [c], quo := false } else { h with part := h.part ++ [c] })
  else if c = 44 then { h with res := h.res ++ [h.part], part := [] }
  else if c = 34 then { h with part := h.part ++ [c], quo := true }
  else { h with part := h.part ++ [c] }
def hAt (l : List Nat) (k : Nat) : Hs := (l.take k).foldl hStep ⟨[], [], false, false⟩
def hParts (l : List Nat) : List (List Nat) := (hAt l l.length).res ++ (if (hAt l l.length).part ≠ [] then [(hAt l l.length).part] else [])
theorem hAt_succ {l : List Nat} {k c : Nat} (h : l[k]? = some c) : hAt l (k + 1) = hStep (hAt l k) c := by
  unfold hAt
  rw [List.take_add_one, h, Option.toList_some, List.foldl_append]
  rfl
theorem hStep_len (h : Hs) (c : Nat) : (hStep h c).res.length + (hStep h c).part.length ≤ h.res.length + h.part.length + 1 := by
  unfold hStep
  split
  · simp; lia
  · split
    · split
      · simp
      · split <;> simp <;> lia
    · split
      · simp
      · split <;> simp <;> lia
theorem hAt_len (l : List Nat) : ∀ k, (hAt l k).res.length + (hAt l k).part.length ≤ k
  | 0 => by simp [hAt]
  | k + 1 => by
    have ih := hAt_len l k
    cases h : l[k]? with
    | none =>
      have : hAt l (k + 1) = hAt l k := by unfold hAt; rw [List.take_add_one, h]; simp
      rw [this]; lia
    | some c => rw [hAt_succ h]; have := hStep_len (hAt l k) c; lia

theorem hAt_part (l : List Nat) (k : Nat) : ∀ p ∈ (hAt l k).res, p.length ≤ k := by
  have key : ∀ k, (∀ p ∈ (hAt l k).res, p.length ≤ k) := fun k => by
    induction k with
    | zero => intro p hp; simp [hAt] at hp
    | succ k ih =>
      intro p hp
      cases h : l[k]? with
      | none =>
        have : hAt l (k + 1) = hAt l k := by unfold hAt; rw [List.take_add_one, h]; simp
        rw [this] at hp
        have := ih p hp; lia
      | some c =>
        rw [hAt_succ h] at hp
        have hl := hAt_len l k
        have : p ∈ (hAt l k).res ∨ p = (hAt l k).part := by
          unfold hStep at hp
          split at hp
          · exact .inl hp
          · split at hp
            · split at hp
              · exact .inl hp
              · split at hp <;> exact .inl hp
            · split at hp
              · simpa using hp
              · split at hp <;> exact .inl hp
        rcases this with h | rfl
        · have := ih p h; lia
        · lia
  exact key k

section
variable {g : Gd} {A : Around} {env : Env} {ρ ρ' : Rho} {pos : Pos}
theorem cs_eq {a b : List Nat} : Cm g A .Eq (pS a) (pS b) (decide (a = b)) := cm_eq_str.is (by rw [Bool.eq_iff_iff]; simp)
end

def hRho (l : List Nat) (h : Hs) : Rho := [("s", pS l), ("part", pS h.part), ("escape", .bool h.esc), ("quote", .bool h.quo)]

theorem http_sp {g : Gd} {f : Addr} {cdv : Value} (F : Fd g "parse_http_list" 9 f cdv) {l : List Nat} (hl : l.length ≤ 1000) : Sp1 g f 1 (pS l) (.list ((hParts l).map fun p => .str (Txt.strip (sI p)))) := by
  refine enter1 F (p := "s") (fun _ _ _ _ _ => rfl) rfl (by decide) rfl rfl rfl fun A W s₀ s L rm i E => ?_
  generalize henv : envX "parse_http_list" (fScope 9) L f cdv [] = env at *
  have pe : Pe env := henv ▸ ⟨rfl, rfl⟩
  have en : En env := henv ▸ ⟨rfl, rfl, rfl⟩
  have hL : env.locals = L := henv ▸ rfl
  have kR : env.kindOf "res" = some .local := henv ▸ rfl
  have kP : env.kindOf "part" = some .local := henv ▸ rfl
  have kE : env.kindOf "escape" = some .local := henv ▸ rfl
  have kQ : env.kindOf "quote" = some .local := henv ▸ rfl
  have kC : env.kindOf "cur" = some .local := henv ▸ rfl
  have hin : interactive env = false := henv ▸ rfl
  have hcells : ∀ c ∈ env.cells, c.2 ≠ env.locals := by rw [pe.nc]; intro _ h; cases h
  have hcN : ∀ N : List Addr, ∀ c ∈ env.cells, c.2 ∈ N := by rw [pe.nc]; intro _ _ h; cases h
  have hz : l.length ≤ sizeLine := by rw [sizeLine_eq]; lia
  rw [← hL] at i
  refine next_cons (wpAny_Expr (Constant_str ⟨rfl, ?_⟩) hin rfl)
  have i := i.step (.toks (k := s.toks + 1))
  generalize ({ s with toks := s.toks + 1 } : Shared) = s at i
  refine next_cons (wpAny_Assign_Name (List_ (spliced_nil (wpAny_newObj_type ?_ (by show ([] : List Value).toArray.size ≤ sizeLine; simp)))) rfl)
  generalize hD : s.heap.objs.size = D
  generalize hh1 : s.heap.push { cls := .type "list", data := .seq ([] : List Value).toArray } = h1
  have ld : IsL h1 D ([] : List Value).toArray 0 := by rw [← hh1, ← hD]; exact IsL.new ..
  have k1 : Kept ([env.locals] ++ W) s { s with heap := h1 } := by rw [← hh1]; exact .push'
  have d0 : s.heap.get? D = none := Heap.get?_none_of_le (Nat.le_of_eq hD)
  have i1 := i.grow k1 d0 ⟨_, ld⟩
  refine i1.store2 kR pe.fn hcells fun h2 hs2 hk2 hv2 i2 => ⟨rfl, ?_⟩
  have x2 : Ow env "res" D [] ([D, env.locals] ++ W) { s with heap := h2, toks := s.toks + 1 } := ⟨hv2, i1.neT (by simp), [], 0, hs2 _ _ (Ne.symm (i1.locNe ld)) ld, .nil⟩
  have hLD : env.locals ∉ [D] := by simpa using i1.locNe ld
  generalize ({ s with heap := h2, toks := s.toks + 1 } : Shared) = s2 at i2 x2
  have X2 : Sx g A env (del "res" [("s", pS l)]) [D, env.locals] W s₀ (Ow env "res" D []) [D, env.locals] s2 s2 := ⟨i2, x2, .refl⟩
  clear i2 x2 hk2 hv2 hs2 i1 k1 ld d0
  refine sx_set Ow.stb X2 pe.fn hcells hLD (by simp) (by decide) kP rfl (es_str (l := []) (by decide)) ?_
  intro s3 X3
  refine sx_set2 Ow.stb X3 pe.fn hcells hLD (by simp) (by decide) kE (by decide) kQ rfl rfl ex_bool (fun _ _ _ _ r => by obtain rfl := r.bool_inv; exact .bool) ?_
  intro s4 X4
  have X4 := X4.subs (ρ' := hRho l (hAt l 0)) ⟨rfl, rfl, rfl, rfl, trivial⟩
  clear X3 X2
  refine next_cons (in_for (Xs := fun k => Ow env "res" D ((hAt l k).res.map pS)) (ρs := fun k => hRho l (hAt l k)) (own := [D]) (names := ["res"]) (items := l.map fun c => pS [c]) (fun _ => Ow.stb) rm.handled X4.i X4.x pe.fn hcells (hcN _) hLD (by simp) (by decide) kC (fun _ => rfl) ?_ ?_ ?_)
  · exact it_str (x := sI l) rm.handled (ex_v pe.fn rfl)
  · intro I k d s₁ hI hd X E
    obtain ⟨c, hc, rfl⟩ : ∃ c, l[k]? = some c ∧ d = pS [c] := by
      rw [List.getElem?_map] at hd
      cases h : l[k]? with
      | none => rw [h] at hd; cases hd
      | some c => rw [h] at hd; cases hd; exact ⟨c, rfl, rfl⟩
    have hk : k < l.length := (List.getElem?_eq_some_iff.mp hc).1
    have hlen := hAt_len l k
    rw [hAt_succ hc]
    generalize hAt l k = h at *
    obtain ⟨res, part, esc, quo⟩ := h
    dsimp only [hRho] at X hlen
    have hp : part.length + [c].length ≤ sizeLine := by rw [sizeLine_eq]; simp; lia
    have hLN : env.locals ∈ [D, env.locals] := by simp
    refine sx_if Ow.stb X (v := esc) (tt_bool (ex_v pe.fn rfl)) ?_
    clear X
    intro s X
    cases esc with
    | true =>
      rw [if_pos rfl]
      refine sx_aug Ow.stb X pe.fn hcells hLD hLN (by decide) kP rfl (ex_v pe.fn rfl) hp ?_
      clear X
      intro s X
      refine sx_set Ow.stb X pe.fn hcells hLD hLN (by decide) kE rfl ex_bool ?_
      clear X
      intro s X
      exact wpAny_execs_cons (wpAny_Continue ⟨.inr rfl, X.subs ⟨rfl, rfl, rfl, rfl, trivial⟩⟩)
    | false =>
      rw [if_neg (by decide)]
      refine wpAny_execs_nil (sx_if Ow.stb X (v := quo) (tt_bool (ex_v pe.fn rfl)) ?_)
      clear X
      intro s X
      cases quo with
      | true =>
        rw [if_pos rfl]
        refine sx_if Ow.stb X (v := decide ([c] = [92])) (tt_cmp (ex_v pe.fn rfl) (es_str (l := [92]) (by decide)) cs_eq) ?_
        clear X
        intro s X
        by_cases h92 : c = 92
        · rw [if_pos (by simp [h92])]
          refine sx_set Ow.stb X pe.fn hcells hLD hLN (by decide) kE rfl ex_bool ?_
          clear X
          intro s X
          have e : hStep ⟨res, part, false, true⟩ c = ⟨res, part, true, true⟩ := by simp [hStep, h92]
          rw [e]
          exact wpAny_execs_cons (wpAny_Continue ⟨.inr rfl, X.subs ⟨rfl, rfl, rfl, rfl, trivial⟩⟩)
        · rw [if_neg (by simp [h92])]
          refine sx_if Ow.stb X (v := decide ([c] = [34])) (tt_cmp (ex_v pe.fn rfl) (es_str (l := [34]) (by decide)) cs_eq) ?_
          clear X
          intro s X
          by_cases h34 : c = 34
          · rw [if_pos (by simp [h34])]
            refine sx_set Ow.stb X pe.fn hcells hLD hLN (by decide) kQ rfl ex_bool ?_
            clear X
            intro s X
            refine wpAny_execs_nil (wpAny_execs_nil (sx_aug Ow.stb X pe.fn hcells hLD hLN (by decide) kP rfl (ex_v pe.fn rfl) hp ?_))
            clear X
            intro s X
            have e : hStep ⟨res, part, false, true⟩ c = ⟨res, part ++ [c], false, false⟩ := by simp [hStep, h34]
            rw [e]
            exact wpAny_execs_cons (wpAny_Continue ⟨.inr rfl, X.subs ⟨rfl, rfl, rfl, rfl, trivial⟩⟩)
          · rw [if_neg (by simp [h34])]
            refine wpAny_execs_nil (wpAny_execs_nil (sx_aug Ow.stb X pe.fn hcells hLD hLN (by decide) kP rfl (ex_v pe.fn rfl) hp ?_))
            clear X
            intro s X
            have e : hStep ⟨res, part, false, true⟩ c = ⟨res, part ++ [c], false, true⟩ := by simp [hStep, h34, h92]
            rw [e]
            exact wpAny_execs_cons (wpAny_Continue ⟨.inr rfl, X.subs ⟨rfl, rfl, rfl, rfl, trivial⟩⟩)
      | false =>
        rw [if_neg (by decide)]
        refine wpAny_execs_nil (sx_if Ow.stb X (v := decide ([c] = [44])) (tt_cmp (ex_v pe.fn rfl) (es_str (l := [44]) (by decide)) cs_eq) ?_)
        clear X
        intro s X
        by_cases h44 : c = 44
        · rw [if_pos (by simp [h44])]
          refine sx_app X pe.fn (by simp) (by simp) (by rw [pe.nc]; intro _ h; cases h) (by decide) (by rw [List.length_map, sizeLine_eq]; lia) rfl rfl rfl hin rfl (ex_v pe.fn rfl) ?_
          clear X
          intro s X
          refine sx_set Ow.stb X pe.fn hcells hLD hLN (by decide) kP rfl (es_str (l := []) (by decide)) ?_
          clear X
          intro s X
          have e : hStep ⟨res, part, false, false⟩ c = ⟨res ++ [part], [], false, false⟩ := by simp [hStep, h44]
          rw [e]
          have e2 : ((⟨res ++ [part], [], false, false⟩ : Hs).res.map pS) = res.map pS ++ [pS part] := by simp
          rw [e2]
          exact wpAny_execs_cons (wpAny_Continue ⟨.inr rfl, X.subs ⟨rfl, rfl, rfl, rfl, trivial⟩⟩)
        · rw [if_neg (by simp [h44])]
          refine wpAny_execs_nil (sx_if Ow.stb X (v := decide ([c] = [34])) (tt_cmp (ex_v pe.fn rfl) (es_str (l := [34]) (by decide)) cs_eq) ?_)
          clear X
          intro s X
          by_cases h34 : c = 34
          · rw [if_pos (by simp [h34])]
            refine sx_set Ow.stb X pe.fn hcells hLD hLN (by decide) kQ rfl ex_bool ?_
            clear X
            intro s X
            refine wpAny_execs_nil (sx_aug Ow.stb X pe.fn hcells hLD hLN (by decide) kP rfl (ex_v pe.fn rfl) hp ?_)
            clear X
            intro s X
            have e : hStep ⟨res, part, false, false⟩ c = ⟨res, part ++ [c], false, true⟩ := by simp [hStep, h34]
            rw [e]
            exact wpAny_execs_nil ⟨.inl rfl, X.subs ⟨rfl, rfl, rfl, rfl, trivial⟩⟩
          · rw [if_neg (by simp [h34])]
            refine wpAny_execs_nil (sx_aug Ow.stb X pe.fn hcells hLD hLN (by decide) kP rfl (ex_v pe.fn rfl) hp ?_)
            clear X
            intro s X
            have e : hStep ⟨res, part, false, false⟩ c = ⟨res, part ++ [c], false, false⟩ := by simp [hStep, h34, h44]
            rw [e]
            exact wpAny_execs_nil ⟨.inl rfl, X.subs ⟨rfl, rfl, rfl, rfl, trivial⟩⟩
  · intro s₅ i₅ x₅
    refine ⟨rfl, ?_⟩
    rw [List.length_map] at i₅ x₅
    have hlen := hAt_len l l.length
    have hbig : ∀ p ∈ (hAt l l.length).res, p.length ≤ l.length := hAt_part l l.length
    have hfin : hParts l = (hAt l l.length).res ++ (if (hAt l l.length).part ≠ [] then [(hAt l l.length).part] else []) := rfl
    rw [hfin]
    generalize hAt l l.length = h at *
    obtain ⟨res, part, esc, quo⟩ := h
    have hlen2 := hbig
    dsimp only [hRho] at i₅ x₅ hlen hlen2
    have X : Sx g A env [("s", pS l), ("part", pS part), ("escape", .bool esc), ("quote", .bool quo)] [D, env.locals] W s₀ (Ow env "res" D (res.map pS)) [D, env.locals] s₅ s₅ := ⟨i₅, x₅, .refl⟩
    have endW : ∀ (ps : List (List Nat)) s₆, ps.length ≤ 1001 → (∀ p ∈ ps, p.length ≤ 1001) → In g A env (("res", .list (ps.map pS)) :: [("s", pS l), ("part", pS part), ("escape", .bool esc), ("quote", .bool quo)]) [env.locals] W s₀ s₆ →
        ∀ (e : Stmt) (rest : List Stmt), e = (fBody 9).getD 6 (.Pass ⟨0, 0, 0, 0⟩) → wpAny g.M A (execs (e :: rest) env) (Ret W s₀ (.list (ps.map fun p => .str (Txt.strip (sI p))))) E s₆ := fun ps s₆ hps hpl i₆ e rest he => by
      subst he
      refine ret_execs i₆ (ex_of_core (cl := []) ?_ (henv ▸ rfl) rfl (by decide))
      refine core_map (ρc := []) (l := ps) (mk := pS) pS_inj rm.handled rfl (by decide) rfl (it_list rm.handled (ex_v pe.fn rfl)) ?_ ?_ ?_
      · intro _ _ _ _; exact Vs.nil
      · intro C p hp
        exact ex_strip (ex_v rfl rfl) (by rw [sI_len, sizeLine_eq]; have := hpl p hp; lia)
      · rw [sizeLine_eq]; lia
    refine sx_if Ow.stb X (v := decide (part ≠ [])) ((tt_str (ex_v pe.fn rfl) (by rw [sI_len, sizeLine_eq]; lia)).is ?_) ?_
    · rw [sI_len]
      cases part <;> simp; lia
    clear X i₅ x₅
    intro s X
    have hDN : D ∉ [env.locals] := by simp only [List.mem_singleton]; exact fun q => hLD (by simp [q])
    by_cases hp : part = []
    · rw [if_neg (by simp [hp]), if_neg (by simp [hp]), List.append_nil]
      refine wpAny_execs_nil (endW res s (by lia) (fun p hpm => ?_) (X.i.frozen X.x hDN) _ _ rfl)
      have := hlen2 p hpm; lia
    · rw [if_pos (by simp [hp]), if_pos hp]
      refine sx_app X pe.fn (by simp) (by simp) (by rw [pe.nc]; intro _ h; cases h) (by decide) (by rw [List.length_map, sizeLine_eq]; lia) rfl rfl rfl hin rfl (ex_v pe.fn rfl) ?_
      clear X
      intro s X
      refine wpAny_execs_nil (endW (res ++ [part]) s (by simp; lia) (fun p hpm => ?_) ?_ _ _ rfl)
      · rcases List.mem_append.mp hpm with h | h
        · have := hlen2 p h; lia
        · obtain rfl : p = part := by simpa using h
          lia
      · rw [List.map_append]
        exact X.i.frozen X.x hDN
end Mine

/- Told -/
namespace Mine
open PySem PySem.W PySem.Calls PySem.Spec PyProof.Rows
set_option Elab.async false
set_option linter.unusedVariables false
set_option maxRecDepth 100000
set_option maxHeartbeats 1000000

def tStep (h : List Nat × Nat) (o : Nat) : List Nat × Nat := if o < 64 then (h.1 ++ [64 * h.2 + o % 64], 0) else (h.1, 64 * h.2 + o % 64)
def tAt (l : List Nat) (k : Nat) : List Nat × Nat := (l.take k).foldl tStep ([], 0)
def nums (l : List Nat) : List Nat := (tAt l l.length).1
abbrev dec (n : Nat) : Str := Str.ofString (toString (n : Int))
abbrev yes (b : Bool) : Str := if b = true then Str.ofString "True" else Str.ofString "False"
def row4 (q : List Nat) : List Str := [dec (2 * q.getD 0 0), dec (2 * q.getD 0 0 + 2 * q.getD 1 0), dec (2 * q.getD 2 0), dec (q.getD 3 0 / 2), yes (decide (q.getD 3 0 % 2 = 1))]
def fours (ns : List Nat) : List (List Nat) := (List.range (ns.length / 4)).map fun i => (ns.drop (4 * i)).take 4
def told (l : List Nat) : List (List Str) := (fours (nums l)).map row4
abbrev pR (r : List Str) : PyData := .list (r.map .str)
abbrev pT (t : List (List Str)) : PyData := .list (t.map pR)

theorem tAt_succ {l : List Nat} {k c : Nat} (h : l[k]? = some c) : tAt l (k + 1) = tStep (tAt l k) c := by
  unfold tAt
  rw [List.take_add_one, h, Option.toList_some, List.foldl_append]
  rfl
theorem tAt_over {l : List Nat} {k : Nat} (h : l[k]? = none) : tAt l (k + 1) = tAt l k := by unfold tAt; rw [List.take_add_one, h]; simp
theorem tAt_bound (l : List Nat) : ∀ k, (tAt l k).1.length ≤ k ∧ (tAt l k).2 < 64 ^ k ∧ ∀ n ∈ (tAt l k).1, n < 64 ^ k
  | 0 => by simp [tAt]
  | k + 1 => by
    obtain ⟨h1, h2, h3⟩ := tAt_bound l k
    have hp : (64 : Nat) ^ (k + 1) = 64 ^ k * 64 := Nat.pow_succ 64 k
    cases h : l[k]? with
    | none => rw [tAt_over h]; exact ⟨by lia, by lia, fun n hn => by have := h3 n hn; lia⟩
    | some c =>
      rw [tAt_succ h]
      unfold tStep
      have hm : c % 64 < 64 := Nat.mod_lt _ (by decide)
      split
      · refine ⟨by simp; lia, by show 0 < _; lia, fun n hn => ?_⟩
        rcases List.mem_append.mp hn with hn | hn
        · have := h3 n hn; lia
        · obtain rfl := List.mem_singleton.mp hn; lia
      · exact ⟨by show (tAt l k).1.length ≤ _; lia, by show 64 * _ + _ < _; lia, fun n hn => by have := h3 n hn; lia⟩

section
variable {g : Gd} {A : Around} {env : Env} {ρ ρ' : Rho} {pos : Pos} {N W N₀ own : List Addr} {names : List Str} {s₀ base s : Shared} {X : List Addr → Shared → Prop}

/-- a store into a cell of the block -/
theorem In.cell {x : Str} {c : Addr} {v : Value} {v₀ : Option Value} (i : In g A env ρ N W s₀ s) (hf : env.scope.kind = .function) (hx : env.kindOf x = some .cell) (hc : env.cells.lookup x = some c) (hcN : c ∈ N) (hv : s.heap.IsCell c v₀) (hu : ∀ y, env.cells.lookup y = some c → y = x)
    {M : Model} {E : Value → Shared → Prop} {Q : Unit → Shared → Prop} (h : ∀ h', Heap.ExtBut c s.heap h' → (∀ y u, y ≠ x → Has env s.heap y u → Has env h' y u) → Has env h' x v → In g A env (del x ρ) N W s₀ { s with heap := h' } → Q () { s with heap := h' }) : wpAny M A (storeName env x v) Q E s := by
  have hT := i.neT hcN
  have hcm : c ∈ N ++ W := List.mem_append_left _ hcN
  refine wpAny_storeName_cell hf hx hc hv fun h' hv' hs => ?_
  obtain ⟨oc, ec, edc⟩ := id hv
  have hcl : env.locals ≠ c := fun q => by
    obtain ⟨m, o, es, ep, e, ed, _⟩ := i.ns
    rw [q, ec] at e; cases e; rw [edc] at ed; cases ed
  have keep : ∀ y u, y ≠ x → Has env s.heap y u → Has env h' y u := fun y u hne hy => by
    refine hy.turn hs.extBut hcl fun c2 h2 q => ?_
    subst q
    exact hne (hu y h2)
  refine h h' hs.extBut keep (.cell c hx hc hT hv') ⟨i.kept.own (k := s.toks) hs.extBut (i.new _ hcN) hT, i.new, ⟨i.wo.wd.turn (k := s.toks) hs.extBut hcm hT ?_, i.wo.fs.turn (k := s.toks) hs.extBut ?_, fun p hp => ?_⟩, ?_, i.loc, i.w0⟩
  · obtain ⟨o, e, _⟩ := hv'; exact ⟨o, e⟩
  · intro o es ep e ed
    rw [ec] at e; cases e; rw [edc] at ed; cases ed
  · obtain ⟨hp, hne⟩ := del_mem hp
    obtain ⟨u, y, ru⟩ := i.wo.vs p hp
    exact ⟨u, keep _ _ hne y, ru.own (k := s.toks) hs.extBut hcm⟩
  · obtain ⟨m, hn⟩ := i.ns
    exact ⟨m, hn.extBut hs.extBut hcl⟩

/-- l[a:b] -/
theorem en_slice {value lo hi : Expr} {sp : Pos} {l : List Nat} {a b : Nat} (hv : Ex g A env ρ value (pL l)) (h1 : Ex g A env ρ lo (pI a)) (h2 : Ex g A env ρ hi (pI b)) (ha : a ≤ b) (hb : b ≤ l.length) (hz : l.length ≤ sizeLine) :
    Ex g A env ρ (.Subscript value (.Slice (some lo) (some hi) none sp) pos) (pL ((l.drop a).take (b - a))) := by
  refine (ex_slice (a := a) (b := b) hv (pt_some h1) (pt_some h2) ?_ (by simpa using hz)).is ?_
  · rw [kms_bounds, List.length_map]
    simp only [kms_lo, kms_hi]
    rw [if_neg (by lia), if_neg (by lia)]
    simp only [Int.toNat_natCast]
    rw [Nat.min_eq_left (by lia), Nat.min_eq_left (by lia)]
  · exact congrArg PyData.list (by rw [← List.map_drop, ← List.map_take])
theorem en_dbl {e : Expr} {a : Nat} {j : Nat} {q : Pos} (h : Ex g A env ρ e (pI a)) : Ex g A env ρ (.BinOp (.Constant (.int 2) j q) .Mult e pos) (pI (2 * a)) :=
  (ex_mul ex_int h (IntMulOk.of_left (by decide))).is (by simp)
theorem en_64 {e : Expr} {a : Nat} {j : Nat} {q : Pos} (h : Ex g A env ρ e (pI a)) : Ex g A env ρ (.BinOp (.Constant (.int 64) j q) .Mult e pos) (pI (64 * a)) :=
  (ex_mul ex_int h (IntMulOk.of_left (by decide))).is (by simp)
theorem en_str (n : En env) {x : Str} {np : Pos} {e : Expr} {a : Nat} (b : Bn g x (.type "str")) (hx : env.kindOf x = some .globalImplicit) (he : Ex g A env ρ e (pI a)) (ha : a < 2 ^ 1900) (hs : starEach [e] env = [(false, eval e env)]) (hd : (x == ("__debug__" : Str)) = false) :
    Ex g A env ρ (.Call (.Name x np) [e] [] pos) (.str (dec a)) := ex_str_int n b hx he (by
  rw [Int.natAbs_natCast]
  by_cases h0 : a = 0
  · subst h0; decide
  · have := (Nat.log2_lt h0 (k := 1900)).mpr ha
    lia) hs hd
end

theorem rangeSize4 (n : Nat) : Builtin.Range.rangeSize 0 ((n : Int) - 3) 4 = ((n / 4 : Nat) : Int) := by
  unfold Builtin.Range.rangeSize
  rw [if_pos (by decide)]
  split <;> lia

theorem told_sp {g : Gd} {f : Addr} {cdv : Value} (F : Fd g "_law_told" 17 f cdv) (bR : Bn g "range" (.type "range")) (bL : Bn g "len" (.builtin "len")) (bS : Bn g "str" (.type "str")) {l : List Nat} (hl : l.length ≤ 300) : Sp1 g f 1 (pL l) (pT (told l)) := by
  refine enter1c F (p := "octets") (fun _ _ _ _ _ => rfl) (.inl rfl) rfl rfl rfl (fun A W s₀ s L rm i hcs hab hap E => ?_) (fun n => by show ([(("numbers" : Str), n)].map fun x => x.1).Nodup; simp)
  have hcl : cellsFrom (L + 1) (fScope 17).names [] = [(("numbers" : Str), L + 1)] := rfl
  rw [hcl] at i hcs
  rw [hcl]
  clear hab hap
  generalize henv : envX "_law_told" (fScope 17) L f cdv [(("numbers" : Str), L + 1)] = env at *
  have hf : env.scope.kind = .function := henv ▸ rfl
  have en : En env := henv ▸ ⟨rfl, rfl, rfl⟩
  have hL : env.locals = L := henv ▸ rfl
  have hC : env.cells = [(("numbers" : Str), L + 1)] := henv ▸ rfl
  have kN : env.kindOf "numbers" = some .cell := henv ▸ rfl
  have kF : env.kindOf "left" = some .local := henv ▸ rfl
  have kO : env.kindOf "octet" = some .local := henv ▸ rfl
  have k4 : env.kindOf "fours" = some .local := henv ▸ rfl
  have hin : interactive env = false := henv ▸ rfl
  have hne : (L + 1 : Addr) ≠ L := neN (by show @Ne Nat (L + 1) L; lia)
  have hcells : ∀ c ∈ env.cells, c.2 ≠ env.locals := by rw [hC, hL]; intro c h; rw [List.mem_singleton.mp h]; exact hne
  have hlk : env.cells.lookup ("numbers" : Str) = some (L + 1) := by rw [hC]; rfl
  have hz : l.length ≤ sizeLine := by rw [sizeLine_eq]; lia
  have hc0 := hcs (("numbers" : Str), L + 1) (.head _) (by show ("numbers" : Str) ≠ "octets"; decide)
  dsimp only [List.map] at i hc0
  have i : In g A env [("octets", pL l)] [env.locals, L + 1] W s₀ s := by rw [hL]; exact i
  refine next_cons (wpAny_Assign_Name (List_ (spliced_nil (wpAny_newObj_type ?_ (by show ([] : List Value).toArray.size ≤ sizeLine; simp)))) rfl)
  generalize hD : s.heap.objs.size = D
  generalize hh1 : s.heap.push { cls := .type "list", data := .seq ([] : List Value).toArray } = h1
  have ld : IsL h1 D ([] : List Value).toArray 0 := by rw [← hh1, ← hD]; exact IsL.new ..
  have k1 : Kept ([env.locals, L + 1] ++ W) s { s with heap := h1 } := by rw [← hh1]; exact .push'
  have d0 : s.heap.get? D = none := Heap.get?_none_of_le (Nat.le_of_eq hD)
  have i1 := i.grow k1 d0 ⟨_, ld⟩
  have hc1 := Cell.kept hc0 k1 (i.neT (by simp))
  have cD : (L + 1 : Addr) ≠ D := fun q => by
    obtain ⟨o, e, _⟩ := hc0
    rw [q, d0] at e; cases e
  refine i1.cell hf kN hlk (by simp) hc1 (fun y hy => by rw [hC] at hy; have := mem_of_lookup hy; simp only [List.mem_singleton] at this; exact congrArg Prod.fst this) fun h2 hs2 hk2 hv2 i2 => ⟨rfl, ?_⟩
  have x2 : Ow env "numbers" D [] ([D, env.locals, L + 1] ++ W) { s with heap := h2 } := ⟨hv2, i1.neT (by simp), [], 0, hs2 _ _ (Ne.symm cD) ld, .nil⟩
  have hLD : env.locals ∉ [D] := by simpa using i1.locNe ld
  generalize ({ s with heap := h2 } : Shared) = s2 at i2 x2
  have X2 : Sx g A env (del "numbers" [("octets", pL l)]) [D, env.locals, L + 1] W s₀ (Ow env "numbers" D []) [D, env.locals, L + 1] s2 s2 := ⟨i2, x2, .refl⟩
  clear i2 x2 hk2 hv2 hs2 i1 k1 ld d0
  refine sx_set Ow.stb X2 hf hcells hLD (by simp) (by decide) kF rfl ex_int ?_
  intro s3 X3
  have X3 := X3.subs (ρ' := [("octets", pL l), ("left", pI (tAt l 0).2)]) ⟨rfl, rfl, trivial⟩
  have hcD : ∀ c ∈ env.cells, c.2 ≠ D := by rw [hC]; intro c h; rw [List.mem_singleton.mp h]; exact cD
  refine next_cons (in_for (Xs := fun k => Ow env "numbers" D ((tAt l k).1.map pI)) (ρs := fun k => [("octets", pL l), ("left", pI (tAt l k).2)]) (own := [D]) (names := ["numbers"]) (items := l.map pI) (fun _ => Ow.stb) rm.handled X3.i X3.x hf hcells (by rw [hC]; intro c h; rw [List.mem_singleton.mp h]; simp) hLD (by simp) (by decide) kO (fun _ => rfl) ?_ ?_ ?_)
  · exact it_list rm.handled (ex_v hf rfl)
  · intro I k d s₁ hI hd X E
    obtain ⟨c, hc, rfl⟩ : ∃ c, l[k]? = some c ∧ d = pI c := by
      rw [List.getElem?_map] at hd
      cases h : l[k]? with
      | none => rw [h] at hd; cases hd
      | some c => rw [h] at hd; cases hd; exact ⟨c, rfl, rfl⟩
    have hk : k < l.length := (List.getElem?_eq_some_iff.mp hc).1
    have hlen := (tAt_bound l k).1
    rw [tAt_succ hc]
    generalize tAt l k = h at *
    obtain ⟨ns, left⟩ := h
    dsimp only at X hlen ⊢
    have hLN : env.locals ∈ [D, env.locals, L + 1] := by simp
    refine sx_set (d := pI (64 * left + c % 64)) Ow.stb X hf hcells hLD hLN (by decide) kF rfl (en_add (en_64 (ex_v hf rfl)) (en_mod (k := 64) (ex_v hf rfl) (by decide))) ?_
    clear X
    intro s X
    refine sx_if Ow.stb X (v := decide (c < 64)) (tt_cmp (ex_v hf rfl) (en_int (k := 64)) cn_lt) ?_
    clear X
    intro s X
    by_cases h64 : c < 64
    · rw [if_pos (by simp [h64])]
      refine sx_app X hf (by simp) (by simp) hcD (by decide) (by rw [List.length_map, sizeLine_eq]; lia) rfl rfl rfl hin rfl (ex_v hf rfl) ?_
      clear X
      intro s X
      refine sx_set Ow.stb X hf hcells hLD hLN (by decide) kF rfl ex_int ?_
      clear X
      intro s X
      have e : tStep (ns, left) c = (ns ++ [64 * left + c % 64], 0) := by simp [tStep, h64]
      rw [e]
      dsimp only
      rw [List.map_append]
      exact wpAny_execs_nil (wpAny_execs_nil ⟨.inl rfl, X.subs ⟨rfl, rfl, trivial⟩⟩)
    · rw [if_neg (by simp [h64])]
      have e : tStep (ns, left) c = (ns, 64 * left + c % 64) := by simp [tStep, h64]
      rw [e]
      exact wpAny_execs_nil (wpAny_execs_nil ⟨.inl rfl, X.subs ⟨rfl, rfl, trivial⟩⟩)
  · intro s₅ i₅ x₅
    refine ⟨rfl, ?_⟩
    rw [List.length_map] at i₅ x₅
    obtain ⟨b1, b2, b3⟩ := tAt_bound l l.length
    change (nums l).length ≤ _ at b1
    change ∀ n ∈ nums l, _ at b3
    have i₆ := i₅.frozen x₅ (by simp only [List.mem_cons, List.not_mem_nil, or_false]; rintro (h | h); exact hLD (by simp [h]); exact cD h.symm)
    have i₆ : In g A env [("numbers", pL (nums l))] [env.locals, L + 1] W s₀ s₅ := i₆.subs ⟨rfl, trivial⟩
    have hnz : (nums l).length ≤ sizeLine := by lia
    have hq : (nums l).length / 4 ≤ sizeLine := by lia
    refine nx_set_comp (cl := [("numbers", L + 1)]) (outs := (List.range ((nums l).length / 4)).map fun i => pL (((nums l).drop (4 * i)).take 4)) i₆ hf k4 hcells (henv ▸ rfl) (fun _ => rfl) (henv ▸ rfl) rfl (by decide) ?_ ?_
    · refine core_map (ρc := [("numbers", pL (nums l))]) (l := List.range ((nums l).length / 4)) (mk := fun i => .int (0 + (i : Nat) * 4)) (fun a b h => by injection h with h; lia) rm.handled rfl (by decide) rfl ?_ ?_ ?_ (by rw [List.length_range]; lia)
      · refine it_range3 en rm.handled bR (henv ▸ rfl) ex_int (ex_sub (en_len en bL (henv ▸ rfl) (ex_v hf rfl) hnz rfl (by decide)) ex_int) ex_int (by decide) (by decide) ?_ ?_
        · exact rangeSize4 _
        · exact small_of (n := ((nums l).length / 4 : Nat)) (by lia) (by lia) (by lia) (rangeSize4 _) (by lia)
      · intro C W s v
        exact Vs.catch v rfl (.inl kN) hlk (.inl (henv ▸ rfl)) rfl (by decide) Vs.nil
      · intro C i hi
        have hi : i < (nums l).length / 4 := by simpa using hi
        refine (en_slice (a := 4 * i) (b := 4 * i + 4) (ex_v rfl rfl) ((ex_v rfl rfl).is ?_) (en_add ((ex_v rfl rfl).is ?_) (en_int (k := 4))) (by lia) (by lia) hnz).is ?_
        · exact congrArg PyData.int (by lia)
        · exact congrArg PyData.int (by lia)
        · rw [Nat.add_sub_cancel_left]
    · intro s₇ i₇
      refine ret_execs i₇ (Ex.is (d := .list ((fours (nums l)).map fun q => pR (row4 q))) ?_ (by unfold told pT; rw [List.map_map]; rfl))
      refine ex_of_core (cl := []) ?_ (henv ▸ rfl) rfl (by decide)
      refine core_map (ρc := []) (l := fours (nums l)) (mk := pL) pL_inj rm.handled rfl (by decide) rfl (it_list rm.handled ((ex_v hf rfl).is ?_)) ?_ ?_ ?_
      · simp only [fours, List.map_map]; rfl
      · intro _ _ _ _; exact Vs.nil
      · intro C q hq4
        have ⟨hq1, hq2⟩ : q.length = 4 ∧ ∀ n ∈ q, n < 64 ^ l.length := by
          obtain ⟨i, hi, rfl⟩ := List.mem_map.mp hq4
          have hi : i < (nums l).length / 4 := by simpa using hi
          exact ⟨by rw [List.length_take, List.length_drop]; lia, fun n hn => b3 n (List.mem_of_mem_drop (List.mem_of_mem_take hn))⟩
        have hp : (64 : Nat) ^ l.length ≤ 64 ^ 300 := Nat.pow_le_pow_right (by decide) hl
        have h6 : (64 : Nat) ^ 300 = 2 ^ 1800 := by rw [show (64 : Nat) = 2 ^ 6 from rfl, ← Nat.pow_mul]
        have h9 : (2 : Nat) ^ 1900 = 2 ^ 1800 * 2 ^ 100 := by rw [← Nat.pow_add]
        have h100 : (4 : Nat) ≤ 2 ^ 100 := by decide
        have hbig : 2 ^ 1800 * 4 ≤ (2 : Nat) ^ 1900 := by rw [h9]; exact Nat.mul_le_mul_left _ h100
        rw [h6] at hp
        clear h9 h6
        generalize (2 : Nat) ^ 1800 = B at *
        have qd : ∀ j, j < 4 → q.getD j 0 < B := fun j hj => Nat.lt_of_lt_of_le (hq2 _ (getD_mem (by lia))) hp
        have q0 := qd 0 (by lia)
        have q1 := qd 1 (by lia)
        have q2 := qd 2 (by lia)
        have q3 := qd 3 (by lia)
        have hqz : q.length ≤ sizeLine := by rw [hq1, sizeLine_eq]; decide
        have it : ∀ (j k : Nat) (p p2 px : Pos), j < 4 → Ex g A (compEnvC { kind := .function, names := [(".0", .local), ("four", .local), ("str", .globalImplicit)], isGenerator := false, isCoroutine := false, more := [] } [] C env) [("four", pL q)] (.Subscript (.Name "four" px) (.Constant (.int (j : Nat)) k p) p2) (pI (q.getD j 0)) := fun j k p p2 px hj => en_item (ex_v rfl rfl) en_int (by lia) hqz (fun _ _ => rfl)
        have en' : En (compEnvC { kind := .function, names := [(".0", .local), ("four", .local), ("str", .globalImplicit)], isGenerator := false, isCoroutine := false, more := [] } [] C env) := henv ▸ ⟨rfl, rfl, rfl⟩
        refine ex_list (ds := (row4 q).map .str) (.cons ?_ (.cons ?_ (.cons ?_ (.cons ?_ (.cons ?_ .nil))))) (by simp [row4, sizeLine_eq])
        · exact en_str en' bS rfl (en_dbl (it 0 _ _ _ _ (by decide))) (by lia) rfl (by decide)
        · exact en_str en' bS rfl (en_add (en_dbl (it 0 _ _ _ _ (by decide))) (en_dbl (it 1 _ _ _ _ (by decide)))) (by lia) rfl (by decide)
        · exact en_str en' bS rfl (en_dbl (it 2 _ _ _ _ (by decide))) (by lia) rfl (by decide)
        · exact en_str en' bS rfl (en_div (k := 2) (it 3 _ _ _ _ (by decide)) (by decide) (by decide)) (by lia) rfl (by decide)
        · exact ex_str_bool en' bS rfl (ex_cmp (en_mod (k := 2) (it 3 _ _ _ _ (by decide)) (by decide)) (en_int (k := 1)) cn_eq) rfl (by decide)
      · simp only [fours, List.length_map, List.length_range]; lia
end Mine

/- Split -/
namespace Mine
open PySem PySem.W PySem.Calls PySem.Spec PyProof.Rows
set_option Elab.async false
set_option linter.unusedVariables false
set_option maxRecDepth 100000
set_option maxHeartbeats 400000

theorem extract_sI (l : List Nat) (i j : Nat) : Builtin.Str.strSub (sI l) i j = sI ((l.drop i).take (j - i)) := by
  unfold Builtin.Str.strSub
  refine congrArg Str.mk ?_
  simp [List.extract_eq_take_drop]
theorem subAt_one {l : List Nat} {c i : Nat} : Builtin.Str.subAt (sI l) (sI [c]) i = decide (l[i]? = some c) := by
  unfold Builtin.Str.subAt
  have : (sI l).cps.extract i (i + (sI [c]).length) = ((l.drop i).take 1).toArray := by
    rw [sI_len]; simp [List.extract_eq_take_drop]
  rw [this, Bool.eq_iff_iff]
  simp only [beq_iff_eq, decide_eq_true_eq]
  by_cases h : i < l.length
  · rw [drop_at h, some_getD h]; simp
  · rw [drop_over (by lia), List.getElem?_eq_none (by lia)]; simp
theorem occ_one {a b : List Nat} {c : Nat} (h : c ∉ a) : Builtin.Str.occurrences (sI (a ++ c :: b)) (sI [c]) 0 (sI (a ++ c :: b)).length 1 = [a.length] := by
  have hat : StrLaws.At (sI (a ++ c :: b)) (sI [c]) (sI (a ++ c :: b)).length a.length := by
    refine ⟨by rw [sI_len, sI_len]; simp, ?_⟩
    rw [subAt_one]; simp
  rcases StrLaws.occ_head (sI (a ++ c :: b)) (sI [c]) 1 (Nat.le_refl _) with ⟨_, hn⟩ | ⟨i, r, he, hi, hmin⟩
  · exact absurd hat (hn _)
  · have hle := StrLaws.occ_length_le (sI (a ++ c :: b)) (sI [c]) 0 (sI (a ++ c :: b)).length 1
    rw [he] at hle ⊢
    have hr : r = [] := by cases r with | nil => rfl | cons => simp at hle
    subst hr
    have h1 : a.length ≤ i := by
      apply Nat.le_of_not_lt
      intro hlt
      have := hi.2
      rw [subAt_one, decide_eq_true_eq, List.getElem?_append_left hlt] at this
      exact h (List.mem_of_getElem? this)
    have h2 : i ≤ a.length := Nat.le_of_not_lt fun hlt => hmin _ hlt hat
    rw [Nat.le_antisymm h1 h2]

section
variable {g : Gd} {A : Around} {env : Env} {ρ ρ' : Rho} {pos : Pos} {N W N₀ own : List Addr} {names : List Str} {s₀ base s : Shared} {X : List Addr → Shared → Prop}

theorem ex_split1 {o e₁ e₂ : Expr} {apos : Pos} {a b : List Nat} {c : Nat} (ho : Ex g A env ρ o (pS (a ++ c :: b))) (h1 : Ex g A env ρ e₁ (pS [c])) (h2 : Ex g A env ρ e₂ (pI 1)) (hc : c ∉ a) (h256 : ∀ n ∈ a ++ c :: b, n < 256) (hz : a.length + b.length + 1 ≤ sizeLine)
    (hs : starEach [e₁, e₂] env = [(false, eval e₁ env), (false, eval e₂ env)]) (hbase : attributeBase o "split" env (eval o env) = eval o env) (hline : (apos.endLine == pos.line) = true) :
    Ex g A env ρ (.Call (.Attribute o "split" apos) [e₁, e₂] [] pos) (.list [pS a, pS b]) := .mk fun W s w E Q h =>
  Call_method2 hbase hs hline (ho.run W s w E _ fun v s₁ k₁ r₁ => by
    obtain ⟨t, rfl⟩ := r₁.str_inv
    refine ⟨"str", "str.split", PySem.F.plainAttrs_str, PySem.F.slot_str_split, PySem.F.type_str_split, typeIs_str _ _ _, (fun _ e => by cases e),
      method_meets PySem.F.slot_str_split PySem.F.entry_str_split rfl (evalArgs_plain (spliced_cons (h1.run W s₁ (w.kept k₁) E _ fun v₂ s₂ k₂ r₂ => spliced_cons (h2.run W s₂ ((w.kept k₁).kept k₂) E _ fun v₃ s₃ k₃ r₃ => spliced_nil ?_))))⟩
    obtain ⟨t2, rfl⟩ := r₂.str_inv
    obtain ⟨t3, rfl⟩ := r₃.int_inv
    have hlim : limitOf (sI (a ++ c :: b)) ((1 : Nat) : Int) = 1 := rfl
    have hocc := occ_one (b := b) hc
    have hlen : (sI (a ++ c :: b)).length = a.length + b.length + 1 := by rw [sI_len]; simp; lia
    have hpb : Builtin.Str.partsBetween (sI (a ++ c :: b)) [a.length] (sI [c]).length = [sI a, sI b] := by
      unfold Builtin.Str.partsBetween
      simp only [List.map_cons, List.map_nil, List.cons_append, List.nil_append, List.zip_cons_cons, List.zip_nil_right, extract_sI, hlen, sI_len, List.length_cons, List.length_nil]
      congr 1
      · simp
      · congr 1
        have : List.drop (a.length + (0 + 1)) (a ++ c :: b) = b := by rw [List.drop_append]; simp
        rw [this]
        rw [List.take_of_length_le (by lia)]
    refine ⟨rfl, typeIs_str _ _ _, PySem.F.args_str_split_3 _ _ _, _, meets_str_split_sep_max (sI (a ++ c :: b)) (sI [c]) ((1 : Nat) : Int) t t2 t3 (by decide) ?_ rfl ?_ (by rw [hlen]; exact hz) (by rw [hlim, hocc, hpb]; simp [sizeLine_eq]), ?_⟩
    · have k1 : Builtin.Str.strKind (sI (a ++ c :: b)) = 1 := by
        unfold Builtin.Str.strKind
        rw [if_pos]
        simp only [Array.all_eq_true_iff_forall_mem, decide_eq_true_eq]
        intro x hx
        exact h256 x (by simpa using hx)
      have k2 : Builtin.Str.strKind (sI [c]) = 1 := by
        unfold Builtin.Str.strKind
        rw [if_pos]
        have := h256 c (by simp)
        simpa using this
      rw [hlen, sI_len, k1, k2]
      simp
    · rw [hlim, hocc]; rfl
    · rw [hlim, hocc, hpb]
      refine h _ _ (((k₁.trans k₂).trans k₃).trans .push) (rd_pushed (((w.kept k₁).kept k₂).kept k₃).wd (vs := [.str (sI a) s₃.toks, .str (sI b) (s₃.toks + 1)]) rfl ⟨0, rfl⟩ (.cons .str (.cons .str .nil))))

/-- x, y = e -/
theorem sx_pair (st : Stb env own names X) (hh : A.handled = none) (i : Sx g A env ρ N W s₀ X N₀ base s) {x y : Str} {px py tp : Pos} {k : Nat} {e : Expr} {d₁ d₂ : PyData} {rest : List Stmt} (hf : env.scope.kind = .function) (hcells : ∀ c ∈ env.cells, c.2 ≠ env.locals) (hL : env.locals ∉ own) (hL₀ : env.locals ∈ N₀) (hn : x ∉ names) (hx : env.kindOf x = some .local) (hn2 : y ∉ names) (hy : env.kindOf y = some .local)
    (hs : swapsWithSole [.Tuple [.Name x px, .Name y py] k tp] e pos.line env = pure false) (hw : swappedStores [.Tuple [.Name x px, .Name y py] k tp] e env = pure none)
    (he : Ex g A env ρ e (.list [d₁, d₂])) (hd : ∀ W s s' v, Rd W s v d₂ → Rd W s' v d₂) {E : Value → Shared → Prop} {Q : Flow → Shared → Prop} (h : ∀ s', Sx g A env (upd y d₂ (upd x d₁ ρ)) N W s₀ X N₀ base s' → wpAny g.M A (execs rest env) Q E s') : wpAny g.M A (execs (.Assign [.Tuple [.Name x px, .Name y py] k tp] e pos :: rest) env) Q E s := by
  refine next_cons (Assign_Tuple (he.run _ s i.i.wo E _ fun v s₁ k₁ r₁ => ?_) hs hw)
  obtain ⟨l, vs, rfl, _, hl, q⟩ := r₁.list_inv
  match vs, q with
  | [], q => have := q.length; simp at this
  | [_], q => have := q.length; simp at this
  | _ :: _ :: _ :: _, q => have := q.length; simp at this
  | [u₁, u₂], q =>
    rw [PyProof.Rows.assign_Tuple]
    refine wpAny_bind (wpAny_standAt ?_)
    have e1 : assignEach [.Name x px, .Name y py] env = [(false, assign (.Name x px) env), (false, assign (.Name y py) env)] := rfl
    unfold unpack
    rw [e1]
    refine wpAny_bind (wpAny_holding (kun_itemsOf (items := [u₁, u₂].toArray) hh hl fun h' he' => ?_))
    have k₂ : Kept (N ++ W) s₁ { s₁ with heap := h' } := .heap fun b o e => he' b o (Nat.ne_of_lt (Heap.lt_size e)) e
    have i₂ := (i.step st k₁).step st k₂
    have q₂ := q.kept k₂
    show wpAny _ _ (assignInOrder [assign (.Name x px) env, assign (.Name y py) env] [u₁, u₂]) _ _ _
    refine wpAny_bind (wpAny_holding (wpAny_assign_Name (sx_store st i₂ hx hf hcells hL hL₀ hn q₂.uncons.1 fun s₃ i₃ => ?_)))
    refine wpAny_bind (wpAny_holding (wpAny_assign_Name (sx_store st i₃ hy hf hcells hL hL₀ hn2 (hd _ _ _ _ q₂.uncons.2.uncons.1) fun s₄ i₄ => ?_)))
    exact wpAny_pure ⟨rfl, h s₄ i₄⟩
end
end Mine

/- Keqv -/
namespace Mine
open PySem PySem.W PySem.Calls PySem.Spec PyProof.Rows
set_option Elab.async false
set_option linter.unusedVariables false
set_option maxRecDepth 100000
set_option maxHeartbeats 1000000

abbrev Kv := List Nat × List Nat
inductive KvIs : List (Str × Value) → List Kv → Prop
  | nil : KvIs [] []
  | cons {k v : List Nat} {t : Tok} {vs : List (Str × Value)} {kvs : List Kv} : KvIs vs kvs → KvIs ((sI k, .str (sI v) t) :: vs) ((k, v) :: kvs)
theorem KvIs.snoc {k v : List Nat} {t : Tok} {vs : List (Str × Value)} {kvs : List Kv} (h : KvIs vs kvs) : KvIs (vs ++ [(sI k, .str (sI v) t)]) (kvs ++ [(k, v)]) := by
  induction h with
  | nil => exact .cons .nil
  | cons _ ih => exact .cons ih
theorem KvIs.keys {vs : List (Str × Value)} {kvs : List Kv} (h : KvIs vs kvs) : vs.map (·.1) = kvs.map fun p => sI p.1 := by
  induction h with
  | nil => rfl
  | cons _ ih => simp [ih]
theorem KvIs.length {vs : List (Str × Value)} {kvs : List Kv} (h : KvIs vs kvs) : vs.length = kvs.length := by
  have := congrArg List.length h.keys; simpa using this

/-- an owned dict -/
structure Od (g : Gd) (env : Env) (x : Str) (D : Addr) (kvs : List Kv) (M : List Addr) (s : Shared) : Prop where
  mkd : Mk M
  nm : Has env s.heap x (.ref D)
  nT : D ≠ tT
  dt : ∃ vs, s.heap.DictOf (PySem.strKind g.prog g.w) D vs ∧ KvIs vs kvs

theorem DictOf_at {prog : Program} {w : World} {h h' : Heap} {D : Addr} {vs : List (Str × Value)} (x : h.DictOf (PySem.strKind prog w) D vs) (k : ∀ o, h.get? D = some o → h'.get? D = some o) : h'.DictOf (PySem.strKind prog w) D vs := let ⟨o, es, ep, e, r⟩ := x; ⟨o, es, ep, k o e, r⟩
theorem Od.stb {g : Gd} {env : Env} {x : Str} {D : Addr} {kvs : List Kv} : Stb env [D] [x] (Od g env x D kvs) where
  kept := fun M s s' h _ k => ⟨h.mkd, h.nm.kept k, h.nT, let ⟨vs, a, b⟩ := h.dt; ⟨vs, DictOf_at a fun o e => by
    by_cases hw : D ∈ M
    · obtain ⟨sl, e', q⟩ := k.slots D o hw h.nT e
      rw [e', q (.inr h.mkd)]
    · exact k.keep D o hw e, b⟩⟩
  turn := fun M s a h' k h ha ho hL hc hs => ⟨h.mkd, h.nm.turn hs (Ne.symm hL) fun c e => hc _ (mem_of_lookup e), h.nT, let ⟨vs, p, q⟩ := h.dt; ⟨vs, DictOf_at p fun o e => hs _ _ (fun q => ho (by simp [← q])) e, q⟩⟩
  store := fun M s h' k h hL ho hs hk => ⟨h.mkd, hk _ _ (by simp) h.nm, h.nT, let ⟨vs, p, q⟩ := h.dt; ⟨vs, DictOf_at p fun o e => hs _ _ (fun q => ho (by simp [← q])) e, q⟩⟩
  grow := fun M s s' a h _ k ha => ⟨Mk.app (N := [a]) h.mkd, h.nm.kept k, h.nT, let ⟨vs, p, q⟩ := h.dt; ⟨vs, DictOf_at p fun o e => by
    by_cases hw : D ∈ M
    · obtain ⟨sl, e', q⟩ := k.slots D o hw h.nT e
      rw [e', q (.inr h.mkd)]
    · exact k.keep D o hw e, q⟩⟩
  less := fun M M' s h hs hm => ⟨hm h.mkd, h.nm, h.nT, h.dt⟩

theorem dict_new {prog : Program} {w : World} (h : Heap) : (h.push { cls := .type "dict", data := .dict #[] }).DictOf (PySem.strKind prog w) h.objs.size [] :=
  ⟨_, #[], 0, Heap.get?_push_size _ rfl, ⟨rfl, rfl, rfl⟩, rfl, (fun e h => by simp at h), .nil, by simp⟩
theorem stored_new {vs : List (Str × Value)} {k : Str} {v : Value} (h : k ∉ vs.map (·.1)) : stored vs k v = vs ++ [(k, v)] := by
  unfold stored
  rw [if_neg]
  simp only [List.any_eq_true, decide_eq_true_eq, not_exists, not_and]
  intro p hp q
  exact h (List.mem_map.mpr ⟨p, hp, q⟩)

section
variable {g : Gd} {A : Around} {env : Env} {ρ ρ' : Rho} {pos : Pos} {N W N₀ own : List Addr} {names : List Str} {s₀ base s : Shared} {X : List Addr → Shared → Prop}

/-- an owned dict turns -/
theorem In.turnD {D : Addr} {vs : List (Str × Value)} {k : Nat} {h' : Heap} (i : In g A env ρ N W s₀ s) (hD : D ∈ N) (hDL : D ≠ env.locals) (hs : Heap.ExtBut D s.heap h') (hl' : ∃ o es ep, h'.get? D = some o ∧ o.data = .dict es ep)
    (hc : ∀ c ∈ env.cells, c.2 ≠ D) : In g A env ρ N W s₀ { s with heap := h', toks := k } := by
  have hDT := i.neT hD
  have hDm : D ∈ N ++ W := List.mem_append_left _ hD
  obtain ⟨o', es', ep', e', ed'⟩ := hl'
  refine ⟨i.kept.own hs (i.new D hD) hDT, i.new, ⟨i.wo.wd.turn hs hDm hDT ⟨_, e'⟩, i.wo.fs.turn hs (fun o es ep e ed => ⟨o', es', ep', e', ed'⟩), fun p hp => ?_⟩, ?_, i.loc, i.w0⟩
  · obtain ⟨v, y, r⟩ := i.wo.vs p hp
    exact ⟨v, y.turn hs (Ne.symm hDL) (fun c h => hc _ (mem_of_lookup h)), r.own hs hDm⟩
  · obtain ⟨m, hn⟩ := i.ns
    exact ⟨m, hn.extBut hs (Ne.symm hDL)⟩

/-- x[k] = v for the owned dict -/
theorem sx_put {x : Str} {D : Addr} {kvs : List Kv} {a b : List Nat} (i : Sx g A env ρ N W s₀ (Od g env x D kvs) N₀ base s) {ek ev : Expr} {px sp : Pos} {rest : List Stmt} (hf : env.scope.kind = .function) (hD : D ∈ N) (hD₀ : D ∈ N₀) (hDL : D ≠ env.locals) (hc : ∀ c ∈ env.cells, c.2 ≠ D) (hd : (x == ("__debug__" : Str)) = false) (hz : kvs.length ≤ sizeLine)
    (hn : a ∉ kvs.map (·.1)) (hsw : swapsWith ev (some (.Subscript (.Name x px) ek sp)) pos.line env = pure false) (hk : Ex g A env ρ ek (pS a)) (hv : Ex g A env ρ ev (pS b)) {E : Value → Shared → Prop} {R : Flow → Shared → Prop} (h : ∀ s', Sx g A env ρ N W s₀ (Od g env x D (kvs ++ [(a, b)])) N₀ base s' → wpAny g.M A (execs rest env) R E s') :
    wpAny g.M A (execs (.Assign [.Subscript (.Name x px) ek sp] ev pos :: rest) env) R E s := by
  refine next_cons (wpAny_Assign_Subscript (hv.run _ s i.i.wo E _ fun v s₁ k₁ r₁ => Has.name hf (i.x.nm.kept k₁) hd (hk.run _ s₁ (i.i.step k₁).wo E _ fun u s₂ k₂ r₂ => ?_)) hsw)
  have i₂ := (i.step Od.stb k₁).step Od.stb k₂
  obtain ⟨t, rfl⟩ := (r₁.kept k₂).str_inv
  obtain ⟨t2, rfl⟩ := r₂.str_inv
  obtain ⟨vs, hdt, hkv⟩ := i₂.x.dt
  have hnk : sI a ∉ vs.map (·.1) := by
    rw [hkv.keys]
    intro hm
    obtain ⟨p, hp, e⟩ := List.mem_map.mp hm
    have : p.1 = a := by injection e with e; simpa using congrArg Array.toList e
    exact hn (List.mem_map.mpr ⟨p, hp, this⟩)
  refine wpAny_setItem_pairs (knd := PySem.strKind g.prog g.w) (k := sI a) (by show Value.isStrOf (sI a) (Value.str (sI a) t2) = true; unfold Value.isStrOf; exact beq_self_eq_true _) hdt (fun h' hdt' hs' => ⟨rfl, h _ ?_⟩) (by rw [hkv.length]; exact hz)
  rw [stored_new hnk] at hdt'
  have hl' : ∃ o es ep, h'.get? D = some o ∧ o.data = .dict es ep := let ⟨o, es, ep, e, _, ed, _⟩ := hdt'; ⟨o, es, ep, e, ed⟩
  exact ⟨i₂.i.turnD (vs := vs) (k := s₂.toks + 1) hD hDL hs'.extBut hl' hc, ⟨i₂.x.mkd, i₂.x.nm.turn hs'.extBut (Ne.symm hDL) fun c e => hc _ (mem_of_lookup e), i₂.x.nT, _, hdt', hkv.snoc⟩, i₂.sur.trans (.turn (k := s₂.toks + 1) hs'.extBut hD₀)⟩

/-- v[1:-1] -/
theorem es_inner {value : Expr} {lo hi : Expr} {sp : Pos} {v : List Nat} {a b : Nat} (hv : Ex g A env ρ value (pS (a :: v ++ [b]))) (h1 : Ex g A env ρ lo (.int 1)) (h2 : Ex g A env ρ hi (.int (-1))) (hz : v.length ≤ sizeLine) :
    Ex g A env ρ (.Subscript value (.Slice (some lo) (some hi) none sp) pos) (pS v) := by
  refine ex_slice_str hv (pt_some h1) (pt_some h2) (fun t => .inl ?_) (by rw [sI_len]; exact hz)
  have hlen : (sI (a :: v ++ [b])).length = v.length + 2 := by rw [sI_len]; simp
  have hp : slicePicked (sI (a :: v ++ [b])) (Option.map (fun i => (i, 0)) (some (1 : Int))) (Option.map (fun i => (i, 0)) (some (-1 : Int))) none = Builtin.Str.strSliceIndices (some ((1 : Nat) : Int)) (some ((v.length + 1 : Nat) : Int)) 1 (sI (a :: v ++ [b])).length := by
    show Builtin.Str.strSliceIndices (some 1) (some (-1)) 1 _ = _
    rw [StrLaws.sliceIdx_neg_hi _ _ (by decide) (by rw [hlen]; lia), hlen]
    congr 2
    lia
  unfold sliceMade
  rw [hp]
  have hl2 : (Builtin.Str.strSliceIndices (some ((1 : Nat) : Int)) (some ((v.length + 1 : Nat) : Int)) 1 (sI (a :: v ++ [b])).length).length = v.length := by
    rw [StrLaws.strSliceIndices_plain (by lia) (by rw [hlen]; lia)]
    simp
  rw [if_neg (by rw [hl2, hlen]; simp)]
  congr 2
  rw [StrLaws.sliced_plain _ (by lia) (by rw [hlen]; lia)]
  simp
end
end Mine

/- Keqv2 -/
namespace Mine
open PySem PySem.W PySem.Calls PySem.Spec PyProof.Rows
set_option Elab.async false
set_option linter.unusedVariables false
set_option maxRecDepth 100000
set_option maxHeartbeats 1000000

abbrev elt1 (p : Kv) : List Nat := p.1 ++ 61 :: (34 :: p.2 ++ [34])
def kPost (g : Gd) (kvs : List Kv) (W : List Addr) (s₀ : Shared) (v : Value) (s' : Shared) : Prop := ∃ D vs, v = .ref D ∧ s₀.heap.get? D = none ∧ s'.heap.DictOf (PySem.strKind g.prog g.w) D vs ∧ KvIs vs kvs ∧ (D == sysModules) = false

theorem sign_first (a : Nat) (l : List Nat) : (seqIndex? 0 (sI (a :: l)).length).bind ((sI (a :: l)).cps[·]?) = some a := by
  rw [sI_len]
  simp [seqIndex?]
theorem sign_last (a : Nat) (l : List Nat) : (seqIndex? (-1) (sI (l ++ [a])).length).bind ((sI (l ++ [a])).cps[·]?) = some a := by
  rw [sI_len]
  unfold seqIndex?
  simp only [List.length_append, List.length_cons, List.length_nil]
  have h1 : (if (-1 : Int) < 0 then -1 + ((l.length + (0 + 1) : Nat) : Int) else -1) = -1 + ((l.length + (0 + 1) : Nat) : Int) := if_pos (by decide)
  rw [h1, if_pos (by simp only [Bool.and_eq_true, decide_eq_true_eq]; lia)]
  have : (-1 + ((l.length + (0 + 1) : Nat) : Int)).toNat = l.length := by lia
  rw [Option.bind_some, this]
  simp

theorem keqv_sp {g : Gd} {f : Addr} {cdv : Value} (hex : g.ex = true) (F : Fd g "parse_keqv_list" 8 f cdv) {kvs : List Kv} (hl : kvs.length ≤ 100) (hnd : (kvs.map (·.1)).Nodup) (hk : ∀ p ∈ kvs, 61 ∉ p.1 ∧ (elt1 p).length ≤ 1000 ∧ ∀ n ∈ elt1 p, n < 256) :
    SpP g f 1 (fun W s v => Rd W s v (.list (kvs.map fun p => pS (elt1 p)))) (kPost g kvs) := by
  refine enter1P F (p := "l") (fun _ _ _ _ _ => rfl) rfl (by decide) rfl rfl rfl fun A W s₀ s L rm i E => ?_
  generalize henv : envX "parse_keqv_list" (fScope 8) L f cdv [] = env at *
  have pe : Pe env := henv ▸ ⟨rfl, rfl⟩
  have en : En env := henv ▸ ⟨rfl, rfl, rfl⟩
  have hL : env.locals = L := henv ▸ rfl
  have kP : env.kindOf "parsed" = some .local := henv ▸ rfl
  have kE : env.kindOf "elt" = some .local := henv ▸ rfl
  have kK : env.kindOf "k" = some .local := henv ▸ rfl
  have kV : env.kindOf "v" = some .local := henv ▸ rfl
  have hin : interactive env = false := henv ▸ rfl
  have hcells : ∀ c ∈ env.cells, c.2 ≠ env.locals := by rw [pe.nc]; intro _ h; cases h
  have hcN : ∀ N : List Addr, ∀ c ∈ env.cells, c.2 ∈ N := by rw [pe.nc]; intro _ _ h; cases h
  have hnc : ∀ a : Addr, ∀ c ∈ env.cells, c.2 ≠ a := by rw [pe.nc]; intro _ _ h; cases h
  rw [← hL] at i
  refine next_cons (wpAny_Expr (Constant_str ⟨rfl, ?_⟩) hin rfl)
  have i := i.step (.toks (k := s.toks + 1))
  generalize ({ s with toks := s.toks + 1 } : Shared) = s at i
  refine next_cons (wpAny_Assign_Name (wpAny_Dict_empty ?_) rfl)
  generalize hD : s.heap.objs.size = D
  generalize hh1 : s.heap.push { cls := .type "dict", data := .dict #[] } = h1
  have ld : h1.DictOf (PySem.strKind g.prog g.w) D [] := by rw [← hh1, ← hD]; exact dict_new _
  have k1 : Kept ([env.locals] ++ W) s { s with heap := h1 } := by rw [← hh1]; exact .push'
  have d0 : s.heap.get? D = none := Heap.get?_none_of_le (Nat.le_of_eq hD)
  have i1 := i.grow k1 d0 (let ⟨o, _, _, e, _⟩ := ld; ⟨o, e⟩)
  have hDL : D ≠ env.locals := fun q => by
    obtain ⟨m, o, es, ep, e, _⟩ := i.ns
    rw [← q, d0] at e; cases e
  refine i1.store2 kP pe.fn hcells fun h2 hs2 hk2 hv2 i2 => ⟨rfl, ?_⟩
  have x2 : Od g env "parsed" D [] ([D, env.locals] ++ W) { s with heap := h2, toks := s.toks + 1 } := ⟨i1.wo.wd.mode.mpr hex, hv2, i1.neT (by simp), [], DictOf_at ld fun o e => hs2 _ _ hDL e, .nil⟩
  have hLD : env.locals ∉ [D] := by simpa using Ne.symm hDL
  have D0 : s₀.heap.get? D = none := i1.new D (by simp)
  have Dlo : (D == sysModules) = false := by
    obtain ⟨ps, e, _⟩ := i.wo.wd.tab
    have h1 := Heap.lt_size e
    rw [hD] at h1
    have : D ≠ sysModules := neN (by show @Ne Nat D 1; intro q; rw [q] at h1; exact absurd h1 (by decide))
    simpa using this
  generalize ({ s with heap := h2, toks := s.toks + 1 } : Shared) = s2 at i2 x2
  clear hk2 hv2 hs2 i1 k1 ld
  have i2 := i2.subs (ρ' := [("l", .list (kvs.map fun p => pS (elt1 p)))]) ⟨rfl, trivial⟩
  refine next_cons (in_for (Xs := fun k => Od g env "parsed" D (kvs.take k)) (ρs := fun k => [("l", .list (kvs.map fun p => pS (elt1 p)))]) (own := [D]) (names := ["parsed"]) (items := kvs.map fun p => pS (elt1 p)) (fun _ => Od.stb) rm.handled i2 x2 pe.fn hcells (hcN _) hLD (by simp) (by decide) kE (fun _ => rfl) ?_ ?_ ?_)
  · exact it_list rm.handled (ex_v pe.fn rfl)
  · intro I k d s₁ hI hd X E
    obtain ⟨p, hp, rfl⟩ : ∃ p, kvs[k]? = some p ∧ d = pS (elt1 p) := by
      rw [List.getElem?_map] at hd
      cases h : kvs[k]? with
      | none => rw [h] at hd; cases hd
      | some c => rw [h] at hd; cases hd; exact ⟨c, rfl, rfl⟩
    have hk' : k < kvs.length := (List.getElem?_eq_some_iff.mp hp).1
    obtain ⟨h61, hlen, h256⟩ := hk p (List.mem_of_getElem? hp)
    have htake : kvs.take (k + 1) = kvs.take k ++ [p] := by rw [List.take_add_one, hp]; rfl
    rw [htake]
    have hnew : p.1 ∉ (kvs.take k).map (·.1) := by
      intro hm
      have h2 : (kvs.map (·.1)).take (k + 1) = (kvs.take k).map (·.1) ++ [p.1] := by rw [← List.map_take, htake]; simp
      have h3 : ((kvs.take k).map (·.1) ++ [p.1]).Nodup := h2 ▸ hnd.sublist (List.take_sublist _ _)
      rw [List.nodup_append] at h3
      exact h3.2.2 _ hm _ (by simp) rfl
    have hdl : (kvs.take k).length ≤ 100 := by rw [List.length_take]; lia
    generalize kvs.take k = done at *
    obtain ⟨a, b⟩ := p
    dsimp only at h61 hlen h256 hnew
    have hb : a.length + b.length + 3 ≤ 1000 := by simpa [elt1, Nat.add_assoc] using hlen
    have hLN : env.locals ∈ [D, env.locals] := by simp
    refine sx_pair (d₁ := pS a) (d₂ := pS (34 :: b ++ [34])) Od.stb rm.handled X pe.fn hcells hLD hLN (by decide) kK (by decide) kV rfl rfl (ex_split1 (c := 61) (ex_v pe.fn rfl) (es_str (by decide)) (ex_int) h61 h256 (by rw [sizeLine_eq]; simp; lia) rfl rfl rfl) (fun _ _ _ _ r => by obtain ⟨t, rfl⟩ := r.str_inv; exact .str) ?_
    clear X
    intro s X
    refine sx_if Od.stb X (v := true) ((tt_and (a := true) (b := true) ((tt_cmp (ex_sign (x := sI (34 :: b ++ [34])) (c := 34) (ex_v pe.fn rfl) ex_int (by decide) ?_) (es_str (l := [34]) (by decide)) cs_eq).is (by simp)) (fun _ => (tt_cmp (ex_sign (x := sI (34 :: b ++ [34])) (c := 34) (ex_v pe.fn rfl) (ex_neg ex_int) (by decide) ?_) (es_str (l := [34]) (by decide)) cs_eq).is (by simp))).is rfl) ?_
    · exact sign_first 34 _
    · exact sign_last 34 (34 :: b)
    clear X
    intro s X
    rw [if_pos rfl]
    refine sx_set (d := pS b) Od.stb X pe.fn hcells hLD hLN (by decide) kV rfl (es_inner (ex_v pe.fn rfl) ex_int (ex_neg ex_int) (by rw [sizeLine_eq]; lia)) ?_
    clear X
    intro s X
    refine wpAny_execs_nil (sx_put X pe.fn (by simp) (by simp) hDL (hnc D) (by decide) (by rw [sizeLine_eq]; lia) hnew rfl (ex_v pe.fn rfl) (ex_v pe.fn rfl) ?_)
    clear X
    intro s X
    exact wpAny_execs_nil ⟨.inl rfl, X.subs ⟨rfl, trivial⟩⟩
  · intro s₅ i₅ x₅
    refine ⟨rfl, ?_⟩
    rw [List.length_map, List.take_length] at x₅
    obtain ⟨vs, hdt, hkv⟩ := x₅.dt
    exact wpAny_execs_cons (wpAny_Return_some (Has.name pe.fn x₅.nm (by decide) ⟨_, rfl, i₅.kept, D, vs, rfl, D0, hdt, hkv, Dlo⟩))
end Mine

/- Next -/
namespace Mine
open PySem PySem.W PySem.Calls PySem.Spec PyProof.Rows
set_option Elab.async false
set_option linter.unusedVariables false
set_option maxRecDepth 100000
set_option maxHeartbeats 1000000

/-- an exception of the class that was just made over H -/
def Made (H h' : Heap) (cls : Value) (e : Addr) : Prop := (∀ b o, H.get? b = some o → h'.get? b = some o) ∧ H.get? e = none ∧ ∃ oe vs t, h'.get? e = some oe ∧ oe.cls = cls ∧ oe.data = .fields vs ∧ vs[0]? = some (.ref t) ∧ vs[1]? = some .none
/-- the iterator over octets -/
def Bi (h : Heap) (I : Addr) (l : List Nat) (i : Nat) : Prop := ∃ t, KBw.IsBytesIter h I (octB l) t i
theorem Bi.fields {h : Heap} {I : Addr} {l : List Nat} {i : Nat} (x : Bi h I l i) : ∃ o vs, h.get? I = some o ∧ o.data = .fields vs := let ⟨_, o, e, _, d⟩ := x; ⟨o, _, e, d⟩

section
variable {prog : Program} {w : World} {A : Around} {E : Value → Shared → Prop} {s : Shared}

theorem octB_get {l : List Nat} {i : Nat} : (octB l)[i]? = (l[i]?).map UInt8.ofNat := by unfold octB; simp
theorem next_item {I : Addr} {l : List Nat} {i c : Nat} {Q : Value → Shared → Prop} (hit : Bi s.heap I l i) (hx : l[i]? = some c) (hc : c < 256)
    (hQ : ∀ h', Bi h' I l (i + 1) → Heap.SameBut I s.heap h' → Q (.int (c : Int) s.toks) { s with heap := h', toks := s.toks + 1 }) : wpAny (model prog w) A (call (.builtin "next") [.ref I]) Q E s := by
  obtain ⟨t, hit⟩ := hit
  obtain ⟨o, ho, hcl, hd⟩ := id hit
  have hx' : (octB l)[i]? = some (UInt8.ofNat c) := by rw [octB_get, hx]; rfl
  have hcc : (UInt8.ofNat c).toNat = c := by rw [UInt8.toNat_ofNat']; lia
  refine call_function_entry (by decide +kernel) (by decide +kernel) kdk_entry_next (kdk_args_next _) ?_
  unfold Builtin.«next»
  refine wpAny_bind (m := someArgs "next" 1 2 _) (wpAny_of_eq (a := [Value.ref I]) (by first | rfl | kernel_rfl!) ?_)
  refine wpAny_bind (wpAny_specialOf (KBw.iter_typeIs hit) KBw.slot_next.lookup ?_)
  simp only [Option.isNone_some, Bool.false_eq_true, if_false]
  refine wpAny_bind (wpAny_callSpecial?_slot (name := PySem.Str.ofString "__next__") (KBw.iter_typeIs hit) KBw.slot_next
    (wpAny_call_entry KBw.slot_next (KBw.iter_typeIs hit) KBw.entry_next ?_ (KBw.args_next _)))
  show wpAny _ _ (field (.ref I) 0 >>= _) _ _ s
  refine wpAny_bind (wpAny_field ho hd (x := .bytes (octB l) t) rfl ?_)
  show wpAny _ _ (if (Value.bytes (octB l) t == Value.none) = true then _ else _) _ _ s
  rw [if_neg (show ¬ ((Value.bytes (octB l) t == Value.none) = true) from Bool.false_ne_true)]
  show wpAny _ _ (field (.ref I) 1 >>= _) _ _ s
  refine wpAny_bind (wpAny_field ho hd (x := .int i 0) rfl ?_)
  refine wpAny_bind (wpAny_of_eq (a := octB l) rfl ?_)
  simp only [Int.toNat_natCast, hx']
  refine wpAny_bind (wpAny_setField ho hd (by simp) (wpAny_bind (wpAny_mkInt (wpAny_pure ⟨_, rfl, wpAny_pure ⟨_, rfl, ?_⟩⟩))))
  rw [hcc]
  refine hQ _ ⟨t, _, Heap.get?_update_self _ ho (Obj.isFreed_of_fields (Obj.data_mapFields hd _)), (Obj.cls_mapFields ..).trans hcl, ?_⟩ (Heap.SameBut.update ..)
  rw [Obj.data_mapFields hd]; simp [rawInt]

theorem next_stop {I : Addr} {l : List Nat} {i : Nat} {Q : Value → Shared → Prop} (hh : A.handled = none) (hit : Bi s.heap I l i) (hx : l[i]? = none)
    (hE : ∀ H h' e, Heap.SameBut I s.heap H → (∃ o vs, H.get? I = some o ∧ o.data = .fields vs) → Made H h' (.type "StopIteration") e → E (.ref e) { s with heap := h' }) : wpAny (model prog w) A (call (.builtin "next") [.ref I]) Q E s := by
  obtain ⟨t, hit⟩ := hit
  obtain ⟨o, ho, hcl, hd⟩ := id hit
  have hx' : (octB l)[i]? = none := by rw [octB_get, hx]; rfl
  refine call_function_entry (by decide +kernel) (by decide +kernel) kdk_entry_next (kdk_args_next _) ?_
  unfold Builtin.«next»
  refine wpAny_bind (m := someArgs "next" 1 2 _) (wpAny_of_eq (a := [Value.ref I]) (by first | rfl | kernel_rfl!) ?_)
  refine wpAny_bind (wpAny_specialOf (KBw.iter_typeIs hit) KBw.slot_next.lookup ?_)
  simp only [Option.isNone_some, Bool.false_eq_true, if_false]
  refine wpAny_bind (wpAny_callSpecial?_slot (name := PySem.Str.ofString "__next__") (KBw.iter_typeIs hit) KBw.slot_next
    (wpAny_call_entry KBw.slot_next (KBw.iter_typeIs hit) KBw.entry_next ?_ (KBw.args_next _)))
  show wpAny _ _ (field (.ref I) 0 >>= _) _ _ s
  refine wpAny_bind (wpAny_field ho hd (x := .bytes (octB l) t) rfl ?_)
  show wpAny _ _ (if (Value.bytes (octB l) t == Value.none) = true then _ else _) _ _ s
  rw [if_neg (show ¬ ((Value.bytes (octB l) t == Value.none) = true) from Bool.false_ne_true)]
  show wpAny _ _ (field (.ref I) 1 >>= _) _ _ s
  refine wpAny_bind (wpAny_field ho hd (x := .int i 0) rfl ?_)
  refine wpAny_bind (wpAny_of_eq (a := octB l) rfl ?_)
  simp only [Int.toNat_natCast, hx']
  refine wpAny_bind (wpAny_rule (wpAny_bind (wpAny_setField ho hd (by simp) ?_)))
  show wpAny _ _ (newExc (.type "StopIteration") [] >>= _) _ _ _
  refine wpAny_bind ?_
  simp only [newExc, newTuple]
  refine wpAny_bind (wpAny_newObj_type ?_ (by size_fits))
  refine wpAny_bind (m := firstArgMember _ _) (wpAny_of_eq (a := Value.none) (by first | rfl | (simp only [firstArgMember]; rfl)) ?_)
  refine wpAny_newObj_type ?_ (by size_fits)
  simp only [raiseNew]
  refine wpAny_bind (wpAny_handled ?_)
  first | rw [show A.in1.handled = none from hh] | rw [hh] | skip
  refine wpAny_bind (wpAny_pure (wpAny_throw ?_))
  refine hE _ _ _ (Heap.SameBut.update ..) ⟨_, _, Heap.get?_update_self _ ho (Obj.isFreed_of_fields (Obj.data_mapFields hd _)), Obj.data_mapFields hd _⟩ ⟨fun b o e => Heap.get?_push_of_some _ (Heap.get?_push_of_some _ e), Heap.get?_none_of_le ?_, _, _, _, Heap.get?_push_size _ rfl, rfl, rfl, rfl, rfl⟩
  rw [Heap.size_push]
  exact Nat.le_succ _
end
end Mine

/- Exc -/
namespace Mine
open PySem PySem.W PySem.Calls PySem.Spec PyProof.Rows
set_option Elab.async false
set_option linter.unusedVariables false
set_option maxRecDepth 100000
set_option maxHeartbeats 1000000

abbrev stopT : Value := .type "StopIteration"
abbrev frs (l : List Env) : List Addr := l.filterMap (·.frame)

/-- the frames, as seen from a state -/
structure Fx (l : List Env) (M : List Addr) (sH s : Shared) : Prop where
  ne : ∀ L ∈ frs l, L ≠ tT
  at_ : ∀ L ∈ frs l, ∃ o es ep, s.heap.get? L = some o ∧ o.data = .dict es ep
  mem : ∀ L ∈ frs l, (∃ o, sH.heap.get? L = some o) → L ∈ M
/-- s: what became of sH; B: what must not change any more -/
structure Xc (l : List Env) (M : List Addr) (sH : Shared) (B : Heap) (s : Shared) : Prop where
  kept : Kept M sH s
  cov : ∀ b o, (∃ o', sH.heap.get? b = some o') → b ∉ frs l → s.heap.get? b = some o → B.get? b = some o
  fx : Fx l M sH s
  tab : TabOk sH.heap
/-- how far the exception is -/
inductive Xk (env : Env) (outer : List Env) (B : Heap) (e : Addr) (a0 : Value) (h : Heap) : Prop
  | new (h1 : B.StaysIn h) (h2 : B.get? e = none) (h3 : h.FunFrames B (env :: outer)) {oe : Obj} {vs : Array Value} (h4 : h.get? e = some oe) (h5 : oe.cls = stopT) (h6 : oe.data = .fields vs) (h7 : vs[0]? = some a0) (h8 : vs[1]? = some .none) : Xk env outer B e a0 h
  | fly (h1 : Heap.FlyingW B (env :: outer) e stopT a0 h) : Xk env outer B e a0 h
  | held {L : Addr} (hf : env.frame = some L) (h1 : Heap.HeldW B (env :: outer) e stopT a0 L h) : Xk env outer B e a0 h

/-- an exception in env's block -/
def Xa (env : Env) (outer : List Env) (M : List Addr) (sH : Shared) (v : Value) (s : Shared) : Prop := ∃ e B a0, v = .ref e ∧ Xc (env :: outer) M sH B s ∧ Xk env outer B e a0 s.heap
/-- one that has left a block, for outer's first -/
def Gone (outer : List Env) (M : List Addr) (sH : Shared) (v : Value) (s : Shared) : Prop := ∃ e B a0, v = .ref e ∧ Xc outer M sH B s ∧ Heap.FlyingW B outer e stopT a0 s.heap

theorem kept_up {l : List Env} {M : List Addr} {sH s : Shared} {B h' : Heap} {k : Nat} (x : Xc l M sH B s) (st : B.StaysIn h') (up : s.heap.UpToSlots h') (nm : ¬ Mk M) : Kept M sH { s with heap := h', toks := k } := by
  obtain ⟨⟨h1, t1, rfl⟩, a1, b1, c1⟩ := x.kept
  refine ⟨⟨h', k, rfl⟩, fun b o hb e => ?_, fun b o hb hT e => ?_, fun ⟨ps, e, r⟩ => ?_⟩
  · have e1 := a1 b o hb e
    by_cases hf : b ∈ frs l
    · exact absurd (x.fx.mem b hf ⟨o, e⟩) hb
    · exact st _ _ (x.cov b o ⟨o, e⟩ hf e1)
  · obtain ⟨sl, e1, q1⟩ := b1 b o hb hT e
    by_cases hf : b ∈ frs l
    · obtain ⟨o2, es, ep, e2, ed⟩ := x.fx.at_ b hf
      rw [e1] at e2; cases e2
      obtain ⟨sl2, e3⟩ := up b _ e1 fun vs q => by rw [ed] at q; cases q
      refine ⟨sl2, e3, fun h => ?_⟩
      rcases h with h | h
      · exact absurd ed (h es ep)
      · exact absurd h nm
    · exact ⟨sl, st _ _ (x.cov b _ ⟨o, e⟩ hf e1), q1⟩
  · obtain ⟨ps', e', r'⟩ := c1 ⟨ps, e, r⟩
    exact ⟨ps', st _ _ (x.cov _ _ ⟨_, e⟩ (fun hf => x.fx.ne _ hf rfl) e'), r'⟩

theorem Xc.up {l : List Env} {M : List Addr} {sH s : Shared} {B h' : Heap} {k : Nat} (x : Xc l M sH B s) (st : B.StaysIn h') (up : s.heap.UpToSlots h') (nm : ¬ Mk M) : Xc l M sH B { s with heap := h', toks := k } := by
  refine ⟨kept_up x st up nm, fun b o hb hf e => ?_, ⟨x.fx.ne, fun L hL => ?_, x.fx.mem⟩, x.tab⟩
  · obtain ⟨o', e'⟩ := hb
    have : ∃ o1, s.heap.get? b = some o1 := by
      by_cases hT : b = tT
      · obtain ⟨ps, e1, _⟩ := x.kept.tab x.tab
        exact ⟨_, hT ▸ e1⟩
      · by_cases hM : b ∈ M
        · obtain ⟨sl, e1, _⟩ := x.kept.slots b o' hM hT e'; exact ⟨_, e1⟩
        · exact ⟨_, x.kept.keep b o' hM e'⟩
    obtain ⟨o1, e1⟩ := this
    have e2 := st _ _ (x.cov b o1 ⟨o', e'⟩ hf e1)
    have hoo : o1 = o := Option.some.inj (e2.symm.trans e)
    subst hoo
    exact x.cov b o1 ⟨o', e'⟩ hf e1
  · obtain ⟨o, es, ep, e, ed⟩ := x.fx.at_ L hL
    obtain ⟨sl, e2⟩ := up L o e fun vs q => by rw [ed] at q; cases q
    exact ⟨_, es, ep, e2, ed⟩

section
variable {M : Model} {A : Around} {E : Value → Shared → Prop} {s : Shared} {env : Env} {outer : List Env} {H : List Addr} {sH : Shared}

theorem setFlight_held {base : Heap} {l : List Env} {e L : Addr} {cls a0 fl : Value} {Q : Unit → Shared → Prop} (hkb : base.StaysIn s.heap) (hen : base.get? e = none) (hl : s.heap.FunFrames base l) (ht : s.heap.TracedAtW base e cls a0 fl)
    (h : ∀ h', Heap.HeldW base l e cls a0 L h' → s.heap.UpToSlots h' → Q () { s with heap := h' }) : wpAny M A (setFlight (.ref e) (some L)) Q E s := by
  obtain ⟨oe, vs, T, oT, ts, he, hcls, hd, h1, hnT, hTe, hT, hdT, h3⟩ := ht
  have hsz3 : 3 < ts.size := (Array.getElem?_eq_some_iff.mp h3).1
  have other : ∀ b, b ≠ T → (s.heap.update T (Obj.mapFields (·.setIfInBounds 3 ((some L).elim Value.none fun f => rawInt f)))).get? b = s.heap.get? b :=
    fun b hb => Heap.get?_update_other _ _ (Ne.symm hb)
  have noRecord : ∀ b o, s.heap.get? b = some o → (∀ vs, o.data ≠ .fields vs) → b ≠ T := fun b o hb hnf q => by
    rw [q, hT] at hb; injection hb with hb; subst hb; exact hnf ts hdT
  unfold setFlight
  refine wpAny_bind (wpAny_field he hd h1 ?_)
  rw [if_pos (show (Value.ref T != Value.none) = true from by simp)]
  refine wpAny_setField hT hdT hsz3 (h _ ⟨fun b o hbo => (other b fun q => by rw [q, hnT] at hbo; cases hbo).trans (hkb b o hbo), hen,
    hl.of_keeps fun b o hb hnf => ⟨o, (other b (noRecord b o hb hnf)).trans hb, rfl⟩, ?_⟩ fun b o hb hnf => ⟨o.slots, (other b (noRecord b o hb hnf)).trans hb⟩)
  exact ⟨oe, vs, T, _, _, (other e (Ne.symm hTe)).trans he, hcls, hd, h1, hnT, hTe, Heap.get?_update_self _ hT (Obj.isFreed_of_fields (Obj.data_mapFields hdT _)), Obj.data_mapFields hdT _, by simp [hsz3]⟩

theorem noteFrame_new {base : Heap} {L e : Addr} {oe : Obj} {vs : Array Value} {a0 : Value} {Q : Unit → Shared → Prop} (hfr : A.frames = some (env :: outer)) (hl : s.heap.FunFrames base (env :: outer)) (hf : env.frame = some L)
    (he : s.heap.get? e = some oe) (hkb : base.StaysIn s.heap) (hen : base.get? e = none) (hd : oe.data = .fields vs) (h0 : vs[0]? = some a0) (h1 : vs[1]? = some .none)
    (h : ∀ h', Heap.HeldW base (env :: outer) e oe.cls a0 L h' → s.heap.UpToSlots h' → Q () { s with heap := h' }) : wpAny M A (noteFrame (.ref e) env) Q E s := by
  unfold noteFrame
  simp only [hf]
  refine wpAny_bind (wpAny_field he hd h1 ?_)
  rw [if_neg (by decide)]
  exact wpAny_entryW hfr hl hf he hkb hen hd (Array.getElem?_eq_some_iff.mp h1).1 h0 fun h' ⟨k1, k2, k3, k4⟩ => h h' ⟨k1, hen, k2, k3⟩ k4

/-- looking at the frame -/
theorem xa_note {v : Value} (hfr : A.frames = some (env :: outer)) (nm : ¬ Mk H) (x : Xa env outer H sH v s) {Q : Unit → Shared → Prop}
    (h : ∀ s' e B a0 L, v = .ref e → env.frame = some L → Xc (env :: outer) H sH B s' → Heap.HeldW B (env :: outer) e stopT a0 L s'.heap → Q () s') : wpAny M A (noteFrame v env) Q E s := by
  obtain ⟨e, B, a0, rfl, c, k⟩ := x
  cases k with
  | new h1 h2 h3 h4 h5 h6 h7 h8 =>
    obtain ⟨_, ⟨L, _, hf, _⟩, _⟩ := id h3
    exact noteFrame_new hfr h3 hf h4 h1 h2 h6 h7 h8 fun h' hh up => h _ e B a0 L rfl hf (c.up hh.1 up nm) (h5 ▸ hh)
  | fly h1 =>
    obtain ⟨_, ⟨L, _, hf, _⟩, _⟩ := id h1.2.2.1
    exact wpAny_looks_onW hfr hf h1 fun h' hh up => h _ e B a0 L rfl hf (c.up hh.1 up nm) hh
  | held hf h1 => exact wpAny_noteFrame_againW hf h1.2.2.2 (h _ e B a0 _ rfl hf c h1)

/-- through a loop of the block's own -/
theorem xa_passes {v : Value} (hfr : A.frames = some (env :: outer)) (nm : ¬ Mk H) (x : Xa env outer H sH v s) : notedBy M A env (cameBackBy M A env (Xa env outer H sH)) v s := by
  refine xa_note hfr nm x fun s' e B a0 L hv hf c hh => ?_
  subst hv
  obtain ⟨f1, f2, f3, oe, vs, T, oT, ts, he, hcls, hd, h1, r⟩ := id hh
  show wpAny M A (do
    if (← field (.ref e) 1) == .none then unsupported "frame.own-activation:exception-without-traceback"
    setFlight (.ref e) env.frame) _ _ s'
  refine wpAny_bind (wpAny_field he hd h1 ?_)
  rw [if_neg (show ¬ ((Value.ref T == Value.none) = true) from by simp), hf]
  have fin : wpAny M A (setFlight (.ref e) (some L)) (fun _ s'' => Xa env outer H sH (.ref e) s'') (Xa env outer H sH) s' :=
    setFlight_held f1 f2 f3 hh.2.2.2 fun h' hh' up => ⟨e, B, a0, rfl, c.up hh'.1 up nm, .held hf hh'⟩
  exact fin

/-- out of the block -/
theorem xa_leave {v : Value} (hfr : A.frames = some (env :: outer)) (nm : ¬ Mk H) (x : Xa env outer H sH v s) (hown : ∀ L, env.frame = some L → sH.heap.get? L = none) {Q : Unit → Shared → Prop}
    (h : ∀ s', Gone outer H sH v s' → Q () s') : wpAny M A (leaving env v) Q E s := by
  unfold leaving
  refine wpAny_bind (xa_note hfr nm x fun s' e B a0 L hv hf c hh => ?_)
  subst hv
  refine wpAny_landsW hh fun h' hfl up => h _ ⟨e, B, a0, rfl, ?_, ⟨hfl.1, hfl.2.1, hfl.2.2.1.2.2, hfl.2.2.2⟩⟩
  have c' := c.up (k := s'.toks) hfl.1 up nm
  have sub : ∀ b, b ∈ frs outer → b ∈ frs (env :: outer) := fun b hb => by
    unfold frs; rw [List.filterMap_cons, hf]; exact List.mem_cons_of_mem _ hb
  refine ⟨c'.kept, fun b o hb hnf e => c'.cov b o hb (fun hm => ?_) e, ⟨fun L hL => c'.fx.ne L (sub L hL), fun L hL => c'.fx.at_ L (sub L hL), fun L hL => c'.fx.mem L (sub L hL)⟩, c'.tab⟩
  unfold frs at hm
  rw [List.filterMap_cons, hf] at hm
  rcases List.mem_cons.mp hm with rfl | hm
  · obtain ⟨o', e'⟩ := hb
    rw [hown _ hf] at e'; cases e'
  · exact hnf hm
end
end Mine

/- Vint -/
namespace Mine
open PySem PySem.W PySem.Calls PySem.Spec PyProof.Rows
set_option Elab.async false
set_option linter.unusedVariables false
set_option maxRecDepth 100000
set_option maxHeartbeats 1000000

def vgo (b val : Nat) : List Nat → Option (Nat × List Nat)
  | [] => if b < 64 then some (val, []) else none
  | c :: r => if b < 64 then some (val, c :: r) else vgo c (64 * val + c % 64) r
def vint : List Nat → Option (Nat × List Nat)
  | [] => none
  | b :: r => vgo b (b % 64) r

theorem and63 (b : Nat) : Builtin.bitAnd (b : Int) 63 = ((b % 64 : Nat) : Int) := by rw [bitAnd_m6]; rfl
theorem and64 {b : Nat} (h : b < 128) : Builtin.bitAnd (b : Int) 64 = ((if b < 64 then 0 else 64 : Nat) : Int) := by
  have := kbt_bit (b : Int) 6
  rw [show ((2 : Int) ^ 6) = 64 from rfl] at this
  rw [this]
  split <;> lia
theorem or_low {v c : Nat} (h : c < 64) : Builtin.bitOr ((v * 64 : Nat) : Int) (c : Int) = ((64 * v + c : Nat) : Int) := by
  have e : ∀ n : Nat, Builtin.bitNot (Builtin.bitNot (n : Int)) = n := fun n => by unfold Builtin.bitNot; lia
  have neg : ∀ n : Nat, ¬ (0 ≤ Builtin.bitNot (n : Int)) := fun n => by unfold Builtin.bitNot; lia
  unfold Builtin.bitOr
  rw [bitAnd_nn (neg _) (neg _), e, e, e]
  rw [Int.toNat_natCast, Int.toNat_natCast]
  have := Nat.shiftLeft_add_eq_or_of_lt (i := 6) (b := c) h v
  rw [Nat.shiftLeft_eq] at this
  rw [show v * 64 = v * 2 ^ 6 from rfl, ← this]
  congr 1
  lia

section
variable {g : Gd} {A : Around} {env : Env} {ρ ρ' : Rho} {pos : Pos} {N W : List Addr} {s₀ s : Shared}

/-- one of the hidden elder turns: the call's first state turns with it -/
theorem In.rebase {I : Addr} {o o' : Obj} {vs vs' : Array Value} {h' : Heap} {k : Nat} (i : In g A env ρ N W s₀ s) (hI : I ∈ W) (hT : I ≠ tT) (e : s.heap.get? I = some o) (ed : o.data = .fields vs) (hs : Heap.SameBut I s.heap h') (e' : h'.get? I = some o') (ed' : o'.data = .fields vs') (hc : ∀ c ∈ env.cells, c.2 ≠ I) :
    ∃ H, Heap.SameBut I s₀.heap H ∧ H.get? I = some o' ∧ In g A env ρ N W { s₀ with heap := H } { s with heap := h', toks := k } := by
  obtain ⟨oI, eI⟩ := i.w0.live I hI
  have hIm : I ∈ N ++ W := List.mem_append_right _ hI
  have hL : env.locals ≠ I := fun q => by
    obtain ⟨m, o2, es, ep, e2, ed2, _⟩ := i.ns
    rw [q, e] at e2; cases e2; rw [ed] at ed2; cases ed2
  have hs' := hs.extBut
  refine ⟨s₀.heap.update I fun _ => o', Heap.SameBut.update .., Heap.get?_update_self _ eI (Obj.isFreed_of_fields ed'), ?_⟩
  have other : ∀ b, b ≠ I → (s₀.heap.update I fun _ => o').get? b = s₀.heap.get? b := fun b hb => Heap.get?_update_other _ _ (Ne.symm hb)
  have self : (s₀.heap.update I fun _ => o').get? I = some o' := Heap.get?_update_self _ eI (Obj.isFreed_of_fields ed')
  refine ⟨⟨?_, fun b ob hb eb => ?_, fun b ob hb hbT eb => ?_, fun ⟨ps, ep, r⟩ => ?_⟩, fun a ha => ?_, ⟨i.wo.wd.turn hs' hIm hT ⟨_, e'⟩, i.wo.fs.turn hs' (fun o2 es ep e2 ed2 => ?_), fun p hp => ?_⟩, ?_, i.loc, ⟨i.w0.tW, ?_, fun a ha => ?_⟩⟩
  · obtain ⟨h1, t1, q⟩ := i.kept.same
    exact ⟨h', k, by rw [q]⟩
  · have hbI : b ≠ I := fun q => hb (q ▸ hI)
    rw [other b hbI] at eb
    exact hs' b ob hbI (i.kept.keep b ob hb eb)
  · by_cases hbI : b = I
    · subst hbI
      rw [self] at eb; cases eb
      exact ⟨o'.slots, e', fun _ => rfl⟩
    · rw [other b hbI] at eb
      obtain ⟨sl, e1, q1⟩ := i.kept.slots b ob hb hbT eb
      exact ⟨sl, hs' _ _ hbI e1, q1⟩
  · rw [other tT (Ne.symm hT)] at ep
    obtain ⟨ps', e1, r1⟩ := i.kept.tab ⟨ps, ep, r⟩
    exact ⟨ps', hs' _ _ (Ne.symm hT) e1, r1⟩
  · have haI : a ≠ I := fun q => by have := i.new a ha; rw [q, eI] at this; cases this
    exact (other a haI).trans (i.new a ha)
  · rw [e] at e2; cases e2; rw [ed] at ed2; cases ed2
  · obtain ⟨v, y, r⟩ := i.wo.vs p hp
    exact ⟨v, y.turn hs' hL (fun c h => hc _ (mem_of_lookup h)), r.own hs' hIm⟩
  · obtain ⟨m, hn⟩ := i.ns
    exact ⟨m, hn.extBut hs' hL⟩
  · obtain ⟨ps, ep, r⟩ := i.w0.tab
    exact ⟨ps, (other tT (Ne.symm hT)).trans ep, r⟩
  · by_cases haI : a = I
    · exact ⟨o', haI ▸ self⟩
    · obtain ⟨o2, e2⟩ := i.w0.live a ha
      exact ⟨o2, (other a haI).trans e2⟩

/-- in _parse_varint -/
structure Vi (g : Gd) (A : Around) (env : Env) (W : List Addr) (s₀ : Shared) (I : Addr) (l : List Nat) (ρ : Rho) (j : Nat) (H : Heap) (s : Shared) : Prop where
  i : In g A env ρ [env.locals] W { s₀ with heap := H } s
  nm : Has env s.heap "iterator" (.ref I)
  same : Heap.SameBut I s₀.heap H
  bi : Bi s.heap I l j
theorem Vi.kept {s' : Shared} {I : Addr} {l : List Nat} {j : Nat} {H : Heap} (hT : I ≠ tT) (x : Vi g A env W s₀ I l ρ j H s) (k : Kept ([env.locals] ++ W) s s') : Vi g A env W s₀ I l ρ j H s' :=
  ⟨x.i.step k, x.nm.kept k, x.same, let ⟨t, o, e, r, d⟩ := x.bi; ⟨t, o, k.exact hT e (fun es ep q => by rw [d] at q; cases q), r, d⟩⟩

theorem vi_store {I : Addr} {l : List Nat} {j : Nat} {H : Heap} {x : Str} {v : Value} {d : PyData} (pe : Pe env) (c : Vi g A env W s₀ I l ρ j H s) (hx : env.kindOf x = some .local) (hne : ("iterator" : Str) ≠ x) (r : Rd ([env.locals] ++ W) s v d)
    {M : Model} {E : Value → Shared → Prop} {Q : Unit → Shared → Prop} (h : ∀ s', Vi g A env W s₀ I l (upd x d ρ) j H s' → Q () s') : wpAny M A (storeName env x v) Q E s := by
  refine c.i.store2 hx pe.fn (by rw [pe.nc]; intro _ h; cases h) fun h' hs hk hv i' => h _ ⟨i'.know hv (r.own (k := s.toks + 1) hs (by simp)), hk _ _ hne c.nm, c.same, ?_⟩
  obtain ⟨t, o, e, hc, hd⟩ := c.bi
  exact ⟨t, o, hs _ _ (fun q => by
    obtain ⟨m, o2, es, ep, e2, ed2, _⟩ := c.i.ns
    rw [← q, e] at e2; cases e2; rw [hd] at ed2; cases ed2) e, hc, hd⟩

/-- next(iterator) -/
theorem vi_next {I : Addr} {l : List Nat} {j : Nat} {H : Heap} (en : En env) (pe : Pe env) (hI : I ∈ W) (hT : I ≠ tT) (hh : A.handled = none) (bN : Bn g "next" (.builtin "next")) (h128 : ∀ n ∈ l, n < 128) (c : Vi g A env W s₀ I l ρ j H s) (hk : env.kindOf "next" = some .globalImplicit) {np ip : Pos}
    {E : Value → Shared → Prop} {Q : Value → Shared → Prop} (h : ∀ b H' s' t, l[j]? = some b → Vi g A env W s₀ I l ρ (j + 1) H' s' → Q (.int (b : Nat) t) s')
    (hE : ∀ H' h' s₁ e, l[j]? = none → Heap.SameBut I s₀.heap H' → (∃ o vs, H'.get? I = some o ∧ o.data = .fields vs) → In g A env ρ [env.locals] W { s₀ with heap := H' } s₁ → Made s₁.heap h' stopT e → E (.ref e) { s₁ with heap := h' }) :
    wpAny g.M A (eval (.Call (.Name "next" np) [.Name "iterator" ip] [] pos) env) Q E s := by
  refine Call_Name1 (name_blt c.i.wo.wd en bN hk (callWith_builtin rfl (evalArgs_plain (spliced_cons (Has.name pe.fn c.nm (by decide) (spliced_nil ?_)))))) rfl
  obtain ⟨o, vs, e, ed⟩ := c.bi.fields
  have hc : ∀ c ∈ env.cells, c.2 ≠ I := by rw [pe.nc]; intro _ h; cases h
  have hL : env.locals ≠ I := fun q => by
    obtain ⟨m, o2, es, ep, e2, ed2, _⟩ := c.i.ns
    rw [q, e] at e2; cases e2; rw [ed] at ed2; cases ed2
  cases hx : l[j]? with
  | some b =>
    refine next_item c.bi hx (by have := h128 b (List.mem_of_getElem? hx); lia) fun h' bi' hs' => ?_
    obtain ⟨o', vs', e', ed'⟩ := bi'.fields
    obtain ⟨H', sm, _, i'⟩ := c.i.rebase (k := s.toks + 1) hI hT e ed hs' e' ed' hc
    exact h b H' _ _ hx ⟨i', c.nm.turn hs'.extBut hL (fun c h => hc _ (mem_of_lookup h)), c.same.trans sm, bi'⟩
  | none =>
    refine next_stop hh c.bi hx fun h₁ h' e₁ hs' ⟨o', vs', e', ed'⟩ md => ?_
    obtain ⟨H', sm, eH, i'⟩ := c.i.rebase (k := s.toks) hI hT e ed hs' e' ed' hc
    exact hE H' h' { s with heap := h₁ } e₁ hx (c.same.trans sm) ⟨o', vs', eH, ed'⟩ i' md

theorem Fs.frames {M : List Addr} {s : Shared} {l : List Env} {B : Heap} (f : Fs A M s) (hl : A.frames = some l) (hB : ∀ L ∈ frs l, B.get? L = none) : s.heap.FunFrames B l := by
  obtain ⟨envs, e, h⟩ := f
  rw [hl] at e; cases e
  clear hl
  induction l with
  | nil => trivial
  | cons env r ih =>
    obtain ⟨h1, L, o, es, ep, h2, h3, hT, h4, h5⟩ := h env (.head _)
    refine ⟨h1, ⟨L, o, h2, hB L (by unfold frs; rw [List.filterMap_cons, h2]; exact .head _), h4, fun vs q => by rw [h5] at q; cases q⟩, ih (fun L' hL' => hB L' (by unfold frs; rw [List.filterMap_cons, h2]; exact .tail _ hL')) fun env he => h env (.tail _ he)⟩
theorem Fs.mem {M : List Addr} {s : Shared} {l : List Env} (f : Fs A M s) (hl : A.frames = some l) {L : Addr} (hL : L ∈ frs l) : L ∈ M ∧ L ≠ tT ∧ ∃ o es ep, s.heap.get? L = some o ∧ o.data = .dict es ep := by
  obtain ⟨envs, e, h⟩ := f
  rw [hl] at e; cases e
  obtain ⟨env, he, hf⟩ := List.mem_filterMap.mp hL
  obtain ⟨h1, L', o, es, ep, h2, h3, hT, h4, h5⟩ := h env he
  rw [h2] at hf; cases hf
  exact ⟨h3, hT, o, es, ep, h4, h5⟩
theorem Kept.forth {W : List Addr} {s s' : Shared} (k : Kept W s s') (hT : TabOk s.heap) {b : Addr} {o : Obj} (e : s.heap.get? b = some o) : ∃ o', s'.heap.get? b = some o' := by
  by_cases h1 : b = tT
  · obtain ⟨ps, e1, _⟩ := k.tab hT
    exact ⟨_, h1 ▸ e1⟩
  · by_cases hM : b ∈ W
    · obtain ⟨sl, e1, _⟩ := k.slots b o hM h1 e; exact ⟨_, e1⟩
    · exact ⟨_, k.keep b o hM e⟩

theorem xa_new {outer : List Env} {sH : Shared} {h' : Heap} {e : Addr} (i : In g A env ρ N W sH s) (hfr : A.frames = some (env :: outer)) (md : Made s.heap h' stopT e) : Xa env outer W sH (.ref e) { s with heap := h' } := by
  obtain ⟨keep, en, oe, vs, t, he, hc, hd, h0, h1⟩ := md
  have kp : Kept W s { s with heap := h' } := .heap keep
  have hB : ∀ L ∈ frs (env :: outer), (hideAll s.heap (frs (env :: outer))).get? L = none := fun L hL => hideAll_none _ hL
  refine ⟨e, hideAll s.heap (frs (env :: outer)), .ref t, rfl, ⟨i.kept.trans kp, fun b o hb hf eb => ?_, ⟨fun L hL => (i.wo.fs.mem hfr hL).2.1, fun L hL => ?_, fun L hL hx => ?_⟩, i.w0.tab⟩, .new (fun b o q => keep b o (of_hideAll _ q)) ?_ ?_ he hc hd h0 h1⟩
  · obtain ⟨o', e'⟩ := hb
    obtain ⟨o1, e1⟩ := i.kept.forth i.w0.tab e'
    have := keep _ _ e1
    have hoo : o1 = o := Option.some.inj (this.symm.trans eb)
    exact hideAll_get _ (hoo ▸ e1) hf
  · obtain ⟨_, _, o, es, ep, e1, e2⟩ := i.wo.fs.mem hfr hL
    exact ⟨o, es, ep, keep _ _ e1, e2⟩
  · obtain ⟨h1, _, _⟩ := i.wo.fs.mem hfr hL
    rcases List.mem_append.mp h1 with h | h
    · obtain ⟨o, e⟩ := hx
      rw [i.new L h] at e; cases e
    · exact h
  · cases q : (hideAll s.heap (frs (env :: outer))).get? e with
    | none => rfl
    | some o => rw [of_hideAll _ q] at en; cases en
  · have := i.wo.fs.frames hfr hB
    exact this.of_keeps fun b o e _ => ⟨o, keep _ _ e, rfl⟩
end
end Mine

/- Vint2 -/
namespace Mine
open PySem PySem.W PySem.Calls PySem.Spec PyProof.Rows
set_option Elab.async false
set_option linter.unusedVariables false
set_option maxRecDepth 100000
set_option maxHeartbeats 1000000

section
variable {g : Gd} {A : Around} {env : Env} {ρ ρ' : Rho} {pos : Pos} {N W : List Addr} {s₀ s : Shared}

/-- the entry of a def with one parameter, any value -/
theorem enter1R {x : Str} {f : Addr} {name : Str} {params : Arguments} {body : List Stmt} {scope : Scope} {cdv : Value} (F : Fn g x f name params body scope cdv) {p : Str} {k : Nat}
    (hb : ∀ doc pm an ct v, bindArgs (fnX name name params body scope [] .none .none doc pm an cdv ct) ⟨[v], []⟩ = pure [(p, v)]) (hp : scope.names.lookup p = some .local)
    (hcell : ∀ x ∈ scope.names, x.2 ≠ .cell) (hk : scope.kind = .function) (hco : scope.isCoroutine = false) (hgen : scope.isGenerator = false) {v : Value} (rm : Rm A (k + 1)) (w : Wd g W s) (fs : Fs A W s) {E : Value → Shared → Prop} {Q : Value → Shared → Prop}
    (h : ∀ s' L, Rm (A.deeper (envX name scope L f cdv [])) k → In g (A.deeper (envX name scope L f cdv [])) (envX name scope L f cdv []) [] [L] W s s' → Has (envX name scope L f cdv []) s'.heap p v → (∀ b o, s.heap.get? b = some o → s'.heap.get? b = some o) →
      wpAny g.M (A.deeper (envX name scope L f cdv [])) (execs body (envX name scope L f cdv [])) (fun fl s' => Q (match fl with | .ret v => v | _ => .none) s')
        (fun e s' => wpAny g.M (A.deeper (envX name scope L f cdv [])) (leaving (envX name scope L f cdv []) e) (fun _ s'' => E e s'') (fun e' s'' => E e' s'') s') s') : wpAny g.M A (call (.ref f) [v]) Q E s := by
  obtain ⟨oc, od, osl, doc, pm, an, ct, eo⟩ := F.ob
  refine wpAny_call (codeAny_call_def (fd := fnX name name params body scope [] .none .none doc pm an cdv ct) (body := body) (binds := [(p, v)]) (by have := rm.depth; lia) (w.k _ _ eo) rfl w.top.nolimit (codeRec_of w.k F.cd) rfl
    (BindsTo.of_eq (hb ..)) hcell (fun y hy => by obtain rfl : y = (p, v) := (by simpa using hy); exact hp) (fun h₀ hns hk₀ => ?_) hco hgen hk)
  have kp : Kept W s { s with heap := h₀, toks := s.toks + [(p, v)].length } := .keeps hk₀
  have hL : ∀ a ∈ [s.heap.objs.size], s.heap.get? a = none := fun a ha => by
    obtain rfl : a = s.heap.objs.size := (by simpa using ha)
    exact Heap.get?_none_of_le (Nat.le_refl _)
  have hLl : ∃ o es ep, h₀.get? s.heap.objs.size = some o ∧ o.data = .dict es ep := let ⟨o, es, ep, e, e2, _⟩ := hns; ⟨o, es, ep, e, e2⟩
  have hLT := w.ne_T (hL _ (.head _))
  refine h _ s.heap.objs.size (rm.deeper _) ⟨kp, hL, ⟨w.grow kp hL fun a ha => ?_, ?_, .nil⟩, ⟨_, hns⟩, .head _, w.w0⟩ (.loc _ hp hLT hns (by simp)) hk₀
  · obtain rfl : a = s.heap.objs.size := (by simpa using ha)
    obtain ⟨o, _, _, e, _⟩ := hLl
    exact ⟨o, e⟩
  · obtain ⟨envs, e, hh⟩ := fs.grow (N := [s.heap.objs.size]) kp
    refine ⟨_ :: envs, Around.frames_deeper e, fun env' he => ?_⟩
    cases he with
    | head =>
      obtain ⟨o, es, ep, e1, e2⟩ := hLl
      exact ⟨by show scope.kind ≠ .module; rw [hk]; decide, _, o, es, ep, rfl, .head _, hLT, e1, e2⟩
    | tail _ he => exact hh env' he

theorem noted_mono {M : Model} {v : Value} {E E' : Value → Shared → Prop} (h : ∀ v s, E v s → E' v s) (x : notedBy M A env (cameBackBy M A env E) v s) : notedBy M A env (cameBackBy M A env E') v s :=
  wpAny_mono x (fun _ s' q => wpAny_mono q (fun _ _ r => h _ _ r) (fun _ _ r => h _ _ r)) fun _ s' q => wpAny_mono q (fun _ _ r => h _ _ r) (fun _ _ r => h _ _ r)

/-- a while whose body may raise -/
theorem wh_loopE {σ : Type} {test : Expr} {body : List Stmt} (J : σ → Shared → Prop) (c : σ → Bool) (μ : σ → Nat) {E : Value → Shared → Prop}
    (ht : ∀ a s (E : Value → Shared → Prop) (Q : Bool → Shared → Prop), J a s → (∀ s', J a s' → Q (c a) s') → wpAny g.M A (isTrue test env (eval test env)) Q E s)
    (hb : ∀ a s, J a s → c a = true → wpAny g.M A (execs body env) (fun fl s' => fl = .next ∧ ∃ a', μ a' < μ a ∧ J a' s') (notedBy g.M A env (cameBackBy g.M A env E)) s)
    {a₀ : σ} {s : Shared} (h0 : J a₀ s) {Q : Flow → Shared → Prop} (h : ∀ a s', J a s' → c a = false → Q .next s') : wpAny g.M A (exec (.While test body [] pos) env) Q E s := by
  refine wpAny_While (codeAny_whileLoop (fun n s => ∃ a, μ a = n ∧ J a s) ?_ (μ a₀) ⟨a₀, rfl, h0⟩)
  rintro n s ⟨a, rfl, hJ⟩
  refine ht a s _ _ hJ fun s' hJ' => ?_
  cases hc : c a with
  | false =>
    rw [if_neg (by simp)]
    exact wpAny_execs_nil (h a s' hJ' hc)
  | true =>
    rw [if_pos rfl]
    refine wpAny_mono (hb a s' hJ' hc) (fun fl s₂ h₂ => ?_) fun _ _ x => x
    obtain ⟨rfl, a', hlt, hJ₂⟩ := h₂
    exact ⟨μ a', hlt, a', rfl, hJ₂⟩

/-- x = e, a pure one -/
theorem vi_set {I : Addr} {l : List Nat} {j : Nat} {H : Heap} {x : Str} {px : Pos} {e : Expr} {d : PyData} {rest : List Stmt} (pe : Pe env) (hT : I ≠ tT) (c : Vi g A env W s₀ I l ρ j H s) (hx : env.kindOf x = some .local) (hne : ("iterator" : Str) ≠ x) (hw : swapsWith e (some (.Name x px)) pos.line env = pure false) (he : Ex g A env ρ e d)
    {E : Value → Shared → Prop} {Q : Flow → Shared → Prop} (h : ∀ s', Vi g A env W s₀ I l (upd x d ρ) j H s' → wpAny g.M A (execs rest env) Q E s') : wpAny g.M A (execs (.Assign [.Name x px] e pos :: rest) env) Q E s :=
  wpAny_execs_cons (wpAny_Assign_Name (he.run _ s c.i.wo E _ fun v s₁ k r => vi_store pe (c.kept hT k) hx hne r fun s' c' => h s' c') hw)

/-- x op= e, ints -/
theorem vi_aug {I : Addr} {l : List Nat} {j : Nat} {H : Heap} {x : Str} {px : Pos} {op : Operator} {e : Expr} {a b r : Nat} {rest : List Stmt} (pe : Pe env) (hT : I ≠ tT) (c : Vi g A env W s₀ I l ρ j H s) (hx : env.kindOf x = some .local) (hne : ("iterator" : Str) ≠ x) (ha : look x ρ = some (pI a)) (he : Ex g A env ρ e (pI b))
    (hop : ∀ t u s (E : Value → Shared → Prop) (Q : Value → Shared → Prop), (∀ t' k, Q (.int (r : Nat) t') { s with toks := k }) → wpAny g.M A (inplaceOp op (.int (a : Nat) t) (.int (b : Nat) u)) Q E s)
    {E : Value → Shared → Prop} {Q : Flow → Shared → Prop} (h : ∀ s', Vi g A env W s₀ I l (upd x (pI r) ρ) j H s' → wpAny g.M A (execs rest env) Q E s') : wpAny g.M A (execs (.AugAssign (.Name x px) op e pos :: rest) env) Q E s := by
  obtain ⟨u, hu, ru⟩ := c.i.wo.vs _ (look_mem ha)
  obtain ⟨t, rfl⟩ := ru.int_inv
  refine wpAny_execs_cons (wpAny_AugAssign_Name (hu.load pe.fn (he.run _ s c.i.wo E _ fun v s₁ k r₁ => ?_)))
  obtain ⟨t', rfl⟩ := r₁.int_inv
  exact hop _ _ _ _ _ fun t2 tk => vi_store pe ((c.kept hT k).kept hT (.toks (k := tk))) hx hne .int fun s' c' => h s' c'

/-- every raise of the block is one of these -/
def Xv (env : Env) (outer : List Env) (W : List Addr) (s₀ : Shared) (I : Addr) (v : Value) (s : Shared) : Prop := ∃ H, Heap.SameBut I s₀.heap H ∧ (∃ o vs, H.get? I = some o ∧ o.data = .fields vs) ∧ (∀ L, env.frame = some L → H.get? L = none) ∧ Xa env outer W { s₀ with heap := H } v s
end

theorem vint_call {g : Gd} {f : Addr} {cdv : Value} (hex : g.ex = false) (F : Fd g "_parse_varint" 5 f cdv) (bN : Bn g "next" (.builtin "next")) {l : List Nat} (h128 : ∀ n ∈ l, n < 128) (hl : l.length ≤ 1000) {A : Around} {W : List Addr} {s : Shared} {I : Addr} {j : Nat}
    (rm : Rm A 1) (w : Wd g W s) (fs : Fs A W s) (hI : I ∈ W) (hT : I ≠ tT) (bi : Bi s.heap I l j) {outer : List Env} (hfr : A.frames = some outer) {E : Value → Shared → Prop} {Q : Value → Shared → Prop}
    (hQ : ∀ n v H s' j', vint (l.drop j) = some (n, l.drop j') → Heap.SameBut I s.heap H → (∃ o vs, H.get? I = some o ∧ o.data = .fields vs) → Bi s'.heap I l j' → Kept W { s with heap := H } s' → Rd W s' v (pI n) → Q v s')
    (hE : ∀ v H s', vint (l.drop j) = none → Heap.SameBut I s.heap H → (∃ o vs, H.get? I = some o ∧ o.data = .fields vs) → Gone outer W { s with heap := H } v s' → E v s') : wpAny g.M A (call (.ref f) [.ref I]) Q E s := by
  refine enter1R F (p := "iterator") (fun _ _ _ _ _ => rfl) rfl (by decide) rfl rfl rfl rm w fs fun s₁ L rm' i nm hk₀ => ?_
  generalize henv : envX "_parse_varint" (fScope 5) L f cdv [] = env at *
  have pe : Pe env := henv ▸ ⟨rfl, rfl⟩
  have en : En env := henv ▸ ⟨rfl, rfl, rfl⟩
  have hL : env.locals = L := henv ▸ rfl
  have hfL : env.frame = some L := henv ▸ rfl
  have kB : env.kindOf "b" = some .local := henv ▸ rfl
  have kV : env.kindOf "val" = some .local := henv ▸ rfl
  have kN : env.kindOf "next" = some .globalImplicit := henv ▸ rfl
  rw [← hL] at i
  have nm' : ∀ {W : List Addr}, g.ex = false → Wd g W s → ¬ Mk W := fun h w hm => by rw [w.mode.mp hm] at h; cases h
  have nmk := nm' hex w
  have hfr' : (A.deeper env).frames = some (env :: outer) := Around.frames_deeper hfr
  have c₀ : Vi g (A.deeper env) env W s I l [] j s.heap s₁ := ⟨i, nm, .refl _ _, let ⟨t, o, e, r, d⟩ := bi; ⟨t, o, hk₀ _ _ e, r, d⟩⟩
  have hLs : s.heap.get? L = none := hL ▸ i.new _ i.loc
  -- a raise
  have raise : ∀ (ρ : Rho) H' h' s₂ e, Heap.SameBut I s.heap H' → (∃ o vs, H'.get? I = some o ∧ o.data = .fields vs) → In g (A.deeper env) env ρ [env.locals] W { s with heap := H' } s₂ → Made s₂.heap h' stopT e → Xv env outer W s I (.ref e) { s₂ with heap := h' } := fun ρ H' h' s₂ e sm hf i' md =>
    ⟨H', sm, hf, fun L' hL' => i'.new L' (by rw [hfL] at hL'; cases hL'; rw [hL]; exact .head _), xa_new i' hfr' md⟩
  have out : vint (l.drop j) = none → ∀ v s', Xv env outer W s I v s' → wpAny g.M (A.deeper env) (leaving env v) (fun _ s'' => E v s'') (fun e' s'' => E e' s'') s' := fun hv v s' ⟨H, sm, hf, hown, x⟩ =>
    xa_leave hfr' nmk x hown fun s'' gn => hE v H s'' hv sm hf gn
  refine wpAny_execs_cons (wpAny_Assign_Name (vi_next en pe hI hT rm'.handled bN h128 c₀ kN (fun b H₁ s₂ t hb c₁ => vi_store pe c₁ kB (by decide) .int fun s₃ c₃ => ?_) fun H' h' s₂ e hx sm hf i' md => out (by rw [List.drop_eq_nil_of_le (List.getElem?_eq_none_iff.mp hx)]; rfl) _ _ (raise _ H' h' s₂ e sm hf i' md)) rfl)
  have hb128 := h128 b (List.mem_of_getElem? hb)
  have hjl := (List.getElem?_eq_some_iff.mp hb).1
  have hdrop : l.drop j = b :: l.drop (j + 1) := by rw [List.drop_eq_getElem_cons hjl, (List.getElem?_eq_some_iff.mp hb).2]
  have hv0 : vint (l.drop j) = vgo b (b % 64) (l.drop (j + 1)) := by rw [hdrop]; rfl
  refine vi_set (d := pI (b % 64)) pe hT c₃ kV (by decide) rfl ((ex_and (ex_v pe.fn rfl) ex_int).is (congrArg PyData.int (and63 b))) fun s₄ c₄ => ?_
  have c₄ : Vi g (A.deeper env) env W s I l [("b", pI b), ("val", pI (b % 64))] (j + 1) H₁ s₄ := ⟨c₄.i.subs ⟨rfl, rfl, trivial⟩, c₄.nm, c₄.same, c₄.bi⟩
  refine wpAny_execs_cons (wh_loopE (σ := Nat × Nat × Nat × Heap) (fun a s' => Vi g (A.deeper env) env W s I l [("b", pI a.1), ("val", pI a.2.1)] a.2.2.1 a.2.2.2 s' ∧ vgo a.1 a.2.1 (l.drop a.2.2.1) = vint (l.drop j) ∧ a.1 < 128 ∧ a.2.1 < 64 ^ a.2.2.1 ∧ a.2.2.1 ≤ l.length) (fun a => decide (64 ≤ a.1)) (fun a => l.length - a.2.2.1) ?_ ?_ (a₀ := (b, b % 64, j + 1, H₁)) ⟨c₄, hv0.symm, hb128, ?_, hjl⟩ ?_)
  · rintro ⟨b, val, j', H'⟩ s' E' Q' ⟨c, q⟩ hq
    refine ((tt_int (a := ((if b < 64 then 0 else 64 : Nat) : Int)) ((ex_and (ex_v pe.fn rfl) ex_int).is (congrArg PyData.int (and64 q.2.1)))).is ?_).run _ s' c.i.wo E' Q' fun s'' k => hq s'' ⟨c.kept hT k, q⟩
    dsimp only
    by_cases h : b < 64
    · rw [if_pos h, decide_eq_false (by lia)]; rfl
    · rw [if_neg h, decide_eq_true (by lia)]; rfl
  · rintro ⟨b, val, j', H'⟩ s' ⟨c, q1, q2, q3, q4⟩ hc
    dsimp only at c q1 q2 q3 q4 hc
    have hb : 64 ≤ b := by simpa using hc
    refine vi_aug (a := val) (b := 6) (r := val * 64) pe hT c kV (by decide) rfl ex_int (fun t u s E Q h => ?_) fun s₅ c₅ => ?_
    · refine PyProof.Rows.ilshift_int (by decide) ?_ ?_
      · have : Builtin.Int.intBits ((val : Nat) : Int) ≤ 6 * 1000 := by
          rw [intBits_le_iff, Int.natAbs_natCast]
          refine Nat.lt_of_lt_of_le q3 ?_
          rw [show (64 : Nat) = 2 ^ 6 from rfl, ← Nat.pow_mul]
          exact Nat.pow_le_pow_right (by decide) (by lia)
        lia
      · have e : ((val : Nat) : Int) * 2 ^ ((6 : Nat) : Int).toNat = ((val * 64 : Nat) : Int) := by
          rw [Int.toNat_natCast]; norm_cast
        rw [e]
        exact h _ _
    refine wpAny_execs_cons (wpAny_Assign_Name (vi_next en pe hI hT rm'.handled bN h128 c₅ kN (fun b' H₂ s₆ t hb' c₆ => vi_store pe c₆ kB (by decide) .int fun s₇ c₇ => ?_) fun H' h' s₂ e hx sm hf i' md => ?_) rfl)
    · have hb128' := h128 b' (List.mem_of_getElem? hb')
      have hjl' := (List.getElem?_eq_some_iff.mp hb').1
      have hdrop' : l.drop j' = b' :: l.drop (j' + 1) := by rw [List.drop_eq_getElem_cons hjl', (List.getElem?_eq_some_iff.mp hb').2]
      refine vi_aug (a := val * 64) (b := b' % 64) (r := 64 * val + b' % 64) pe hT c₇ kV (by decide) rfl ((ex_and (ex_v pe.fn rfl) ex_int).is (congrArg PyData.int (and63 b'))) (fun t u s E Q h => ?_) fun s₈ c₈ => ?_
      · refine PyProof.Rows.ior_int ?_
        rw [or_low (Nat.mod_lt _ (by decide))]
        exact h _ _
      refine wpAny_execs_nil ⟨rfl, (b', 64 * val + b' % 64, j' + 1, H₂), by dsimp only; lia, ⟨c₈.i.subs ⟨rfl, rfl, trivial⟩, c₈.nm, c₈.same, c₈.bi⟩, ?_, hb128', ?_, hjl'⟩
      · dsimp only
        rw [← q1, hdrop', vgo, if_neg (by lia)]
      · dsimp only
        rw [Nat.pow_succ]
        have : b' % 64 < 64 := Nat.mod_lt _ (by decide)
        lia
    · have hnone : vint (l.drop j) = none := by
        rw [← q1, List.drop_eq_nil_of_le (List.getElem?_eq_none_iff.mp hx), vgo, if_neg (by lia)]
      obtain ⟨H3, sm3, hf3, hown3, x3⟩ := raise _ H' h' s₂ e sm hf i' md
      exact noted_mono (fun v s'' x => out hnone v s'' ⟨H3, sm3, hf3, hown3, x⟩) (xa_passes hfr' nmk x3)
  · have : b % 64 < 64 := Nat.mod_lt _ (by decide)
    dsimp only
    rw [Nat.pow_succ]
    have : 0 < 64 ^ j := Nat.pow_pos (by decide)
    lia
  · rintro ⟨b, val, j', H'⟩ s' ⟨c, q1, q2, q3, q4⟩ hc
    dsimp only at c q1 q2 q3 q4 hc
    have hb : b < 64 := by simpa using hc
    refine wpAny_execs_cons (wpAny_Return_some ((ex_v (g := g) (A := A.deeper env) (env := env) (ρ := [("b", pI b), ("val", pI val)]) (x := "val") (d := pI val) pe.fn rfl).run _ s' c.i.wo _ _ fun v s'' k r => ?_))
    have c' := c.kept hT k
    have hres : vint (l.drop j) = some (val, l.drop j') := by
      rw [← q1]
      cases l.drop j' with
      | nil => rw [vgo, if_pos hb]
      | cons x y => rw [vgo, if_pos hb]
    refine hQ val v H' s'' j' hres c'.same ?_ c'.bi c'.i.kept (r.less fun a ha => List.mem_append_right _ ha)
    obtain ⟨o, e⟩ := c'.i.w0.live I hI
    obtain ⟨sl, e', _⟩ := c'.i.kept.slots I o hI hT e
    obtain ⟨o2, vs, e2, ed⟩ := c'.bi.fields
    rw [e'] at e2; cases e2
    exact ⟨o, vs, e, ed⟩
end Mine

/- Ent -/
namespace Mine
open PySem PySem.W PySem.Calls PySem.Spec PyProof.Rows
set_option Elab.async false
set_option linter.unusedVariables false
set_option maxRecDepth 100000
set_option maxHeartbeats 4000000

/-- the two classes of the entries, as they stand behind the top -/
def o154 : Obj := { cls := .type "type", data := .cls { name := "_ExceptionTableEntry", bases := [.ref 141], mro := [.ref 154, .ref 141, .type "tuple", .type "object"], ns := 153, qualname := "_ExceptionTableEntry" }, slots := #[some (.ref 145), none, some (.str "_ExceptionTableEntry" 407), some (.str "_ExceptionTableEntry" 415), some .none, some (.bool false)] }
def o141 : Obj := { cls := .type "type", data := .cls { name := "_ExceptionTableEntryBase", bases := [.type "tuple"], mro := [.ref 141, .type "tuple", .type "object"], ns := 140, qualname := "_ExceptionTableEntryBase", hasDict := false, subclasses := [.ref 154] }, slots := #[some (.ref 65), none, some (.str "_ExceptionTableEntryBase" 253), some (.str "_ExceptionTableEntryBase" 261), some .none, some (.bool false)] }

structure Ce (g : Gd) : Prop where
  h154 : g.K.lookup 154 = some o154
  h141 : g.K.lookup 141 = some o141
  call : specialIn g.K (.ref 154) "__call__" = some (some (.builtin "type.__call__"))
  reads : readsIn g.K 154 (.type "type") = true
  new : findCls g.K (.ref 154) (.type "type") "__new__" = some (.get (.builtin "staticmethod.__get__") (.ref 142) .none (.ref 154))
  sm : recIn g.K 142 "staticmethod" = some [.ref 82]
  init : findIn g.K (.ref 154) "__init__" = some (some (.builtin "object.__init__"))
  iter : findIn g.K (.ref 154) "__iter__" = some (some (.builtin "tuple.__iter__"))
  tnew : findCls g.K (.type "tuple") (.type "type") "__new__" = some (.val (.builtin "tuple.__new__"))

section
variable {M : Model} {h : Heap}
theorem lk_tuple_names : Builtin.Slots.slotNamesOf (.type "tuple") = pure (List.replicate 0 Str.empty) := by kernel_rfl
theorem looks_141 (h1 : h.get? 141 = some o141) : Looks M h (Builtin.Slots.addsLayout (.ref 141)) false := by
  intro A Q E s k q
  obtain ⟨hh, g, d, t, os⟩ := s
  have e1 := k _ _ h1
  have n1 : Looks M hh (Builtin.Slots.slotNamesOf (.type "tuple")) (List.replicate 0 Str.empty) := Looks.of_pure lk_tuple_names
  unfold Builtin.Slots.addsLayout o141 at *
  dsimp only at e1
  repeat lk
  exact q
theorem looks_154 (h1 : h.get? 141 = some o141) (h2 : h.get? 154 = some o154) : Looks M h (Builtin.Slots.addsLayout (.ref 154)) false := by
  intro A Q E s k q
  obtain ⟨hh, g, d, t, os⟩ := s
  have e1 := k _ _ h1
  have e2 := k _ _ h2
  unfold Builtin.Slots.addsLayout o141 o154 at *
  dsimp only at e1 e2
  repeat lk
  exact q
theorem sm_tuple : Builtin.Slots.bestBase [.type "tuple"] = pure (.type "tuple") := by kernel_rfl
theorem mb_tuple : Bind.madeBy (.type "tuple") = pure (some "tuple.__new__") := by kernel_rfl
theorem looks_made1 (h1 : h.get? 141 = some o141) : Looks M h (Bind.madeBy (.ref 141)) none := by
  intro A Q E s k q
  obtain ⟨hh, g, d, t, os⟩ := s
  have e1 := k _ _ h1
  unfold Bind.madeBy o141 at *
  dsimp only at e1
  repeat lk
  exact q
theorem looks_made2 (h2 : h.get? 154 = some o154) : Looks M h (Bind.madeBy (.ref 154)) none := by
  intro A Q E s k q
  obtain ⟨hh, g, d, t, os⟩ := s
  have e1 := k _ _ h2
  unfold Bind.madeBy o154 at *
  dsimp only at e1
  repeat lk
  exact q
theorem looks_best (h1 : h.get? 141 = some o141) : Looks M h (Builtin.Slots.bestBase [.ref 141]) (.ref 141) := by
  intro A Q E s k q
  obtain ⟨hh, g, d, t, os⟩ := s
  have l1 := looks_141 (M := M) (k _ _ h1)
  have e1 := k _ _ h1
  unfold Builtin.Slots.bestBase Builtin.Slots.solid o141 at *
  dsimp only at e1
  repeat lk
  exact q
theorem looks_static (h1 : h.get? 141 = some o141) (h2 : h.get? 154 = some o154) : Looks M h (Bind.staticBase (.ref 154)) (.type "tuple") := by
  intro A Q E s k q
  obtain ⟨hh, g, d, t, os⟩ := s
  have e1 := k _ _ h1
  have e2 := k _ _ h2
  have l1 := looks_made1 (M := M) e1
  have l2 := looks_made2 (M := M) e2
  have l3 := looks_best (M := M) e1
  have l4 : Looks M hh (Builtin.Slots.bestBase [.type "tuple"]) (.type "tuple") := Looks.of_pure sm_tuple
  have l5 : Looks M hh (Bind.madeBy (.type "tuple")) (some "tuple.__new__") := Looks.of_pure mb_tuple
  unfold Bind.staticBase o141 o154 at *
  dsimp only at e1 e2
  repeat lk
  exact q
theorem looks_here (h1 : h.get? 141 = some o141) (h2 : h.get? 154 = some o154) : Looks M h (Bind.madeHere "tuple.__new__" (.ref 154)) () := by
  refine (looks_static h1 h2).andThen ((Looks.of_pure mb_tuple).andThen (Looks.of_pure ?_))
  simp only [Option.map_some, bne_self_eq_false, Bool.false_eq_true, if_false]
end
end Mine

/- Ent2 -/
namespace Mine
open PySem PySem.W PySem.Calls PySem.Spec PyProof.Rows
set_option Elab.async false
set_option linter.unusedVariables false
set_option maxRecDepth 100000
set_option maxHeartbeats 4000000

section
variable {prog : Program} {w : World} {A : Around} {E : Value → Shared → Prop} {K : Frag}

theorem nd_and {α : Type} {M : Model} {A : Around} {E : Value → Shared → Prop} {s : Shared} {t : Sem α} {Q : α → Shared → Prop} (h : wpAny M A t Q E s) : wpAny M A t Q E s := h

theorem tn_run {hp : Heap} {gg : Array GenState} {d : Drawn} {tk : Nat} {os : OsState} {T : Addr} {items : Array Value} {P : Fin → Shared → Prop} (X : K.In hp) (h154 : K.lookup 154 = some o154) (h141 : K.lookup 141 = some o141) (hi : findIn K (.ref 154) "__init__" = some (some (.builtin "object.__init__")))
    (hT : hp.IsTuple T items) (hz : items.size ≤ sizeLine)
    (h : ∀ h' x, (∀ b o, hp.get? b = some o → h'.get? b = some o) → hp.get? x = none → (∃ o n, h'.get? x = some o ∧ o.cls = .ref 154 ∧ o.data = .seq items n) → P (.done (.ret (.ref x))) ⟨h', gg, d, tk, os⟩) :
    wpAny (model prog w) A (Builtin.«tuple.__new__» ⟨[.ref 154, .ref T], []⟩) P E ⟨hp, gg, d, tk, os⟩ := by
  have e1 := X _ _ h154
  have e2 := X _ _ h141
  obtain ⟨oT, eT, cT, n, dT⟩ := hT
  have l1 := looks_here (M := model prog w) e2 e1
  have l2 := looks_findIn (M := model prog w) X hi
  have l3 : Looks (model prog w) hp (isSubtype (.ref 154) (.type "tuple")) true := looks_mroIn X (by unfold mroIn clsIn; rw [h154]; rfl)
  have lT : Looks (model prog w) hp (Builtin.Tuple.tupleIsExact (.ref T)) true := by
    unfold Builtin.Tuple.tupleIsExact
    refine Looks.andThen (a := .type "tuple") ?_ (Looks.of_pure (by rfl))
    have : Looks (model prog w) hp (typeOf (.ref T)) oT.cls := (Looks.ld eT).andThen .now
    rw [cT] at this
    exact this
  unfold Builtin.«tuple.__new__»
  have l0 : Looks (model prog w) hp (isType (.ref 154)) true := (Looks.ld e1).andThen .now
  repeat (first | with_reducible refine wpAny_collect_seq T (.inr rfl) eT cT dT ?_ hz | lk)
  intro h' keep
  dsimp only
  have ee : items.toList.toArray = items := by simp
  have e1' := keep _ _ e1
  have hget : ((h'.push { cls := .type "dict", data := .dict #[] }).push { cls := .ref 154, dict := some h'.objs.size, data := .seq items.toList.toArray }).get? (h'.objs.size + 1) = some { cls := .ref 154, dict := some h'.objs.size, data := .seq items.toList.toArray } := by heap_get
  have hx : wpAny (model prog w) A (newObj (.ref 154) (.seq items.toList.toArray) (some h'.objs.size) >>= fun v => ret v) P E ⟨h'.push { cls := .type "dict", data := .dict #[] }, gg, d, tk, os⟩ := by
    unfold newObj
    refine wpAny_bind ?_
    dsimp only
    rw [if_neg (by rw [ee]; lia)]
    unfold newObjAsIs classHasDel
    have e1'' := Heap.get?_push_of_some { cls := .ref 154, dict := some h'.objs.size, data := .seq items.toList.toArray } (Heap.get?_push_of_some { cls := .type "dict", data := .dict #[] } e1')
    refine wpAny_bind (wpAny_alloc (wpAny_bind (wpAny_bind (wpAny_load e1'' (wpAny_pure ?_)))))
    show wpAny _ _ (if (false : Bool) = true then _ else _) _ _ _
    rw [if_neg (by decide)]
    refine wpAny_pure (wpAny_pure ?_)
    show P (.done (.ret (.ref (h'.push { cls := .type "dict", data := .dict #[] }).objs.size))) _
    rw [Heap.size_push]
    refine h _ (h'.objs.size + 1) (fun b o e => Heap.get?_push_of_some _ (Heap.get?_push_of_some _ (keep b o e))) ?_ ⟨_, _, hget, rfl, by rw [ee]⟩
    cases q : hp.get? (h'.objs.size + 1) with
    | none => rfl
    | some o => exact absurd (Heap.lt_size (keep _ _ q)) (Nat.not_lt.mpr (Nat.le_succ _))
  exact wpAny_bind (wpAny_pure (wpAny_bind (wpAny_alloc hx)))
end
end Mine

/- Ent3 -/
namespace Mine
open PySem PySem.W PySem.Calls PySem.Spec PyProof.Rows
set_option Elab.async false
set_option linter.unusedVariables false
set_option maxRecDepth 100000
set_option maxHeartbeats 4000000

def newSt : Stmt := match stAt 3 with | .ClassDef _ _ _ b _ _ _ _ _ _ _ => b.getD 4 (.Pass ⟨0, 0, 0, 0⟩) | _ => .Pass ⟨0, 0, 0, 0⟩

/-- a def of a class of the text -/
structure Fq (g : Gd) (f : Addr) (name qual : Str) (params : Arguments) (body : List Stmt) (scope : Scope) (cdv : Value) : Prop where
  ob : ∃ oc od osl doc pm an ct, g.K.lookup f = some ⟨oc, od, .func (fnX name qual params body scope [] .none .none doc pm an cdv ct), osl⟩
  cd : codeIn g.K cdv qual = true

section
variable {g : Gd} {A : Around} {env : Env} {ρ ρ' : Rho} {pos : Pos} {N W : List Addr} {s₀ s : Shared}

/-- the entry of a def, any values -/
theorem enterQ {f : Addr} {name qual : Str} {params : Arguments} {body : List Stmt} {scope : Scope} {cdv : Value} (F : Fq g f name qual params body scope cdv) {k : Nat} {vs : List Value} {binds : List (Str × Value)}
    (hb : ∀ doc pm an ct, bindArgs (fnX name qual params body scope [] .none .none doc pm an cdv ct) ⟨vs, []⟩ = pure binds) (hp : ∀ x ∈ binds, scope.names.lookup x.1 = some .local)
    (hcell : ∀ x ∈ scope.names, x.2 ≠ .cell) (hk : scope.kind = .function) (hco : scope.isCoroutine = false) (hgen : scope.isGenerator = false) (rm : Rm A (k + 1)) (w : Wd g W s) (fs : Fs A W s) {E : Value → Shared → Prop} {Q : Value → Shared → Prop}
    (h : ∀ s' L, Rm (A.deeper (envX qual scope L f cdv [])) k → In g (A.deeper (envX qual scope L f cdv [])) (envX qual scope L f cdv []) [] [L] W s s' → s'.heap.Ns L (fun x => binds.reverse.lookup x) → Kept W s s' → s.heap.get? L = none → L ≠ tT →
      wpAny g.M (A.deeper (envX qual scope L f cdv [])) (execs body (envX qual scope L f cdv [])) (fun fl s' => Q (match fl with | .ret v => v | _ => .none) s')
        (fun e s' => wpAny g.M (A.deeper (envX qual scope L f cdv [])) (leaving (envX qual scope L f cdv []) e) (fun _ s'' => E e s'') (fun e' s'' => E e' s'') s') s') : wpAny g.M A (call (.ref f) vs) Q E s := by
  obtain ⟨oc, od, osl, doc, pm, an, ct, eo⟩ := F.ob
  refine wpAny_call (codeAny_call_def (fd := fnX name qual params body scope [] .none .none doc pm an cdv ct) (body := body) (binds := binds) (by have := rm.depth; lia) (w.k _ _ eo) rfl w.top.nolimit (codeRec_of w.k F.cd) rfl
    (BindsTo.of_eq (hb ..)) hcell hp (fun h₀ hns hk₀ => ?_) hco hgen hk)
  have kp : Kept W s { s with heap := h₀, toks := s.toks + binds.length } := .keeps hk₀
  have hL : ∀ a ∈ [s.heap.objs.size], s.heap.get? a = none := fun a ha => by
    obtain rfl : a = s.heap.objs.size := (by simpa using ha)
    exact Heap.get?_none_of_le (Nat.le_refl _)
  have hLl : ∃ o es ep, h₀.get? s.heap.objs.size = some o ∧ o.data = .dict es ep := let ⟨o, es, ep, e, e2, _⟩ := hns; ⟨o, es, ep, e, e2⟩
  have hLT := w.ne_T (hL _ (.head _))
  refine h _ s.heap.objs.size (rm.deeper _) ⟨kp, hL, ⟨w.grow kp hL fun a ha => ?_, ?_, .nil⟩, ⟨_, hns⟩, .head _, w.w0⟩ hns kp (hL _ (.head _)) hLT
  · obtain rfl : a = s.heap.objs.size := (by simpa using ha)
    obtain ⟨o, _, _, e, _⟩ := hLl
    exact ⟨o, e⟩
  · obtain ⟨envs, e, hh⟩ := fs.grow (N := [s.heap.objs.size]) kp
    refine ⟨_ :: envs, Around.frames_deeper e, fun env' he => ?_⟩
    cases he with
    | head =>
      obtain ⟨o, es, ep, e1, e2⟩ := hLl
      exact ⟨by show scope.kind ≠ .module; rw [hk]; decide, _, o, es, ep, rfl, .head _, hLT, e1, e2⟩
    | tail _ he => exact hh env' he

/-- a method's call, however the method is found -/
theorem Call_methodG {o : Expr} {name : Str} {apos : Pos} {args : List Expr} {E : Value → Shared → Prop} {Q : Value → Shared → Prop} {s : Shared}
    (hbase : attributeBase o name env (eval o env) = eval o env)
    (hfew : ((backTo pos (starEach args env)).all (fun x => !x.1) && (backToKw pos (keywordEach [] env)).all (fun x => x.1.isSome)
      && decide (args.length + ([] : List Keyword).length + (if ([] : List Keyword).isEmpty then 0 else 1) < 30)) = true)
    (hline : (apos.endLine == pos.line) = true)
    (h : wpAny g.M A (eval o env) (fun ov s₁ => ∀ pl, wpAny g.M A (getMethod ov name pl) (fun fb s₂ => wpAny g.M A (callWith pos fb.1 fb.2 (backTo pos (starEach args env)) []) Q E s₂) E s₁) E s) :
    wpAny g.M A (eval (.Call (.Attribute o name apos) args [] pos) env) Q E s := by
  rw [arm_eval_Call, hbase]
  refine wpAny_bind (wpAny_mono h (fun ov s₁ h₁ => ?_) fun _ _ e => e)
  refine wpAny_bind (wpAny_standAt ?_)
  have hform : methodCallForm (args.length + ([] : List Keyword).length) (backTo pos (starEach args env)) (backToKw pos (keywordEach [] env)) = true := hfew
  have hpos : methodCallPos true o env apos pos = pure pos := by unfold methodCallPos; simp [hline]
  unfold methodCall
  rw [hform]
  refine wpAny_bind (wpAny_holding (wpAny_mono (h₁ _) (fun fb s₂ h₂ => ?_) fun _ _ e => e))
  exact wpAny_bind (wpAny_of_eq hpos h₂)

theorem tn_kind : builtinKind "tuple.__new__" = some .builtinFn := by decide +kernel
theorem tn_split : splitId "tuple.__new__" = some ("tuple", "__new__") := by kernel_rfl
theorem tn_args (a b : Value) : argsOk "tuple.__new__" ⟨[a, b], []⟩ := by unfold argsOk; kernel_rfl
theorem tn_plain : plainId "tuple.__new__" = true := by decide +kernel

theorem tn_check {hp : Heap} {gg : Array GenState} {d : Drawn} {tk : Nat} {os : OsState} {b : Value} {K : Frag} {Q : Unit → Shared → Prop} {M : Model} {E : Value → Shared → Prop} (X : K.In hp) (h154 : K.lookup 154 = some o154) (h141 : K.lookup 141 = some o141) (q : Q () ⟨hp, gg, d, tk, os⟩) :
    wpAny M A (checkBuiltinCall "tuple.__new__" ⟨[.ref 154, b], []⟩) Q E ⟨hp, gg, d, tk, os⟩ := by
  have e1 := X _ _ h154
  have e2 := X _ _ h141
  have l0 : Looks M hp (isType (.ref 154)) true := (Looks.ld e1).andThen .now
  have l1 := looks_static (M := M) e2 e1
  have l2 : Looks M hp (Bind.madeBy (.type "tuple")) (some "tuple.__new__") := Looks.of_pure mb_tuple
  have l3 : Looks M hp (isSubtype (.ref 154) (.type "tuple")) true := looks_mroIn X (by unfold mroIn clsIn; rw [h154]; rfl)
  have ha := tn_args (.ref 154) b
  simp only [checkBuiltinCall, tn_kind, tn_split]
  cases hsig : Manifest.signature? "tuple.__new__" with
  | none =>
    repeat lk
    exact q
  | some sig =>
    simp only [argsOk, hsig] at ha
    have h2 : Bind.checkArgs "tuple.__new__" sig ⟨[.ref 154, b], []⟩ = pure () := ha
    have l5 : Looks M hp (Bind.checkArgs "tuple.__new__" sig ⟨[.ref 154, b], []⟩) () := Looks.of_pure h2
    repeat lk
    exact q
end
end Mine

/- Ent4 -/
namespace Mine
open PySem PySem.W PySem.Calls PySem.Spec PyProof.Rows
set_option Elab.async false
set_option linter.unusedVariables false
set_option maxRecDepth 100000
set_option maxHeartbeats 4000000

section
variable {g : Gd} {A : Around} {env : Env} {ρ ρ' : Rho} {pos : Pos} {N W : List Addr} {s₀ s : Shared}

theorem getm_tuple {K : Frag} {pl : Sem Bool} {E : Value → Shared → Prop} {Q : Value × List Value → Shared → Prop} (X : K.In s.heap) (e : findCls K (.type "tuple") (.type "type") "__new__" = some (.val (.builtin "tuple.__new__")))
    (h : Q (.builtin "tuple.__new__", []) { s with toks := s.toks + 1 }) : wpAny g.M A (getMethod (.type "tuple") "__new__" pl) Q E s := by
  have hstub : opaqueClassAbove (.type "tuple") = pure none := by unfold opaqueClassAbove; dsimp only; rw [show Manifest.isStub "tuple" = false by decide +kernel]; rfl
  have ht : typeOf (.type "tuple") = pure (.type "type") := by first | rfl | kernel_rfl
  have L0 : Looks g.M s.heap (typeOf (.type "tuple")) (.type "type") := Looks.of_pure ht
  have hg : findIn K (.type "type") "__getattribute__" = some (some (.builtin "type.__getattribute__")) := by rfl
  unfold getMethod specialOf
  refine wpAny_bind (wpAny_bind (L0.here ((looks_findIn X hg).here ?_)))
  dsimp only
  rw [if_pos canon_tga]
  refine wpAny_bind (wpAny_mono (Q := fun v => Q (v, [])) (E := E) ?_ (fun _ _ z => wpAny_pure z) fun _ _ z => z)
  have LO : Looks g.M s.heap (opaqueClassAbove (.type "tuple")) none := Looks.of_pure hstub
  refine cls_open X LO L0 hg (looks_hook X (r := none) (by rfl)) (by show subIn K _ _ = _; rfl) e ?_
  refine wpAny_pure ?_
  show wpAny _ _ (handedOut (.builtin "tuple.__new__")) _ _ _
  rw [handedOut_of (by decide +kernel)]
  exact wpAny_pure h

theorem enew_call {cdv : Value} (C : Ce g) (F : Fq g 82 "__new__" "_ExceptionTableEntryBase.__new__" (argsOf newSt) (bodyOf newSt) (scopeOf newSt) cdv) (bT : Bn g "tuple" (.type "tuple")) {v1 v2 v3 v4 v5 : Value} {d1 d2 d3 d4 d5 : PyData} (rm : Rm A 1) (w : Wd g W s) (fs : Fs A W s)
    (r1 : Rd W s v1 d1) (r2 : Rd W s v2 d2) (r3 : Rd W s v3 d3) (r4 : Rd W s v4 d4) (r5 : Rd W s v5 d5) {E : Value → Shared → Prop} {Q : Value → Shared → Prop} (hQ : ∀ x s', Kept W s s' → Rd W s' (.ref x) (entD [d1, d2, d3, d4, d5]) → Q (.ref x) s') :
    wpAny g.M A (call (.ref 82) [.ref 154, v1, v2, v3, v4, v5]) Q E s := by
  refine enterQ F (binds := [("_cls", .ref 154), ("start", v1), ("end", v2), ("target", v3), ("depth", v4), ("lasti", v5)]) (fun _ _ _ _ => rfl) (by
    intro x hx
    simp only [List.mem_cons, List.not_mem_nil, or_false] at hx
    rcases hx with rfl | rfl | rfl | rfl | rfl | rfl <;> rfl) (by decide) rfl rfl rfl rm w fs fun s₁ L rm' i ns k₁ hLs hLT => ?_
  generalize henv : envX "_ExceptionTableEntryBase.__new__" (scopeOf newSt) L 82 cdv [] = env at *
  have pe : Pe env := henv ▸ ⟨rfl, rfl⟩
  have en : En env := henv ▸ ⟨rfl, rfl, rfl⟩
  have hL : env.locals = L := henv ▸ rfl
  have kT : env.kindOf "tuple" = some .globalImplicit := henv ▸ rfl
  have hin : interactive env = false := henv ▸ rfl
  have hN : ∀ a ∈ [L], s.heap.get? a = none := fun a ha => by obtain rfl : a = L := (by simpa using ha); exact hLs
  rw [← hL] at ns hLT
  have has : ∀ x v, env.kindOf x = some .local → ([("_cls", .ref 154), ("start", v1), ("end", v2), ("target", v3), ("depth", v4), ("lasti", v5)] : List (Str × Value)).reverse.lookup x = some v → Has env s₁.heap x v := fun x v hk hv => .loc _ hk hLT ns hv
  have hc := has "_cls" (.ref 154) (henv ▸ rfl) rfl
  have i1 := ((((i.know (has "start" v1 (henv ▸ rfl) rfl) (r1.grow k₁.keep hN)).know (has "end" v2 (henv ▸ rfl) rfl) (r2.grow k₁.keep hN)).know (has "target" v3 (henv ▸ rfl) rfl) (r3.grow k₁.keep hN)).know (has "depth" v4 (henv ▸ rfl) rfl) (r4.grow k₁.keep hN)).know (has "lasti" v5 (henv ▸ rfl) rfl) (r5.grow k₁.keep hN)
  refine next_cons (wpAny_Expr (Constant_str ⟨rfl, ?_⟩) hin rfl)
  have kt : Kept ([L] ++ W) s₁ { s₁ with toks := s₁.toks + 1 } := .toks
  have i2 := i1.step kt
  have hc2 := hc.kept kt
  generalize ({ s₁ with toks := s₁.toks + 1 } : Shared) = s₂ at i2 hc2 kt
  refine wpAny_execs_cons (wpAny_Return_some (Call_methodG rfl rfl rfl (name_blt i2.wo.wd en bT kT (fun pl => getm_tuple i2.wo.wd.k C.tnew ?_))))
  have kt3 : Kept ([L] ++ W) s₂ { s₂ with toks := s₂.toks + 1 } := .toks
  have i3 := i2.step kt3
  have hc3 := hc2.kept kt3
  generalize ({ s₂ with toks := s₂.toks + 1 } : Shared) = s₃ at i3 hc3 kt3
  refine callWith_builtin rfl (evalArgs_plain (spliced_cons (Has.name pe.fn hc3 (by decide) (spliced_cons ((ex_tuple (g := g) (A := A.deeper env) (env := env) (ρ := [("lasti", d5), ("depth", d4), ("target", d3), ("end", d2), ("start", d1)]) (ds := [d1, d2, d3, d4, d5]) (k := 0) (.cons (ex_v pe.fn rfl) (.cons (ex_v pe.fn rfl) (.cons (ex_v pe.fn rfl) (.cons (ex_v pe.fn rfl) (.cons (ex_v pe.fn rfl) .nil))))) (by simp [sizeLine_eq])).run _ s₃ i3.wo _ _ fun u s₄ k₄ r₄ => spliced_nil ?_)))))
  obtain ⟨T, us, rfl, hTW, hT, hr⟩ := r₄.tuple_inv
  have i4 := i3.step k₄
  obtain ⟨hp, gg, dd, tk, os⟩ := s₄
  have hus : us.toArray.size ≤ sizeLine := by simp [hr.length, sizeLine_eq]
  refine wpAny_call (codeAny_call_builtin tn_plain PySem.F.entry_tuple_new (tn_check i4.wo.wd.k C.h154 C.h141 (tn_run i4.wo.wd.k C.h154 C.h141 C.init hT hus fun h' x keep hx ⟨o, n, ex, ec, ed⟩ => ?_)))
  have k5 : Kept ([L] ++ W) ⟨hp, gg, dd, tk, os⟩ ⟨h', gg, dd, tk, os⟩ := .heap keep
  have i5 := i4.step k5
  refine hQ x _ i5.kept ?_
  obtain ⟨as, rr⟩ := hr.kept k5
  have hxW : x ∉ [L] ++ W := fun hm => by
    obtain ⟨o', e'⟩ := i4.wo.wd.live x hm
    have : hp.get? x = some o' := e'
    rw [hx] at this; cases this
  have : Rd ([L] ++ W) ⟨h', gg, dd, tk, os⟩ (.ref x) (entD [d1, d2, d3, d4, d5]) := ⟨as, .entry (hideAll_get _ ex hxW) ec ed (by simpa using rr)⟩
  exact this.less fun a ha => List.mem_append_right _ ha
end
end Mine

/- Ent5 -/
namespace Mine
open PySem PySem.W PySem.Calls PySem.Spec PyProof.Rows
set_option Elab.async false
set_option linter.unusedVariables false
set_option maxRecDepth 100000
set_option maxHeartbeats 4000000

section
variable {g : Gd} {A : Around} {env : Env} {ρ ρ' : Rho} {pos : Pos} {N W : List Addr} {s₀ s : Shared}

theorem oi6 (a v1 v2 v3 v4 v5 : Value) : argsOk "object.__init__" ⟨[a, v1, v2, v3, v4, v5], []⟩ := by unfold argsOk; kernel_rfl

theorem oi_quiet {prog : Program} {w : World} {h : Heap} {x : Addr} {rest : List Value} (ht : Looks (model prog w) h (typeOf (.ref x)) (.ref 154)) (hi : Looks (model prog w) h (typeLookup (.ref 154) "__init__") (some (.builtin "object.__init__")))
    (hm : Looks (model prog w) h (Bind.madeBy (.ref 154)) none) : Looks (model prog w) h (Builtin.«object.__init__» ⟨.ref x :: rest, []⟩) (.done (.ret .none)) := by
  intro A Q E s k q
  unfold Builtin.«object.__init__»
  dsimp only
  by_cases hr : rest.isEmpty = true
  · rw [hr]; exact wpAny_pure q
  · rw [show rest.isEmpty = false by simpa using hr]
    refine wpAny_bind ?_
    show wpAny _ _ (typeOf (.ref x) >>= _) _ _ _
    refine ht A _ E s k (wpAny_bind (hi A _ E s k ?_))
    refine wpAny_bind (hm A _ E s k ?_)
    rw [if_neg (by decide), if_neg (by decide)]
    exact wpAny_pure q

theorem entry_call {cdv : Value} (C : Ce g) (F : Fq g 82 "__new__" "_ExceptionTableEntryBase.__new__" (argsOf newSt) (bodyOf newSt) (scopeOf newSt) cdv) (bT : Bn g "tuple" (.type "tuple")) {v1 v2 v3 v4 v5 : Value} {d1 d2 d3 d4 d5 : PyData} (rm : Rm A 2) (w : Wd g W s) (fs : Fs A W s)
    (r1 : Rd W s v1 d1) (r2 : Rd W s v2 d2) (r3 : Rd W s v3 d3) (r4 : Rd W s v4 d4) (r5 : Rd W s v5 d5) {E : Value → Shared → Prop} {Q : Value → Shared → Prop} (hQ : ∀ x s', Kept W s s' → Rd W s' (.ref x) (entD [d1, d2, d3, d4, d5]) → Q (.ref x) s') :
    wpAny g.M A (call (.ref 154) [v1, v2, v3, v4, v5]) Q E s := by
  have e2 := w.k _ _ C.h154
  refine wpAny_call (codeAny_of_tree ?_)
  show wpAny _ _ (callAny (.ref 154) _) _ _ _
  refine nd_load e2 ?_
  show wpAny _ _ (callAny.viaDunder (.ref 154) _) _ _ _
  unfold callAny.viaDunder
  refine wpAny_bind ((looks_specialIn w.k C.call).here ?_)
  dsimp only
  rw [tc_bind]
  refine wpAny_bind (wpAny_pure (wpAny_bind (wpAny_pure ?_)))
  refine wpAny_pure (a := Fin.again (.call (.builtin "type.__call__") ⟨[.ref 154, v1, v2, v3, v4, v5], []⟩)) (And.intro rfl ?_)
  have typ : Looks g.M s.heap (isInstance (.ref 154) (.type "type")) true := looks_instIn w.k (by unfold instIn typeIn; dsimp only; rw [C.h154]; rfl)
  refine codeAny_call_builtin_at (Code.quiet_builtin _ (by decide +kernel)) entry_typeCall (check_slot tc_kind tc_split typ (tc_args _ _ _) ?_)
  unfold Builtin.«type.__call__»
  dsimp only
  have hm : Looks g.M s.heap (mroOf (.ref 154)) [.ref 154, .ref 141, .type "tuple", .type "object"] := ((Looks.ld (part := none) e2).andThen .now).andThen .now
  generalize hA : (A.under (.builtin "type.__call__" ⟨[.ref 154, v1, v2, v3, v4, v5], []⟩)) = A' at *
  have rm' : Rm A' 1 := by
    subst hA
    refine ⟨rm.handled, ?_, ?_⟩
    · have := rm.depth
      have e : (Code.builtin "type.__call__" ⟨[.ref 154, v1, v2, v3, v4, v5], []⟩).weight = 1 := by rfl
      show A.depth + _ + 1 < _
      rw [e]; lia
    · have := rm.units
      have e : (Code.builtin "type.__call__" ⟨[.ref 154, v1, v2, v3, v4, v5], []⟩).cUnits ≤ 10 := by show (1 : Nat) ≤ 10; decide
      show A.units + _ + 10 * 1 + 200 < _
      lia
  have fs' : Fs A' W s := by
    subst hA
    obtain ⟨envs, e, h⟩ := fs
    exact ⟨envs, by unfold Around.under; rw [e]; rfl, h⟩
  rw [show ((Value.ref 154 == Value.type "type") : Bool) = false from rfl, if_neg (by decide)]
  refine wpAny_bind (hm.here ?_)
  rw [if_neg (by decide)]
  refine wpAny_bind ((looks_made2 e2).here ?_)
  dsimp only
  refine wpAny_bind (cls_bind w.k C.reads C.new (wpAny_call (sm_get (s := { s with toks := s.toks + 1 }) w.k C.sm (handed_on rfl ?_))))
  have k0 : Kept W s { s with toks := s.toks + 1 } := .toks
  refine wpAny_bind (wpAny_holding (enew_call C F bT rm' (w.kept k0) (fs'.kept k0) (r1.kept k0) (r2.kept k0) (r3.kept k0) (r4.kept k0) (r5.kept k0) fun x s₁ k1 rx => ?_))
  have kk := k0.trans k1
  have w1 := w.kept kk
  obtain ⟨as, rr⟩ := rx
  obtain ⟨o, ex, ec⟩ : ∃ o, s₁.heap.get? x = some o ∧ o.cls = .ref 154 := by
    cases rr with
    | entry e c d h => exact ⟨_, of_hideAll _ e, c⟩
  have t1 : Looks g.M s₁.heap (typeOf (.ref x)) (.ref 154) := by rw [← ec]; exact (Looks.ld ex).andThen .now
  have e3 := w1.k _ _ C.h154
  have i1 := looks_findIn (M := g.M) w1.k C.init
  have m1 := looks_made2 (M := g.M) e3
  have sub1 : Looks g.M s₁.heap (isSubtype (.ref 154) (.ref 154)) true := looks_mroIn w1.k (by unfold mroIn clsIn; rw [C.h154]; rfl)
  have sub2 : Looks g.M s₁.heap (isSubtype (.ref 154) (.type "object")) true := looks_mroIn w1.k (by unfold mroIn clsIn; rw [C.h154]; rfl)
  have in1 : Looks g.M s₁.heap (isInstance (.ref x) (.ref 154)) true := t1.andThen sub1
  refine wpAny_bind (in1.here ?_)
  rw [if_neg (by decide)]
  refine wpAny_bind (wpAny_holding ?_)
  refine wpAny_bind (wpAny_bind (t1.here (i1.here (wpAny_holding (wpAny_bind ((Looks.of_pure (oi_bind (.ref x))).here (wpAny_bind (wpAny_call (codeAny_call_builtin oi_plain entry_oi (@check_slot g.M _ _ _ "object.__init__" "object" "__init__" (.ref x) _ [] _ oi_kind oi_split (t1.andThen sub2) (oi6 ..) ((oi_quiet t1 i1 m1).here (wpAny_pure ?_)))))))))))) 
  exact wpAny_pure (hQ x s₁ kk ⟨as, rr⟩)
end
end Mine

/- Attr -/
namespace Mine
open PySem PySem.W PySem.Calls PySem.Spec PyProof.Rows
set_option Elab.async false
set_option linter.unusedVariables false
set_option maxRecDepth 100000
set_option maxHeartbeats 4000000

theorem slot_fga : Slot "function" "__getattribute__" "object.__getattribute__" :=
  .of (owner := "object") (n := "__getattribute__") (by rw [typeLookup_type, builtinLookup_eq_fast]; kernel_rfl) (by decide +kernel) (by decide +kernel) (by decide +kernel)
    (by first | exact .inl (by decide +kernel) | exact .inr (by decide +kernel)) (by rw [isSubtype_type]; kernel_rfl)
theorem entry_oga : entryFor table "object.__getattribute__" = some Builtin.«object.__getattribute__» := entryFor_of_tree (by kernel_rfl)
theorem args_oga (a b : Value) : argsOk "object.__getattribute__" ⟨[a, b], []⟩ := by unfold argsOk; kernel_rfl
theorem lk_fn_co : typeLookup (.type "function") "co_exceptiontable" = pure none := by rw [typeLookup_type, builtinLookup_eq_fast]; kernel_rfl

section
variable {prog : Program} {w : World} {A : Around} {E : Value → Shared → Prop} {s : Shared}

theorem fn_attr {a dA : Addr} {o : Obj} {fd : FuncData} {m : Str → Option Value} {v : Value} {Q : Value → Shared → Prop} (e : s.heap.get? a = some o) (ec : o.cls = .type "function") (ed : o.data = .func fd) (edA : o.dict = some dA)
    (hn : s.heap.Ns dA m) (hm : m "co_exceptiontable" = some v) (hv : handedIn v = true) (h : Q v { s with toks := s.toks + 1 }) : wpAny (model prog w) A (getAttr (.ref a) "co_exceptiontable" true) Q E s := by
  obtain ⟨hp, g, d, tk, os⟩ := s
  obtain ⟨c, dct, dat, sl⟩ := o
  simp only at ec ed edA
  subst ec ed edA
  have hT : ∀ tk', (⟨hp, g, d, tk', os⟩ : Shared).TypeIs (.ref a) "function" := fun _ => ⟨_, e, rfl⟩
  have f3 := slot_fga.lookup
  have f4 := slot_fga.bind (.ref a)
  have f5 := lk_fn_co
  unfold getAttr getAttrBy
  repeat (any_goals (first | assumption | exact hT _ | wp_step))
  dsimp only at e hn h
  refine codeAny_call_builtin slot_fga.plain entry_oga (slot_fga.check _ _ _ _ _ _ _ _ (hT _) (args_oga _ _) ?_)
  unfold Builtin.«object.__getattribute__»
  repeat (any_goals (first | assumption | exact hT _ | (with_reducible refine wpAny_nsGet hn ?_) | wp_step))
  rw [hm]
  dsimp only
  refine wpAny_bind (wpAny_rule (wpAny_pure (wpAny_pure ?_)))
  show wpAny _ _ (handedOut v) _ _ _
  rw [handedOut_of hv]
  exact wpAny_pure h

/-- iter of octets -/
theorem iter_bytes {b : Array UInt8} {t : Tok} {Q : Value → Shared → Prop} (h : Q (.ref s.heap.objs.size) { s with heap := s.heap.push { cls := .type "bytes_iterator", data := .fields #[.bytes b t, .int 0 0] } }) : wpAny (model prog w) A (call (.builtin "iter") [.bytes b t]) Q E s := by
  refine call_function_entry (by decide +kernel) (by decide +kernel) kdk_entry_iter (kdk_args_iter _) ?_
  unfold Builtin.«iter»
  refine wpAny_bind (m := someArgs "iter" 1 2 _) (wpAny_of_eq (a := [Value.bytes b t]) (by first | rfl | kernel_rfl!) ?_)
  exact wpAny_bind (KBw.pyIter_bytes (wpAny_pure ⟨_, rfl, h⟩))
end
end Mine

/- Tab1 -/
namespace Mine
open PySem PySem.W PySem.Calls PySem.Spec PyProof.Rows
set_option Elab.async false
set_option linter.unusedVariables false
set_option maxRecDepth 100000
set_option maxHeartbeats 1000000

theorem vgo_len : ∀ (l : List Nat) (b v n : Nat) (r : List Nat), vgo b v l = some (n, r) → r.length ≤ l.length
  | [], b, v, n, r, h => by
    unfold vgo at h; split at h
    · cases h; exact Nat.le_refl _
    · cases h
  | c :: l, b, v, n, r, h => by
    unfold vgo at h; split at h
    · cases h; exact Nat.le_refl _
    · exact Nat.le_succ_of_le (vgo_len l _ _ _ _ h)
theorem vint_len {l r : List Nat} {n : Nat} (h : vint l = some (n, r)) : r.length < l.length := by
  cases l with
  | nil => cases h
  | cons b l => exact Nat.lt_succ_of_le (vgo_len _ _ _ _ _ h)

/-- the entries that a table holds -/
def ents : Nat → List Nat → List (Nat × Nat × Nat × Nat)
  | 0, _ => []
  | k + 1, l => match vint l with
    | none => []
    | some (a, l1) => match vint l1 with
      | none => []
      | some (b, l2) => match vint l2 with
        | none => []
        | some (c, l3) => match vint l3 with
          | none => []
          | some (d, l4) => (a, b, c, d) :: ents k l4
def entP (q : Nat × Nat × Nat × Nat) : PyData := entD [pI (2 * q.1), pI (2 * q.1 + 2 * q.2.1), pI (2 * q.2.2.1), pI (q.2.2.2 / 2), .bool (decide (q.2.2.2 % 2 = 1))]

section
variable {g : Gd} {A : Around} {env : Env} {ρ ρ' : Rho} {pos : Pos} {W : List Addr} {s₀ s : Shared} {I D : Addr} {l : List Nat} {j : Nat} {ds : List PyData}

/-- in _parse_exception_table -/
structure Tb (g : Gd) (A : Around) (env : Env) (W : List Addr) (s₀ : Shared) (I D : Addr) (l : List Nat) (ds : List PyData) (ρ : Rho) (j : Nat) (s : Shared) : Prop where
  i : In g A env ρ [D, I, env.locals] W s₀ s
  nm : Has env s.heap "iterator" (.ref I)
  bi : Bi s.heap I l j
  ow : Ow env "entries" D ds ([D, I, env.locals] ++ W) s
  ne : D ≠ I
theorem Tb.neT (x : Tb g A env W s₀ I D l ds ρ j s) : I ≠ tT := x.i.neT (a := I) (by simp)
theorem Tb.neL (x : Tb g A env W s₀ I D l ds ρ j s) : I ≠ env.locals := fun q => by
  obtain ⟨m, o2, es, ep, e2, ed2, _⟩ := x.i.ns
  obtain ⟨o, vs, e, ed⟩ := x.bi.fields
  rw [← q, e] at e2; cases e2; rw [ed] at ed2; cases ed2
theorem Tb.kept {s' : Shared} (x : Tb g A env W s₀ I D l ds ρ j s) (k : Kept ([D, I, env.locals] ++ W) s s') : Tb g A env W s₀ I D l ds ρ j s' :=
  ⟨x.i.step k, x.nm.kept k, let ⟨t, o, e, r, d⟩ := x.bi; ⟨t, o, k.exact x.neT e (fun es ep q => by rw [d] at q; cases q), r, d⟩, Ow.stb.kept _ _ _ x.ow x.i.wo.wd.tW k, x.ne⟩
theorem Tb.sub (x : Tb g A env W s₀ I D l ds ρ j s) (h : ∀ p ∈ ρ', p ∈ ρ) : Tb g A env W s₀ I D l ds ρ' j s := ⟨x.i.sub h, x.nm, x.bi, x.ow, x.ne⟩

theorem tb_store {x : Str} {v : Value} {d : PyData} (pe : Pe env) (c : Tb g A env W s₀ I D l ds ρ j s) (hx : env.kindOf x = some .local) (hne : ("iterator" : Str) ≠ x) (hne2 : ("entries" : Str) ≠ x) (r : Rd ([D, I, env.locals] ++ W) s v d)
    {M : Model} {E : Value → Shared → Prop} {Q : Unit → Shared → Prop} (h : ∀ s', Tb g A env W s₀ I D l ds (upd x d ρ) j s' → Q () s') : wpAny M A (storeName env x v) Q E s := by
  have hD : env.locals ≠ D := by obtain ⟨vs, n, hl, _⟩ := c.ow.ls; exact c.i.locNe hl
  refine c.i.store2 hx pe.fn (by rw [pe.nc]; intro _ h; cases h) fun h' hs hk hv i' => h _ ⟨i'.know hv (r.own (k := s.toks + 1) hs (by simp)), hk _ _ hne c.nm, ?_, ?_, c.ne⟩
  · obtain ⟨t, o, e, hc, hd⟩ := c.bi
    exact ⟨t, o, hs _ _ c.neL e, hc, hd⟩
  · obtain ⟨vs, n, hl, hr⟩ := c.ow.ls
    exact ⟨hk _ _ hne2 c.ow.nm, c.ow.nT, vs, n, hs _ _ (Ne.symm hD) hl, hr.own (k := s.toks + 1) hs (by simp)⟩

/-- the iterator turns -/
theorem Tb.turnI {H : Heap} (pe : Pe env) (x : Tb g A env W s₀ I D l ds ρ j s) (hs : Heap.SameBut I s.heap H) (hf : ∃ o vs, H.get? I = some o ∧ o.data = .fields vs) :
    In g A env ρ [D, I, env.locals] W s₀ { s with heap := H } ∧ Has env H "iterator" (.ref I) ∧ Ow env "entries" D ds ([D, I, env.locals] ++ W) { s with heap := H } := by
  have hs' := hs.extBut
  have hI : I ∈ [D, I, env.locals] := by simp
  have hIm : I ∈ [D, I, env.locals] ++ W := by simp
  have hc : ∀ c ∈ env.cells, c.2 ≠ I := by rw [pe.nc]; intro _ h; cases h
  obtain ⟨o', vs', e', ed'⟩ := hf
  obtain ⟨o, vs, e, ed⟩ := x.bi.fields
  refine ⟨⟨x.i.kept.own hs' (x.i.new I hI) x.neT, x.i.new, ⟨x.i.wo.wd.turn hs' hIm x.neT ⟨_, e'⟩, x.i.wo.fs.turn hs' (fun o2 es ep e2 ed2 => ?_), fun p hp => ?_⟩, ?_, x.i.loc, x.i.w0⟩, ?_, ?_⟩
  · rw [e] at e2; cases e2; rw [ed] at ed2; cases ed2
  · obtain ⟨v, y, r⟩ := x.i.wo.vs p hp
    exact ⟨v, y.turn hs' (Ne.symm x.neL) (fun c h => hc _ (mem_of_lookup h)), r.own hs' hIm⟩
  · obtain ⟨m, hn⟩ := x.i.ns
    exact ⟨m, hn.extBut hs' (Ne.symm x.neL)⟩
  · exact x.nm.turn hs' (Ne.symm x.neL) (fun c h => hc _ (mem_of_lookup h))
  · exact Ow.stb.turn _ _ I _ _ x.ow hIm (by simpa using Ne.symm x.ne) x.neL hc hs'

/-- a raise in the table's block -/
def Tx (g : Gd) (A : Around) (env : Env) (outer : List Env) (W : List Addr) (s₀ : Shared) (I D : Addr) (ds : List PyData) (v : Value) (s : Shared) : Prop :=
  ∃ sH, In g A env [] [D, I, env.locals] W s₀ sH ∧ Ow env "entries" D ds ([D, I, env.locals] ++ W) sH ∧ Xa env outer ([D, I, env.locals] ++ W) sH v s

/-- _parse_varint(iterator) -/
theorem tb_vint {fv : Addr} {cdv : Value} {outer : List Env} (hex : g.ex = false) (en : En env) (pe : Pe env) (F : Fd g "_parse_varint" 5 fv cdv) (bN : Bn g "next" (.builtin "next")) (h128 : ∀ n ∈ l, n < 128) (hl : l.length ≤ 1000) (rm : Rm A 1) (hfr : A.frames = some (env :: outer))
    (c : Tb g A env W s₀ I D l ds ρ j s) (hk : env.kindOf "_parse_varint" = some .globalImplicit) {np ip : Pos} {E : Value → Shared → Prop} {Q : Value → Shared → Prop}
    (h : ∀ n v s' j', vint (l.drop j) = some (n, l.drop j') → Tb g A env W s₀ I D l ds ρ j' s' → Rd ([D, I, env.locals] ++ W) s' v (pI n) → Q v s')
    (hE : ∀ v s', vint (l.drop j) = none → Tx g A env outer W s₀ I D ds v s' → E v s') :
    wpAny g.M A (eval (.Call (.Name "_parse_varint" np) [.Name "iterator" ip] [] pos) env) Q E s := by
  obtain ⟨oc, od, osl, doc, pm, an, ct, eo⟩ := F.ob
  refine Call_Name1 (name_fn c.i.wo.wd en F.at_ hk (callWith_function (o := ⟨oc, od, .func (fnX "_parse_varint" "_parse_varint" (fArgs 5) (fBody 5) (fScope 5) [] .none .none doc pm an cdv ct), osl⟩) (fd := fnX "_parse_varint" "_parse_varint" (fArgs 5) (fBody 5) (fScope 5) [] .none .none doc pm an cdv ct)
    (evalArgs_plain (spliced_cons (Has.name pe.fn c.nm (by decide) (spliced_nil ?_))))) (by decide)) rfl
  refine ⟨⟨c.i.wo.wd.k _ _ eo, rfl⟩, vint_call hex F bN h128 hl rm c.i.wo.wd c.i.wo.fs (by simp) c.neT c.bi hfr (fun n v H s' j' hv sm hf bi' k r => ?_) (fun v H s' hv sm hf gn => ?_)⟩
  · obtain ⟨i', nm', ow'⟩ := c.turnI pe sm hf
    exact h n v s' j' hv ⟨i'.step k, nm'.kept k, bi', Ow.stb.kept _ _ _ ow' i'.wo.wd.tW k, c.ne⟩ r
  · obtain ⟨i', nm', ow'⟩ := c.turnI pe sm hf
    obtain ⟨e, B, a0, rfl, xc, fl⟩ := gn
    exact hE _ s' hv ⟨_, i'.sub (fun _ h => nomatch h), ow', e, B, a0, rfl, xc, .fly fl⟩

theorem tx_passes {outer : List Env} {v : Value} (hfr : A.frames = some (env :: outer)) (nm : ¬ Mk ([D, I, env.locals] ++ W)) (x : Tx g A env outer W s₀ I D ds v s) : notedBy g.M A env (cameBackBy g.M A env (Tx g A env outer W s₀ I D ds)) v s := by
  obtain ⟨sH, i, ow, xa⟩ := x
  exact noted_mono (fun v s' y => ⟨sH, i, ow, y⟩) (xa_passes hfr nm xa)
end
end Mine

/- Tab2 -/
namespace Mine
open PySem PySem.W PySem.Calls PySem.Spec PyProof.Rows
set_option Elab.async false
set_option linter.unusedVariables false
set_option maxRecDepth 100000
set_option maxHeartbeats 1000000

section
variable {g : Gd} {A : Around} {env : Env} {ρ ρ' : Rho} {pos : Pos} {W : List Addr} {s₀ s : Shared} {I D : Addr} {l : List Nat} {j : Nat} {ds : List PyData}

theorem Ce.keep (C : Ce g) : keepIn g.K (.ref 154) = true := by
  unfold keepIn; dsimp only; rw [C.h154]
  show (specialIn g.K (.ref 154) "__call__" == _) = true
  rw [C.call]; exact beq_self_eq_true _

theorem ex_entry {cdv : Value} (n : En env) (C : Ce g) (F : Fq g 82 "__new__" "_ExceptionTableEntryBase.__new__" (argsOf newSt) (bodyOf newSt) (scopeOf newSt) cdv) (bT : Bn g "tuple" (.type "tuple")) (e154 : nsIn g.K mainGlobals "_ExceptionTableEntry" = some (some (.ref 154))) (rm : Rm A 2)
    {x : Str} {np : Pos} {e1 e2 e3 e4 e5 : Expr} {d1 d2 d3 d4 d5 : PyData} (hn : x = "_ExceptionTableEntry") (hx : env.kindOf x = some .globalImplicit) (h1 : Ex g A env ρ e1 d1) (h2 : Ex g A env ρ e2 d2) (h3 : Ex g A env ρ e3 d3) (h4 : Ex g A env ρ e4 d4) (h5 : Ex g A env ρ e5 d5)
    (hs : starEach [e1, e2, e3, e4, e5] env = [(false, eval e1 env), (false, eval e2 env), (false, eval e3 env), (false, eval e4 env), (false, eval e5 env)]) : Ex g A env ρ (.Call (.Name x np) [e1, e2, e3, e4, e5] [] pos) (entD [d1, d2, d3, d4, d5]) := .mk fun W s w E Q h => by
  subst hn
  refine Call_Name (by rw [hs]; rfl) (name_fn w.wd n e154 hx (callWith_of (P := fun h => g.K.In h) rfl (keeps_K C.keep) (evalArgs_plain (spliced_cons (h1.run W s w E _ fun v1 s1 k1 r1 => ?_)))) (by decide))
  have w1 := w.kept k1
  refine spliced_cons (h2.run W s1 w1 E _ fun v2 s2 k2 r2 => ?_)
  have w2 := w1.kept k2
  refine spliced_cons (h3.run W s2 w2 E _ fun v3 s3 k3 r3 => ?_)
  have w3 := w2.kept k3
  refine spliced_cons (h4.run W s3 w3 E _ fun v4 s4 k4 r4 => ?_)
  have w4 := w3.kept k4
  refine spliced_cons (h5.run W s4 w4 E _ fun v5 s5 k5 r5 => spliced_nil ⟨(w4.kept k5).wd.k, ?_⟩)
  have w5 := w4.kept k5
  exact entry_call C F bT rm w5.wd w5.fs ((((r1.kept k2).kept k3).kept k4).kept k5) (((r2.kept k3).kept k4).kept k5) ((r3.kept k4).kept k5) (r4.kept k5) r5 fun x s6 k6 r6 => h _ _ (((((k1.trans k2).trans k3).trans k4).trans k5).trans k6) r6

theorem ex_shr1 {l : Expr} {a : Nat} {k : Nat} {q : Pos} (hl : Ex g A env ρ l (pI a)) : Ex g A env ρ (.BinOp l .RShift (.Constant (.int 1) k q) pos) (pI (a / 2)) :=
  ex_binop hl ex_int fun W s v u _ r1 r2 E Q h => by
    obtain ⟨t, rfl⟩ := r1.int_inv; obtain ⟨t', rfl⟩ := r2.int_inv
    refine PyProof.Rows.rshift_int (by decide) (h _ _ .toks ?_)
    rw [show ((a : Int).fdiv (2 ^ (1 : Int).toNat)) = ((a / 2 : Nat) : Int) from fdiv_nat a 2]
    exact .int

theorem tb_set {x : Str} {px : Pos} {e : Expr} {d : PyData} {rest : List Stmt} (pe : Pe env) (c : Tb g A env W s₀ I D l ds ρ j s) (hx : env.kindOf x = some .local) (hne : ("iterator" : Str) ≠ x) (hne2 : ("entries" : Str) ≠ x) (hw : swapsWith e (some (.Name x px)) pos.line env = pure false) (he : Ex g A env ρ e d)
    {E : Value → Shared → Prop} {Q : Flow → Shared → Prop} (h : ∀ s', Tb g A env W s₀ I D l ds (upd x d ρ) j s' → wpAny g.M A (execs rest env) Q E s') : wpAny g.M A (execs (.Assign [.Name x px] e pos :: rest) env) Q E s :=
  wpAny_execs_cons (wpAny_Assign_Name (he.run _ s c.i.wo E _ fun v s₁ k r => tb_store pe (c.kept k) hx hne hne2 r fun s' c' => h s' c') hw)

/-- x = _parse_varint(iterator) -/
theorem tb_one {fv : Addr} {cdv : Value} {outer : List Env} (hex : g.ex = false) (en : En env) (pe : Pe env) (F : Fd g "_parse_varint" 5 fv cdv) (bN : Bn g "next" (.builtin "next")) (h128 : ∀ n ∈ l, n < 128) (hl : l.length ≤ 1000) (rm : Rm A 1) (hfr : A.frames = some (env :: outer))
    (c : Tb g A env W s₀ I D l ds ρ j s) (hk : env.kindOf "_parse_varint" = some .globalImplicit) {x : Str} {px np ip cp : Pos} {rest : List Stmt} (hx : env.kindOf x = some .local) (hne : ("iterator" : Str) ≠ x) (hne2 : ("entries" : Str) ≠ x)
    (hw : swapsWith (.Call (.Name "_parse_varint" np) [.Name "iterator" ip] [] cp) (some (.Name x px)) pos.line env = pure false) {E : Value → Shared → Prop} {Q : Flow → Shared → Prop}
    (h : ∀ n s' j', vint (l.drop j) = some (n, l.drop j') → Tb g A env W s₀ I D l ds (upd x (pI n) ρ) j' s' → wpAny g.M A (execs rest env) Q E s')
    (hE : ∀ v s', vint (l.drop j) = none → Tx g A env outer W s₀ I D ds v s' → E v s') :
    wpAny g.M A (execs (.Assign [.Name x px] (.Call (.Name "_parse_varint" np) [.Name "iterator" ip] [] cp) pos :: rest) env) Q E s :=
  wpAny_execs_cons (wpAny_Assign_Name (tb_vint hex en pe F bN h128 hl rm hfr c hk (fun n v s' j' hv c' r => tb_store pe c' hx hne hne2 r fun s'' c'' => h n s'' j' hv c'') hE) hw)

/-- x = _parse_varint(iterator) * 2 -/
theorem tb_dbl {fv : Addr} {cdv : Value} {outer : List Env} (hex : g.ex = false) (en : En env) (pe : Pe env) (F : Fd g "_parse_varint" 5 fv cdv) (bN : Bn g "next" (.builtin "next")) (h128 : ∀ n ∈ l, n < 128) (hl : l.length ≤ 1000) (rm : Rm A 1) (hfr : A.frames = some (env :: outer))
    (c : Tb g A env W s₀ I D l ds ρ j s) (hk : env.kindOf "_parse_varint" = some .globalImplicit) {x : Str} {px np ip cp bp q : Pos} {kk : Nat} {rest : List Stmt} (hx : env.kindOf x = some .local) (hne : ("iterator" : Str) ≠ x) (hne2 : ("entries" : Str) ≠ x)
    (hw : swapsWith (.BinOp (.Call (.Name "_parse_varint" np) [.Name "iterator" ip] [] cp) .Mult (.Constant (.int 2) kk q) bp) (some (.Name x px)) pos.line env = pure false) {E : Value → Shared → Prop} {Q : Flow → Shared → Prop}
    (h : ∀ n s' j', vint (l.drop j) = some (n, l.drop j') → Tb g A env W s₀ I D l ds (upd x (pI (2 * n)) ρ) j' s' → wpAny g.M A (execs rest env) Q E s')
    (hE : ∀ v s', vint (l.drop j) = none → Tx g A env outer W s₀ I D ds v s' → E v s') :
    wpAny g.M A (execs (.Assign [.Name x px] (.BinOp (.Call (.Name "_parse_varint" np) [.Name "iterator" ip] [] cp) .Mult (.Constant (.int 2) kk q) bp) pos :: rest) env) Q E s := by
  refine wpAny_execs_cons (wpAny_Assign_Name (wpAny_BinOp (tb_vint hex en pe F bN h128 hl rm hfr c hk (fun n v s' j' hv c' r => ?_) hE)) hw)
  refine (ex_int (g := g) (A := A) (env := env) (ρ := ρ)).run _ s' c'.i.wo _ _ fun u s₂ k₂ r₂ => ?_
  have c₂ := c'.kept k₂
  obtain ⟨t, rfl⟩ := r.int_inv
  obtain ⟨t', rfl⟩ := r₂.int_inv
  refine P.mul_int ?_ (IntMulOk.of_right (by decide))
  have e : ((n : Nat) : Int) * 2 = ((2 * n : Nat) : Int) := by lia
  rw [e]
  exact tb_store pe (c₂.kept (.toks (k := s₂.toks + 1))) hx hne hne2 .int fun s'' c'' => h n s'' j' hv c''
end
end Mine

/- Tab3 -/
namespace Mine
open PySem PySem.W PySem.Calls PySem.Spec PyProof.Rows
set_option Elab.async false
set_option linter.unusedVariables false
set_option maxRecDepth 100000
set_option maxHeartbeats 4000000

theorem stop_exc : isSubtype (.type "StopIteration") (.type "BaseException") = pure true := by rw [isSubtype_type]; kernel_rfl
theorem stop_meta : isSubtype (.type ((Manifest.find? "StopIteration").elim "type" fun x => x.metatype)) (.type "tuple") = pure false := by kernel_rfl
theorem stop_self : isSubtype (.type "StopIteration") (.type "StopIteration") = pure true := by rw [isSubtype_type]; kernel_rfl

section
variable {g : Gd} {A : Around} {env : Env} {ρ ρ' : Rho} {pos : Pos} {N W : List Addr} {s₀ s : Shared} {I D : Addr} {l : List Nat} {j : Nat} {ds : List PyData}

theorem In.mark {h : Option Value} (i : In g A env ρ N W s₀ s) : In g (A.mark h) env ρ N W s₀ s := ⟨i.kept, i.new, ⟨i.wo.wd, i.wo.fs, i.wo.vs⟩, i.ns, i.loc, i.w0⟩

theorem Xc.to {l : List Env} {M : List Addr} {sH s : Shared} {B h' : Heap} (x : Xc l M sH B s) (st : B.StaysIn h') (up : s.heap.UpToSlots h') (nm : ¬ Mk M) : Xc l M sH B { s with heap := h' } := x.up (k := s.toks) st up nm

/-- except StopIteration: return entries -/
theorem tb_catch {outer : List Env} {v : Value} (en : En env) (pe : Pe env) (bS : Bn g "StopIteration" (.type "StopIteration")) (hk : env.kindOf "StopIteration" = some .globalImplicit) (hfr : A.frames = some (env :: outer)) (nm : ¬ Mk ([D, I, env.locals] ++ W)) (x : Tx g A env outer W s₀ I D ds v s) (hDI : D ≠ I) (hDL : D ≠ env.locals)
    {np rp ep hp : Pos} {E : Value → Shared → Prop} {Q : Flow → Shared → Prop} (h : ∀ u s', Kept W s₀ s' → Rd W s' u (.list ds) → Q (.ret u) s') :
    wpAny g.M A (noteFrame v env) (fun _ s₂ => wpAny g.M A (setFlight v none) (fun _ s₃ => wpAny g.M A (handleBy v env [.ExceptHandler (some (.Name "StopIteration" np)) none [.Return (some (.Name "entries" ep)) rp] hp]) Q E s₃) E s₂) E s := by
  obtain ⟨sH, i, ow, xa⟩ := x
  refine xa_note hfr nm xa fun s₁ e B a0 L hv hf xc hh => ?_
  subst hv
  refine wpAny_landsW hh fun h₂ fl₂ up₂ => ?_
  have xc₂ := xc.to fl₂.1 up₂ nm
  refine wpAny_handleBy_builtin (X := "StopIteration") (T := "StopIteration") (b := true) stop_exc stop_meta stop_self ?_
  have i₂ := i.step xc₂.kept
  refine name_blt i₂.wo.wd en bS hk ⟨rfl, ?_, ?_⟩
  · obtain ⟨ob, ho, hc⟩ := fl₂.there
    exact ⟨ob, ho, hc⟩
  rw [if_pos rfl]
  refine lands_againW fl₂ fun h₃ fl₃ up₃ => ?_
  have xc₃ := xc₂.to fl₃.1 up₃ nm
  have i₃ := i.step xc₃.kept
  have ow₃ := Ow.stb.kept _ _ _ ow i.wo.wd.tW xc₃.kept
  have i₄ : In g A env [("entries", .list ds)] [I, env.locals] W s₀ _ := i₃.frozen ow₃ (by simp [hDI, hDL])
  have i₅ := i₄.mark (h := some (.ref e))
  refine wpAny_execs_cons (wpAny_Return_some ((ex_v (g := g) (A := A.mark (some (.ref e))) (env := env) (ρ := [("entries", .list ds)]) (x := "entries") (d := .list ds) pe.fn rfl).run _ _ i₅.wo _ _ fun u s₅ k₅ r₅ => ?_))
  have i₆ := i₅.step k₅
  exact h u s₅ i₆.kept (r₅.less fun a ha => List.mem_append_right _ ha)
end
end Mine

/- Tab4 -/
namespace Mine
open PySem PySem.W PySem.Calls PySem.Spec PyProof.Rows
set_option Elab.async false
set_option linter.unusedVariables false
set_option maxRecDepth 100000
set_option maxHeartbeats 4000000

theorem tabD_inj {l l' : List Nat} (h : tabD l = tabD l') : l = l' := by
  unfold tabD at h
  have h1 := PyData.dict.inj h
  have h2 := (List.cons.inj h1).1
  have h3 := PyData.list.inj (Prod.mk.inj h2).2
  exact (List.map_inj_right (fun a b q => by injection q with q; lia)).mp h3
theorem Rd.code_inv {W : List Addr} {s : Shared} {v : Value} {l : List Nat} (x : Rd W s v (tabD l)) : ∃ a o fd dA m t, v = .ref a ∧ s.heap.get? a = some o ∧ o.cls = .type "function" ∧ o.data = .func fd ∧ o.dict = some dA ∧ s.heap.Ns dA m ∧ m "co_exceptiontable" = some (.bytes (octB l) t) := by
  obtain ⟨as, r⟩ := x
  generalize hd : tabD l = d at r
  cases r with
  | code e ec ed edA hn hm =>
    have := tabD_inj hd; subst this
    obtain ⟨o2, es, ep, e2, rest⟩ := hn
    exact ⟨_, _, _, _, _, _, rfl, of_hideAll _ e, ec, ed, edA, ⟨o2, es, ep, of_hideAll _ e2, rest⟩, hm⟩
  | entry _ _ _ _ => unfold tabD at hd; have := (List.cons.inj (PyData.dict.inj hd)).1; cases (Prod.mk.inj this).1
  | _ => unfold tabD at hd; cases hd

theorem ents_len : ∀ (k : Nat) (l : List Nat), (ents k l).length ≤ k
  | 0, l => Nat.le_refl _
  | k + 1, l => by
    unfold ents
    split
    · simp
    · split
      · simp
      · split
        · simp
        · split
          · simp
          · have := ents_len k; simp; exact this _

section
variable {g : Gd} {A : Around} {env : Env} {ρ ρ' : Rho} {pos : Pos} {W : List Addr} {s₀ s : Shared} {I D : Addr} {l : List Nat} {j : Nat} {ds : List PyData}

theorem tb_app {e : Expr} {d : PyData} {px apos p2 : Pos} {rest : List Stmt} (pe : Pe env) (c : Tb g A env W s₀ I D l ds ρ j s) (hz : ds.length ≤ sizeLine) (he : Ex g A env ρ e d)
    (hbase : attributeBase (.Name "entries" px) "append" env (eval (.Name "entries" px) env) = eval (.Name "entries" px) env) (hs : starEach [e] env = [(false, eval e env)]) (hline : (apos.endLine == pos.line) = true) (hi : interactive env = false) (hsw : swapsWith (.Call (.Attribute (.Name "entries" px) "append" apos) [e] [] pos) none p2.line env = pure false)
    {E : Value → Shared → Prop} {Q : Flow → Shared → Prop} (h : ∀ s', Tb g A env W s₀ I D l (ds ++ [d]) ρ j s' → wpAny g.M A (execs rest env) Q E s') : wpAny g.M A (execs (.Expr (.Call (.Attribute (.Name "entries" px) "append" apos) [e] [] pos) p2 :: rest) env) Q E s := by
  obtain ⟨vs, n, hl, hr⟩ := c.ow.ls
  have hc : ∀ c ∈ env.cells, c.2 ≠ D := by rw [pe.nc]; intro _ h; cases h
  refine next_cons (app_stmt c.i (by simp) hl (by rw [hr.length]; exact hz) hc (fun E' Q' hq => Has.name pe.fn c.ow.nm (by decide) (hq s (.refl ..))) he hbase hs hline hi hsw fun s₁ h' v k₁ r₁ hs' hl' i' => ⟨rfl, h _ ⟨i', ?_, ?_, ⟨?_, c.ow.nT, vs ++ [v], n + 1, hl', ?_⟩, c.ne⟩⟩)
  · exact (c.nm.kept k₁).turn hs' (c.i.locNe hl) fun c e => hc _ (mem_of_lookup e)
  · obtain ⟨t, o, e, hcl, hd⟩ := (c.kept k₁).bi
    exact ⟨t, o, hs' _ _ (Ne.symm c.ne) e, hcl, hd⟩
  · exact (c.ow.nm.kept k₁).turn hs' (c.i.locNe hl) fun c e => hc _ (mem_of_lookup e)
  · exact ((hr.kept k₁).snoc r₁).own (k := s₁.toks) hs' (by simp)
end

/-- what the table's reading needs of the ground -/
structure Tg (g : Gd) : Prop where
  C : Ce g
  F : ∃ cdv, Fq g 82 "__new__" "_ExceptionTableEntryBase.__new__" (argsOf newSt) (bodyOf newSt) (scopeOf newSt) cdv
  V : ∃ fv cdv, Fd g "_parse_varint" 5 fv cdv
  bT : Bn g "tuple" (.type "tuple")
  e154 : nsIn g.K mainGlobals "_ExceptionTableEntry" = some (some (.ref 154))
  bN : Bn g "next" (.builtin "next")
  bI : Bn g "iter" (.builtin "iter")
  bB : Bn g "bool" (.type "bool")
  bS : Bn g "StopIteration" (.type "StopIteration")

theorem tab_sp {g : Gd} {f : Addr} {cdv : Value} (hex : g.ex = false) (F : Fd g "_parse_exception_table" 6 f cdv) (G : Tg g) {l : List Nat} (h128 : ∀ n ∈ l, n < 128) (hl : l.length ≤ 900) : Sp1 g f 3 (tabD l) (.list ((ents (l.length + 1) l).map entP)) := by
  intro A W s v rm w fs rd E Q hQ
  obtain ⟨cd82, F82⟩ := G.F
  obtain ⟨fv, cdv5, F5⟩ := G.V
  obtain ⟨outer, hfr, _⟩ := id fs
  refine enter1R F (p := "code") (fun _ _ _ _ _ => rfl) rfl (by decide) rfl rfl rfl rm w fs fun s₁ L rm' i nm hk₀ => ?_
  generalize henv : envX "_parse_exception_table" (fScope 6) L f cdv [] = env at *
  have pe : Pe env := henv ▸ ⟨rfl, rfl⟩
  have en : En env := henv ▸ ⟨rfl, rfl, rfl⟩
  have hL : env.locals = L := henv ▸ rfl
  have hin : interactive env = false := henv ▸ rfl
  have kIt : env.kindOf "iterator" = some .local := henv ▸ rfl
  have kEn : env.kindOf "entries" = some .local := henv ▸ rfl
  have kst : env.kindOf "start" = some .local := henv ▸ rfl
  have kle : env.kindOf "length" = some .local := henv ▸ rfl
  have ken : env.kindOf "end" = some .local := henv ▸ rfl
  have kta : env.kindOf "target" = some .local := henv ▸ rfl
  have kdl : env.kindOf "dl" = some .local := henv ▸ rfl
  have kde : env.kindOf "depth" = some .local := henv ▸ rfl
  have kla : env.kindOf "lasti" = some .local := henv ▸ rfl
  have kit : env.kindOf "iter" = some .globalImplicit := henv ▸ rfl
  have kV : env.kindOf "_parse_varint" = some .globalImplicit := henv ▸ rfl
  have kB : env.kindOf "bool" = some .globalImplicit := henv ▸ rfl
  have kE : env.kindOf "_ExceptionTableEntry" = some .globalImplicit := henv ▸ rfl
  have kS : env.kindOf "StopIteration" = some .globalImplicit := henv ▸ rfl
  have hcells : ∀ c ∈ env.cells, c.2 ≠ env.locals := by rw [pe.nc]; intro _ h; cases h
  have hfr' : (A.deeper env).frames = some (env :: outer) := Around.frames_deeper hfr
  have nmk : ∀ {W : List Addr} {s : Shared}, Wd g W s → ¬ Mk W := fun w hm => by rw [w.mode.mp hm] at hex; cases hex
  rw [← hL] at i
  have hN0 : ∀ a ∈ [env.locals], s.heap.get? a = none := fun a ha => i.new a ha
  have rd₁ := rd.grow i.kept.keep hN0
  obtain ⟨a, o, fd, dA, m, t, rfl, e, ec, ed, edA, hn, hm⟩ := rd₁.code_inv
  refine wpAny_execs_cons (wpAny_Assign_Name (Call_Name1 (name_blt i.wo.wd en G.bI kit (callWith_builtin rfl (evalArgs_plain (spliced_cons (Attribute_name (Has.name pe.fn nm (by decide) (fn_attr e ec ed edA hn hm rfl (spliced_nil (iter_bytes ?_))))))))) rfl) rfl)
  generalize hI : s₁.heap.objs.size = I
  generalize hh1 : s₁.heap.push { cls := .type "bytes_iterator", data := .fields #[.bytes (octB l) t, .int 0 0] } = h1
  have b1 : Bi h1 I l 0 := by rw [← hh1, ← hI]; exact ⟨t, _, Heap.get?_push_size _ rfl, rfl, rfl⟩
  have k1 : Kept ([env.locals] ++ W) s₁ { s₁ with heap := h1, toks := s₁.toks + 1 } := .keeps fun b o e => by rw [← hh1]; exact Heap.get?_push_of_some _ e
  have d0 : s₁.heap.get? I = none := Heap.get?_none_of_le (Nat.le_of_eq hI)
  have i1 : In g (A.deeper env) env [] [I, env.locals] W s _ := i.grow k1 d0 (let ⟨o, vs, e, _⟩ := b1.fields; ⟨o, e⟩)
  have IL : I ≠ env.locals := fun q => by
    obtain ⟨m, o2, es, ep, e2, ed2, _⟩ := i.ns
    rw [← q, d0] at e2; cases e2
  refine i1.store2 kIt pe.fn hcells fun h2 hs2 hk2 hv2 i2 => ?_
  have b2 : Bi (Shared.heap { s₁ with heap := h2, toks := s₁.toks + 1 + 1 }) I l 0 := let ⟨t, o, e, r, d⟩ := b1; ⟨t, o, hs2 _ _ IL e, r, d⟩
  have v2 : Has env (Shared.heap { s₁ with heap := h2, toks := s₁.toks + 1 + 1 }) "iterator" (.ref I) := hv2
  have i2 : In g (A.deeper env) env [] [I, env.locals] W s { s₁ with heap := h2, toks := s₁.toks + 1 + 1 } := i2
  show wpAny _ _ _ _ _ { s₁ with heap := h2, toks := s₁.toks + 1 + 1 }
  generalize ({ s₁ with heap := h2, toks := s₁.toks + 1 + 1 } : Shared) = s2 at i2 b2 v2
  clear hs2 hk2 hv2 i1 d0 k1 b1 hh1 hI rd₁ e hn nm hk₀ i
  refine next_cons (wpAny_Assign_Name (List_ (spliced_nil (wpAny_newObj_type ?_ (by show ([] : List Value).toArray.size ≤ sizeLine; simp)))) rfl)
  generalize hD : s2.heap.objs.size = D
  generalize hh1 : s2.heap.push { cls := .type "list", data := .seq ([] : List Value).toArray } = h1
  have ld : IsL h1 D ([] : List Value).toArray 0 := by rw [← hh1, ← hD]; exact IsL.new ..
  have k1 : Kept ([I, env.locals] ++ W) s2 { s2 with heap := h1 } := by rw [← hh1]; exact .push'
  have d0 : s2.heap.get? D = none := Heap.get?_none_of_le (Nat.le_of_eq hD)
  have i3 := i2.grow k1 d0 ⟨_, ld⟩
  have IT : I ≠ tT := i2.neT (a := I) (by simp)
  have DI : D ≠ I := fun q => by
    obtain ⟨o, vs, e, _⟩ := b2.fields
    rw [← q, d0] at e; cases e
  have b3 : Bi h1 I l 0 := let ⟨t, o, e, r, d⟩ := b2; ⟨t, o, k1.exact IT e (fun es ep q => by rw [d] at q; cases q), r, d⟩
  have v3 : Has env h1 "iterator" (.ref I) := v2.kept k1
  refine i3.store2 kEn pe.fn hcells fun h2 hs2 hk2 hv2 i4 => ⟨rfl, ?_⟩
  have DL := i3.locNe ld
  have c : Tb g (A.deeper env) env W s I D l [] [] 0 { s2 with heap := h2, toks := s2.toks + 1 } :=
    ⟨i4, hk2 _ _ (by decide) v3, let ⟨t, o, e, r, d⟩ := b3; ⟨t, o, hs2 _ _ IL e, r, d⟩, ⟨hv2, i3.neT (by simp), [], 0, hs2 _ _ (Ne.symm DL) ld, .nil⟩, DI⟩
  generalize ({ s2 with heap := h2, toks := s2.toks + 1 } : Shared) = s5 at c
  clear hs2 hk2 hv2 i4 i3 v3 b3 d0 k1 ld hh1 hD i2 b2 v2
  have nm5 := nmk c.i.wo.wd
  generalize hall : (ents (l.length + 1) l).map entP = all at *
  have hlen : all.length ≤ sizeLine := by
    have := ents_len (l.length + 1) l
    rw [← hall, List.length_map, sizeLine_eq]; lia
  refine wpAny_execs_cons (wpAny_Try_except (wpAny_mono (Q := fun _ _ => False) (E := Tx g (A.deeper env) env outer W s I D all) ?_ (fun _ _ h => h.elim) (fun v s' x => ?_)))
  · refine wpAny_execs_cons (wh_loopE (σ := Nat × Nat × List PyData) (fun a s' => Tb g (A.deeper env) env W s I D l a.2.2 [] a.2.1 s' ∧ a.2.2 ++ (ents a.1 (l.drop a.2.1)).map entP = all ∧ (l.drop a.2.1).length < a.1) (fun _ => true) (fun a => a.1) ?_ ?_ (a₀ := (l.length + 1, 0, [])) ⟨c, by simpa using hall, by simp⟩ ?_)
    · rintro ⟨k, j, ds⟩ s' E' Q' ⟨c, q⟩ hq
      exact (tt_bool ex_bool).run _ s' c.i.wo E' Q' fun s'' k => hq s'' ⟨c.kept k, q⟩
    · rintro ⟨k, j, ds⟩ s' ⟨c, q1, q2⟩ hc
      dsimp only at c q1 q2 ⊢
      obtain ⟨k, rfl⟩ : ∃ k', k = k' + 1 := ⟨k - 1, by lia⟩
      have hds : ds.length ≤ sizeLine := by
        have := congrArg List.length q1
        rw [List.length_append] at this
        lia
      have out : ents (k + 1) (l.drop j) = [] → ∀ v s'', Tx g (A.deeper env) env outer W s I D ds v s'' → notedBy g.M (A.deeper env) env (cameBackBy g.M (A.deeper env) env (Tx g (A.deeper env) env outer W s I D all)) v s'' := fun hn v s'' x => by
        have e : ds = all := by rw [hn] at q1; simpa using q1
        subst e
        exact tx_passes hfr' nm5 x
      refine tb_dbl hex en pe F5 G.bN h128 (by lia) (rm'.less (by decide)) hfr' c kV kst (by decide) (by decide) rfl (fun n1 s1 j1 hv1 c1 => ?_) fun v s'' hv x => out (by rw [ents, hv]) v s'' x
      refine tb_dbl hex en pe F5 G.bN h128 (by lia) (rm'.less (by decide)) hfr' c1 kV kle (by decide) (by decide) rfl (fun n2 s2 j2 hv2 c2 => ?_) fun v s'' hv x => out (by rw [ents, hv1]; dsimp only; rw [hv]) v s'' x
      refine tb_set (d := pI (2 * n1 + 2 * n2)) pe c2 ken (by decide) (by decide) rfl (en_add (ex_v pe.fn rfl) (ex_v pe.fn rfl)) fun s3 c3 => ?_
      refine tb_dbl hex en pe F5 G.bN h128 (by lia) (rm'.less (by decide)) hfr' c3 kV kta (by decide) (by decide) rfl (fun n3 s4 j3 hv3 c4 => ?_) fun v s'' hv x => out (by rw [ents, hv1]; dsimp only; rw [hv2]; dsimp only; rw [hv]) v s'' x
      refine tb_one hex en pe F5 G.bN h128 (by lia) (rm'.less (by decide)) hfr' c4 kV kdl (by decide) (by decide) rfl (fun n4 s5 j4 hv4 c5 => ?_) fun v s'' hv x => out (by rw [ents, hv1]; dsimp only; rw [hv2]; dsimp only; rw [hv3]; dsimp only; rw [hv]) v s'' x
      refine tb_set (d := pI (n4 / 2)) pe c5 kde (by decide) (by decide) rfl (ex_shr1 (ex_v pe.fn rfl)) fun s6 c6 => ?_
      refine tb_set (d := .bool (decide (n4 % 2 = 1))) pe c6 kla (by decide) (by decide) rfl ((ex_bool_int en G.bB kB (ex_and (a := (n4 : Nat)) (ex_v pe.fn rfl) ex_int) rfl (by decide)).is ?_) fun s7 c7 => ?_
      · rw [bitAnd_m1]
        congr 1
        by_cases h : n4 % 2 = 1
        · have e : (n4 : Int) % 2 = 1 := by lia
          rw [e]; simp [h]
        · have e : (n4 : Int) % 2 = 0 := by lia
          rw [e]; simp [h]
      refine tb_app pe c7 hds (ex_entry en G.C F82 G.bT G.e154 rm' rfl kE (ex_v pe.fn rfl) (ex_v pe.fn rfl) (ex_v pe.fn rfl) (ex_v pe.fn rfl) (ex_v pe.fn rfl) rfl) rfl rfl rfl hin rfl fun s8 c8 => ?_
      refine wpAny_execs_nil ⟨rfl, (k, j4, ds ++ [entP (n1, n2, n3, n4)]), Nat.lt_succ_self _, c8.sub (fun _ h => nomatch h), ?_, ?_⟩
      · rw [← q1]
        rw [ents, hv1]; dsimp only; rw [hv2]; dsimp only; rw [hv3]; dsimp only; rw [hv4]
        simp
      · have := vint_len hv1
        have := vint_len hv2
        have := vint_len hv3
        have := vint_len hv4
        dsimp only
        lia
    · intro a s' _ h; cases h
  · refine tb_catch en pe G.bS kS hfr' nm5 x DI (Ne.symm DL) fun u s' k r => ?_
    exact hQ u s' k r
end Mine

/- Ite -/
namespace Mine
open PySem PySem.W PySem.Calls PySem.Spec PyProof.Rows
set_option Elab.async false
set_option linter.unusedVariables false
set_option maxRecDepth 100000
set_option maxHeartbeats 4000000

theorem ti_kind : builtinKind "tuple.__iter__" = some .slot := by decide +kernel
theorem ti_split : splitId "tuple.__iter__" = some ("tuple", "__iter__") := by kernel_rfl
theorem ti_plain : plainId "tuple.__iter__" = true := by decide +kernel

/-- the items of an object of a tuple's class -/
def SeqAt (h : Heap) (t : Addr) (vs : Array Value) : Prop := ∃ o n, h.get? t = some o ∧ o.data = .seq vs n

section
variable {prog : Program} {w : World} {A : Around} {E : Value → Shared → Prop} {s : Shared}

theorem entry_item {it t : Addr} {i : Nat} {items : Array Value} {x : Value} {Q : Option Value → Shared → Prop} (hit : s.heap.IsTupleIter it t i) (ht : SeqAt s.heap t items) (hx : items[i]? = some x)
    (hQ : ∀ h', h'.IsTupleIter it t (i + 1) → Heap.SameBut it s.heap h' → Q (some x) { s with heap := h' }) : wpAny (model prog w) A (pyNext (.ref it)) Q E s := by
  obtain ⟨o, ho, hc, hd⟩ := id hit
  obtain ⟨ot, n, hot, hdt⟩ := ht
  refine wpAny_bind (wpAny_attempt (wpAny_callSpecial?_slot (name := Str.ofString "__next__") hit.typeIs F.slot_tuple_iterator_next (wpAny_call_entry F.slot_tuple_iterator_next hit.typeIs F.entry_tuple_iterator_next ?_ (F.args_tuple_iterator_next_1 _))))
  show wpAny _ _ (field (.ref it) 0 >>= _) _ _ s
  refine wpAny_bind (wpAny_field ho hd (x := .ref t) rfl ?_)
  show wpAny _ _ (field (.ref it) 1 >>= _) _ _ s
  refine wpAny_bind (wpAny_field ho hd (x := .int i 0) rfl ?_)
  refine wpAny_bind (wpAny_seqItems hot hdt ?_)
  simp only [Int.toNat_natCast, hx]
  refine wpAny_bind (wpAny_setField ho hd (by simp) (wpAny_pure ⟨x, rfl, wpAny_pure (hQ _ ⟨_, Heap.get?_update_self _ ho (Obj.isFreed_of_fields (Obj.data_mapFields hd _)), (Obj.cls_mapFields ..).trans hc, ?_⟩ (Heap.SameBut.update ..))⟩))
  rw [Obj.data_mapFields hd]; simp [rawInt]

theorem entry_end {it t : Addr} {i : Nat} {items : Array Value} {Q : Option Value → Shared → Prop} (hh : A.handled = none) (hit : s.heap.IsTupleIter it t i) (ht : SeqAt s.heap t items) (hx : items[i]? = none)
    (hQ : ∀ h', Heap.ExtBut it s.heap h' → Q none { s with heap := h' }) : wpAny (model prog w) A (pyNext (.ref it)) Q E s := by
  obtain ⟨o, ho, hc, hd⟩ := id hit
  obtain ⟨ot, n, hot, hdt⟩ := ht
  refine wpAny_bind (wpAny_attempt (wpAny_callSpecial?_slot (name := Str.ofString "__next__") hit.typeIs F.slot_tuple_iterator_next (wpAny_call_entry F.slot_tuple_iterator_next hit.typeIs F.entry_tuple_iterator_next ?_ (F.args_tuple_iterator_next_1 _))))
  show wpAny _ _ (field (.ref it) 0 >>= _) _ _ s
  refine wpAny_bind (wpAny_field ho hd (x := .ref t) rfl ?_)
  show wpAny _ _ (field (.ref it) 1 >>= _) _ _ s
  refine wpAny_bind (wpAny_field ho hd (x := .int i 0) rfl ?_)
  refine wpAny_bind (wpAny_seqItems hot hdt ?_)
  simp only [Int.toNat_natCast, hx]
  refine wpAny_bind (wpAny_rule (wpAny_bind (wpAny_setField ho hd (by simp) ?_)))
  show wpAny _ _ (newExc (.type "StopIteration") [] >>= _) _ _ _
  refine wpAny_bind ?_
  simp only [newExc, newTuple]
  refine wpAny_bind (wpAny_newObj_type ?_ (by size_fits))
  refine wpAny_bind (m := firstArgMember _ _) (wpAny_of_eq (a := Value.none) (by first | rfl | (simp only [firstArgMember]; rfl)) ?_)
  refine wpAny_newObj_type ?_ (by size_fits)
  simp only [raiseNew]
  refine wpAny_bind (wpAny_handled ?_)
  first | rw [show A.in1.handled = none from hh] | rw [hh]
  refine wpAny_bind (wpAny_pure (wpAny_throw ?_))
  refine wpAny_bind (wpAny_isInstance (T := "StopIteration") (b := true) ⟨_, Heap.get?_push_size _ rfl, rfl⟩ isSubtype_stop ?_)
  exact wpAny_pure (hQ _ (((Heap.SameBut.update ..).extBut.push _).push _))

theorem entry_walks (hh : A.handled = none) (I ax : Addr) (hne : ax ≠ I) (items : Array Value) :
    Walks prog w A I [I, ax] [I] items.size (fun i v => items[i]? = some v) (fun i h => h.IsTupleIter I ax i ∧ SeqAt h ax items) where
  sub := fun b hb => by simp at hb; simp [hb]
  frame := fun _ _ _ st hk => ⟨st.1.at fun o e => hk I (by simp) o e, let ⟨o, n, e, d⟩ := st.2; ⟨o, n, hk ax (by simp) o e, d⟩⟩
  item := fun i s Q E hi st hQ => by
    refine entry_item st.1 st.2 (x := items[i]) (by simp [hi]) fun h' hit' hs' => ?_
    obtain ⟨o, n, e, d⟩ := st.2
    exact hQ _ h' s.toks (by simp [hi]) ⟨hit', o, n, hs'.extBut ax o hne e, d⟩ fun b o hb e => hs'.extBut b o (fun h => hb (by simp [h])) e
  done := fun s Q E st hQ => entry_end hh st.1 st.2 (by simp) fun h' he' => hQ h' s.toks fun b o hb e => he' b o (fun h => hb (by simp [h])) e
  self := fun _ _ _ _ st hQ => wpAny_pyIter_tupleiter st.1 hQ

theorem bound_slot {self : Value} {name : Str} {id : String} {refuse : Sem Value} {Q : Option Value → Shared → Prop} (sp : Looks (model prog w) s.heap (specialOf self name) (some (.builtin id))) (hb : bindSpecial (.builtin id) self = pure (.builtin id, [self]))
    (hc : wpAny (model prog w) A (call (.builtin id) [self]) (fun v => Q (some v)) E s) : wpAny (model prog w) A (callSpecialIfBoundUnlessNone? self name refuse) Q E s := by
  unfold callSpecialIfBoundUnlessNone? bindSpecialIfBound?
  refine wpAny_holding (wpAny_bind (wpAny_bind (sp.here ?_)))
  simp only [hb]
  refine wpAny_bind (wpAny_askSetting (wpAny_ite ?_))
  have fin : wpAny (model prog w) A (if (Value.builtin id == Value.none) = true then (refuse >>= fun v => pure (some v)) else (call (.builtin id) [self] >>= fun v => pure (some v))) Q E s := by
    simp only [builtin_beq_none, Bool.false_eq_true, if_false]
    exact wpAny_bind (wpAny_mono hc (fun v s' h' => wpAny_pure h') fun _ _ h' => h')
  split
  · exact wpAny_bind (wpAny_pure (wpAny_pure fin))
  · exact wpAny_tryCatch (wpAny_bind (wpAny_pure (wpAny_pure fin)))

theorem entry_iter {K : Frag} {x : Addr} {o : Obj} {Q : Value → Shared → Prop} (X : K.In s.heap) (h154 : K.lookup 154 = some o154) (hi : findIn K (.ref 154) "__iter__" = some (some (.builtin "tuple.__iter__"))) (e : s.heap.get? x = some o) (ec : o.cls = .ref 154)
    (h : Q (.ref s.heap.objs.size) { s with heap := s.heap.push { cls := .type "tuple_iterator", data := .fields #[.ref x, .int 0 0] } }) : wpAny (model prog w) A (pyIter (.ref x)) Q E s := by
  have t1 : Looks (model prog w) s.heap (typeOf (.ref x)) (.ref 154) := by rw [← ec]; exact (Looks.ld e).andThen .now
  have i1 := looks_findIn (M := model prog w) X hi
  have sp : Looks (model prog w) s.heap (specialOf (.ref x) "__iter__") (some (.builtin "tuple.__iter__")) := t1.andThen i1
  have sub1 : Looks (model prog w) s.heap (isInstance (.ref x) (.type "tuple")) true := t1.andThen (looks_mroIn X (by unfold mroIn clsIn; rw [h154]; rfl))
  unfold pyIter
  have run : ∀ (Q' : Value → Shared → Prop), Q' (.ref s.heap.objs.size) { s with heap := s.heap.push { cls := .type "tuple_iterator", data := .fields #[.ref x, .int 0 0] } } → wpAny (model prog w) A (call (.builtin "tuple.__iter__") [.ref x]) Q' E s := fun Q' h' => by
    refine wpAny_call (codeAny_call_builtin ti_plain F.entry_tuple_iter (check_slot ti_kind ti_split sub1 (F.args_tuple_iter_1 _) ?_))
    show wpAny _ _ (do ret (← newFields "tuple_iterator" [.ref x, rawInt 0])) _ _ s
    exact wpAny_bind (wpAny_newObj_type (wpAny_pure h'))
  refine wpAny_bind (sp.here ?_)
  show wpAny _ _ (callSpecialIfBoundUnlessNone? (.ref x) "__iter__" _ >>= _) Q E s
  refine wpAny_bind (bound_slot sp (F.slot_tuple_iter.bind _) (run _ ?_))
  exact wpAny_bind (wpAny_specialOf (T := "tuple_iterator") ⟨_, Heap.get?_push_size _ rfl, rfl⟩ F.slot_tuple_iterator_next.lookup (wpAny_pure h))
end

section
variable {g : Gd} {A : Around} {env : Env} {ρ ρ' : Rho} {pos : Pos}
theorem it_entry {e : Expr} {ds : List PyData} (C : Ce g) (hh : A.handled = none) (he : Ex g A env ρ e (entD ds)) : It g A env ρ e ds := .mk fun W s w E Q h => he.run W s w E Q fun v s₁ k₁ r₁ => h v s₁ k₁ fun E Q hq => by
  obtain ⟨as, r⟩ := r₁
  obtain ⟨a, o, vs, n, rfl, e1, ec, ed, rr⟩ : ∃ a o vs n, v = .ref a ∧ (hideAll s₁.heap W).get? a = some o ∧ o.cls = .ref 154 ∧ o.data = .seq vs n ∧ RxAll (hideAll s₁.heap W) vs.toList ds as := by
    cases r with
    | entry e c d h => exact ⟨_, _, _, _, rfl, e, c, d, h⟩
  have hlW : a ∉ W := fun hm => by rw [hideAll_none W hm] at e1; cases e1
  have ho := of_hideAll W e1
  have w₁ := w.kept k₁
  have hne : a ≠ s₁.heap.objs.size := Nat.ne_of_lt (Heap.lt_size ho)
  have q : RdAll W s₁ vs.toList ds := ⟨as, rr⟩
  refine entry_iter w₁.wd.k C.h154 C.iter ho ec (hq _ _ [s₁.heap.objs.size, a] (fun i v => vs[i]? = some v) (fun i h => h.IsTupleIter s₁.heap.objs.size a i ∧ SeqAt h a vs) .push' ⟨?_, ?_, ?_, ?_, ?_, ?_⟩)
  · have W := entry_walks (prog := g.prog) (w := g.w) hh s₁.heap.objs.size a hne vs
    rw [show ds.length = vs.size by simpa using q.length.symm]
    exact W
  · exact ⟨⟨_, Heap.get?_push_size _ rfl, rfl, rfl⟩, o, n, Heap.get?_push_of_some _ ho, ed⟩
  · exact Heap.get?_none_of_le (Nat.le_refl _)
  · rintro i h ⟨⟨o, e1, e2, e3⟩, _⟩
    exact ⟨o, _, e1, e3⟩
  · intro b hb
    simp only [List.mem_cons, List.not_mem_nil, or_false] at hb
    rcases hb with rfl | rfl
    · exact .inl rfl
    · exact .inr ⟨hlW, _, ho⟩
  · intro i v hv
    exact q.get i v (by simpa using hv)
end
end Mine

/- Read1 -/
namespace Mine
open PySem PySem.W PySem.Calls PySem.Spec PyProof.Rows Builtin Builtin.ObjectAttr
set_option Elab.async false
set_option linter.unusedVariables false
set_option maxRecDepth 100000
set_option maxHeartbeats 4000000

theorem store_function : StoreFacts "function" [.type "function", .type "object"] "object.__setattr__" "object" where
  mro := by kernel_rfl
  slot := .of (owner := "object") (n := "__setattr__") (by rw [typeLookup_type, builtinLookup_eq_fast]; kernel_rfl) (by decide +kernel) (by decide +kernel) (by decide +kernel)
    (by first | exact .inl (by decide +kernel) | exact .inr (by decide +kernel)) (by rw [isSubtype_type]; kernel_rfl)
  entry := F.entry_object_sa
  kind := by decide +kernel
  split := by decide +kernel
  hasOwner := by decide +kernel
  args := fun a b c => by unfold argsOk; kernel_rfl
  passes := fun self => by kernel_rfl
theorem fn_lone : finalisedInACycleAlone "function" = false := by decide +kernel
theorem fn_hasDict : typeHasDict (.type "function") = true := by decide +kernel

section
variable {prog : Program} {w : World} {A : Around} {E : Value → Shared → Prop} {s : Shared}

theorem fn_store_run {a : Addr} {fd : FuncData} {sl : Array (Option Value)} {v : Value} {tk : Tok} {Q : PySem.Fin → Shared → Prop} (e : s.heap.get? a = some { cls := .type "function", dict := none, data := .func fd, slots := sl })
    (h : ∀ h' k dA m, Heap.ExtBut a s.heap h' → h'.get? a = some { cls := .type "function", dict := some dA, data := .func fd, slots := sl } → s.heap.get? dA = none → h'.Ns dA m → m "co_exceptiontable" = some v → Q (.done (.ret .none)) { s with heap := h', toks := k }) :
    wpAny (model prog w) A (Builtin.«object.__setattr__» ⟨[.ref a, .str "co_exceptiontable" tk, v], []⟩) Q E s := by
  obtain ⟨hp, g, d, t, os⟩ := s
  dsimp only at e
  have ht : Looks (model prog w) hp (typeOf (.ref a)) (.type "function") := (Looks.ld e).andThen .now
  rw [osa_eq, refuse_eq]
  refine wpAny_bind (wpAny_bind (ht.at ?_))
  rw [store_function.mro]
  refine wpAny_bind (wpAny_pure ?_)
  rw [store_function.passes]
  refine wpAny_pure (wpAny_bind (ht.at ?_))
  rw [lk_fn_co]
  refine wpAny_bind (wpAny_pure (wpAny_bind ?_))
  show wpAny _ _ (storeTaker? none) _ _ _
  refine wpAny_pure ?_
  show wpAny _ _ (storeInOwnDict _ _ _ _ _ _) _ _ _
  unfold storeInOwnDict
  refine wpAny_bind ?_
  show wpAny _ _ (ownStreamTells (.ref a) (.type "function")) _ _ _
  refine wpAny_pure ?_
  show wpAny _ _ (ownDictForStores (.ref a) >>= _) _ _ _
  refine wpAny_bind ?_
  show wpAny _ _ (instanceDict a true) _ _ _
  unfold instanceDict
  refine wpAny_bind (wpAny_loadPart e ?_)
  dsimp only
  rw [if_neg (by rw [fn_hasDict]; decide)]
  have hx₁ : (hp.push { cls := .type "dict", data := .dict #[] }).get? a = some { cls := .type "function", dict := none, data := .func fd, slots := sl } := Heap.get?_push_of_some _ e
  have hxs : a ≠ hp.objs.size := Nat.ne_of_lt (Heap.lt_size e)
  refine wpAny_bind (wpAny_alloc' (wpAny_bind (wpAny_update' hx₁ ?_)))
  show wpAny _ _ (dictMade (.type "function") a hp.objs.size) _ _ _
  unfold dictMade
  dsimp only
  rw [if_neg (by rw [fn_lone]; decide)]
  refine wpAny_pure ?_
  show wpAny _ _ (storeInDict hp.objs.size (.str "co_exceptiontable" tk) "co_exceptiontable" v) _ _ _
  have hgd : ((hp.push { cls := .type "dict", data := .dict #[] }).update a fun o => { cls := o.cls, dict := some hp.objs.size, data := o.data, slots := o.slots }).get? hp.objs.size = some { cls := .type "dict", data := .dict #[] } :=
    (Heap.get?_update_ne _ _ _ _ hxs.symm).trans (Heap.get?_push_at rfl rfl)
  have hnd : ((hp.push { cls := .type "dict", data := .dict #[] }).update a fun o => { cls := o.cls, dict := some hp.objs.size, data := o.data, slots := o.slots }).Ns hp.objs.size (fun _ => none) :=
    ⟨_, #[], _, hgd, rfl, fun e he => absurd he (by simp), fun _ => rfl⟩
  unfold storeInDict newKeyGuard
  refine wpAny_bind (wpAny_pure (wpAny_bind (wpAny_nsSet1 (Heap.Ns1.of_empty hnd) fun h' hn' hs => ?_)))
  obtain ⟨oD, esD, epD, hoD, hdD, hcD⟩ := hn'.count (Within.cons _ v Within.nil)
  refine wpAny_bind (wpAny_lookBehind hoD (by rw [hdD]; exact pastItsLine_dict (Nat.le_trans hcD (by rw [List.length_cons, List.length_nil, sizeLine_eq]; lia))) ?_)
  refine wpAny_pure ?_
  refine h h' _ hp.objs.size _ (fun b ob hba hb => ?_) ?_ (Heap.get?_none_of_le (Nat.le_refl _)) hn'.ns ?_
  · exact (hs.2 b (Nat.ne_of_lt (Heap.lt_size hb))).trans ((Heap.get?_update_ne _ _ _ _ hba).trans (Heap.get?_push_of_some _ hb))
  · exact (hs.2 a hxs).trans (Heap.get?_update_self _ hx₁ rfl)
  · simp
end
end Mine

/- Read2 -/
namespace Mine
open PySem PySem.W PySem.Calls PySem.Spec PyProof.Rows
set_option Elab.async false
set_option linter.unusedVariables false
set_option maxRecDepth 100000
set_option maxHeartbeats 4000000

section
variable {prog : Program} {w : World} {A : Around} {E : Value → Shared → Prop} {s : Shared}
theorem fn_set {a : Addr} {fd : FuncData} {sl : Array (Option Value)} {v : Value} {Q : Unit → Shared → Prop} (e : s.heap.get? a = some { cls := .type "function", dict := none, data := .func fd, slots := sl })
    (h : ∀ h' k dA m, Heap.ExtBut a s.heap h' → h'.get? a = some { cls := .type "function", dict := some dA, data := .func fd, slots := sl } → s.heap.get? dA = none → h'.Ns dA m → m "co_exceptiontable" = some v → Q () { s with heap := h', toks := k }) :
    wpAny (model prog w) A (setAttr (.ref a) "co_exceptiontable" v) Q E s := by
  have hT : Shared.TypeIs { s with toks := s.toks + 1 } (.ref a) "function" := ⟨_, e, rfl⟩
  refine wpAny_bind (wpAny_mkText (wpAny_bind (wpAny_callSpecial?_slot hT store_function.slot (wpAny_call (codeAny_call_builtin store_function.slot.plain F.entry_object_sa (store_function.slot.check _ _ _ _ _ _ _ _ hT (store_function.args _ _ _) (fn_store_run (s := { s with toks := s.toks + 1 }) e fun h' k dA m h1 h2 h3 h4 h5 => ?_)))))))
  exact wpAny_pure (h h' k dA m h1 h2 h3 h4 h5)
end

section
variable {g : Gd} {A : Around} {env : Env} {ρ ρ' : Rho} {pos : Pos} {N W : List Addr} {s₀ s : Shared}

/-- an owned object, no dict, turns -/
theorem In.turnG {D : Addr} {o : Obj} {k : Nat} {h' : Heap} (i : In g A env ρ N W s₀ s) (hD : D ∈ N) (e : s.heap.get? D = some o) (ed : ∀ es ep, o.data ≠ .dict es ep) (hs : Heap.ExtBut D s.heap h') (hl' : ∃ o, h'.get? D = some o)
    (hc : ∀ c ∈ env.cells, c.2 ≠ D) : In g A env ρ N W s₀ { s with heap := h', toks := k } := by
  have hDT := i.neT hD
  have hDm : D ∈ N ++ W := List.mem_append_left _ hD
  have hL : env.locals ≠ D := fun q => by
    obtain ⟨m, o2, es, ep, e2, ed2, _⟩ := i.ns
    rw [q, e] at e2; cases e2; exact ed _ _ ed2
  refine ⟨i.kept.own hs (i.new D hD) hDT, i.new, ⟨i.wo.wd.turn hs hDm hDT hl', i.wo.fs.turn hs (fun o es ep e2 ed2 => ?_), fun p hp => ?_⟩, ?_, i.loc, i.w0⟩
  · rw [e] at e2; cases e2; exact absurd ed2 (ed es ep)
  · obtain ⟨v, y, r⟩ := i.wo.vs p hp
    exact ⟨v, y.turn hs hL (fun c h => hc _ (mem_of_lookup h)), r.own hs hDm⟩
  · obtain ⟨m, hn⟩ := i.ns
    exact ⟨m, hn.extBut hs hL⟩

/-- the lambda -/
theorem mk_lambda {params : Arguments} {body : Expr} {scope : Scope} (w : Wd g W s) (hcode : env.code = .ref tC) (hg : env.globals = mainGlobals) (hcl : closureFor scope env = pure []) (hl : pos.line = 149) (hcol : pos.col = 11) (hdef : defaultsOf params env = ([], []))
    {M : Model} {E : Value → Shared → Prop} {Q : Value → Shared → Prop} (h : ∀ f s' fd, Kept W s s' → s.heap.get? f = none → s'.heap.get? f = some { cls := .type "function", data := .func fd } → Q (.ref f) s') : wpAny M A (eval (.Lambda params body scope pos) env) Q E s := by
  refine kla_eval hdef ?_
  have hgs := w.top.g
  obtain ⟨bm, ob, b1, b2, b3, b4, b5, b6⟩ := w.top.bmain
  have CH : CodeHd s.heap tC tT := w.known.code.keeps fun b o e => of_hideAll W e
  obtain ⟨ps, hP, hps⟩ := w.tab
  have hgP : mainGlobals ≠ tT := fun q => by
    obtain ⟨o, es, ep, e, hd, _⟩ := hgs
    rw [q, hP] at e; cases e; cases hd
  have hbP : bm ≠ tT := fun q => by rw [q, hP] at b3; cases b3; cases b4
  have hbG : bm ≠ mainGlobals := fun q => by
    obtain ⟨o, es, ep, e, hd, _⟩ := hgs
    rw [q, e] at b3; cases b3; rw [hd] at b6; cases b6
  have hB : s.heap.BuiltinsAt g.mg tT := ⟨bm, ob, b1, b2, hbG, hbP, b3, b4, b5, b6⟩
  rcases hps with rfl | ⟨l, c, c', rfl, rfl, rfl⟩
  · refine kla_makeFunction (mg := g.mg) hcl hg hgs hcode CH hP trivial rfl hgP hB fun c' ctv h' tk hx hge hlt hrec htb => ?_
    have old : ∀ b o, b ≠ tT → s.heap.get? b = some o → h'.get? b = some o := hx
    refine h _ _ _ ⟨⟨_, _, rfl⟩, fun b o hb e => Heap.get?_push_of_some _ (old b o (fun q => hb (q ▸ w.tW)) e), fun b o hb hT e => ⟨o.slots, Heap.get?_push_of_some _ (old b o hT e), fun _ => rfl⟩, fun _ => ⟨_, Heap.get?_push_of_some _ htb, .inr ⟨_, _, c', by simp; exact ⟨rfl, rfl⟩, by rw [hl]; rfl, by rw [hcol]; rfl⟩⟩⟩ (Heap.get?_none_of_le (Nat.le_of_lt (Nat.lt_of_le_of_lt hge hlt))) (Heap.get?_push_size _ rfl)
  · refine kla_makeFunctionHit (mg := g.mg) (cv := .ref c') hcl hg hgs hcode CH hP trivial ?_ hB fun ctv h' tk hk hsz => ?_
    · show (if ((149 : Int) == (pos.line : Int) && (11 : Int) == (pos.col : Int)) = true then _ else _) = _
      rw [hl, hcol]; rfl
    · exact h _ _ _ (.keeps fun b o e => Heap.get?_push_of_some _ (hk b o e)) (Heap.get?_none_of_le hsz) (Heap.get?_push_size _ rfl)
end
end Mine

/- Read3 -/
namespace Mine
open PySem PySem.W PySem.Calls PySem.Spec PyProof.Rows
set_option Elab.async false
set_option linter.unusedVariables false
set_option maxRecDepth 100000
set_option maxHeartbeats 4000000

theorem vgo_lt : ∀ (l : List Nat) (b v V n : Nat) (r : List Nat), v < V → vgo b v l = some (n, r) → n < V * 64 ^ l.length
  | [], b, v, V, n, r, hv, h => by
    unfold vgo at h; split at h
    · cases h; simpa using hv
    · cases h
  | c :: l, b, v, V, n, r, hv, h => by
    unfold vgo at h; split at h
    · cases h
      exact Nat.lt_of_lt_of_le hv (Nat.le_mul_of_pos_right _ (Nat.pow_pos (by decide)))
    · have := vgo_lt l c (64 * v + c % 64) (64 * V) n r (by have : c % 64 < 64 := Nat.mod_lt _ (by decide); lia) h
      rw [List.length_cons, Nat.pow_succ]
      rw [show 64 * V * 64 ^ l.length = V * (64 ^ l.length * 64) by rw [Nat.mul_comm 64 V, Nat.mul_assoc, Nat.mul_comm 64]] at this
      exact this
theorem vint_lt {l r : List Nat} {n : Nat} (h : vint l = some (n, r)) : n < 64 ^ l.length := by
  cases l with
  | nil => cases h
  | cons b l =>
    have := vgo_lt l b (b % 64) 64 n r (Nat.mod_lt _ (by decide)) h
    rw [List.length_cons, Nat.pow_succ, Nat.mul_comm]
    exact this
theorem ents_lt : ∀ (k : Nat) (l : List Nat) (L : Nat), l.length ≤ L → ∀ q ∈ ents k l, q.1 < 64 ^ L ∧ q.2.1 < 64 ^ L ∧ q.2.2.1 < 64 ^ L ∧ q.2.2.2 < 64 ^ L
  | 0, l, L, hl, q, h => by simp [ents] at h
  | k + 1, l, L, hl, q, h => by
    have up : ∀ {l' r : List Nat} {n : Nat}, vint l' = some (n, r) → l'.length ≤ L → n < 64 ^ L := fun h hl => Nat.lt_of_lt_of_le (vint_lt h) (Nat.pow_le_pow_right (by decide) hl)
    unfold ents at h
    cases h1 : vint l with
    | none => simp [h1] at h
    | some p1 =>
      obtain ⟨a, l1⟩ := p1
      have e1 := vint_len h1
      cases h2 : vint l1 with
      | none => simp [h1, h2] at h
      | some p2 =>
        obtain ⟨b, l2⟩ := p2
        have e2 := vint_len h2
        cases h3 : vint l2 with
        | none => simp [h1, h2, h3] at h
        | some p3 =>
          obtain ⟨c, l3⟩ := p3
          have e3 := vint_len h3
          cases h4 : vint l3 with
          | none => simp [h1, h2, h3, h4] at h
          | some p4 =>
            obtain ⟨d, l4⟩ := p4
            have e4 := vint_len h4
            simp only [h1, h2, h3, h4, List.mem_cons] at h
            rcases h with rfl | h
            · exact ⟨up h1 hl, up h2 (by lia), up h3 (by lia), up h4 (by lia)⟩
            · exact ents_lt k l4 L (by lia) q h

theorem entP_inj (a b : Nat × Nat × Nat × Nat) (h : entP a = entP b) : a = b := by
  obtain ⟨a1, a2, a3, a4⟩ := a
  obtain ⟨b1, b2, b3, b4⟩ := b
  unfold entP entD pI at h
  simp only [PyData.dict.injEq, List.cons.injEq, Prod.mk.injEq, PyData.list.injEq, PyData.int.injEq, PyData.bool.injEq, and_true, true_and] at h
  obtain ⟨h1, h2, h3, h4, h5⟩ := h
  have h6 : a4 % 2 = 1 ↔ b4 % 2 = 1 := by simpa using h5
  have e1 : a1 = b1 := by lia
  have e2 : a2 = b2 := by lia
  have e3 : a3 = b3 := by lia
  have e4 : a4 = b4 := by
    have h7 : ((a4 / 2 : Nat) : Int) = ((b4 / 2 : Nat) : Int) := by simpa using h4
    by_cases q : a4 % 2 = 1
    · have := h6.mp q; lia
    · have : ¬ b4 % 2 = 1 := fun z => q (h6.mpr z)
      lia
  subst e1 e2 e3 e4; rfl

/-- what _law_read gives -/
def read (l : List Nat) : List (List Str) := (ents (l.length + 1) l).map fun q => row4 [q.1, q.2.1, q.2.2.1, q.2.2.2]

def mkP : Nat ⊕ Bool → PyData
  | .inl n => pI n
  | .inr b => .bool b
theorem mkP_inj : ∀ a b, mkP a = mkP b → a = b
  | .inl a, .inl b, h => by unfold mkP pI at h; injection h with h; congr 1; lia
  | .inl _, .inr _, h => by unfold mkP at h; cases h
  | .inr _, .inl _, h => by unfold mkP at h; cases h
  | .inr a, .inr b, h => by unfold mkP at h; injection h with h; rw [h]
def strP : Nat ⊕ Bool → PyData
  | .inl n => .str (dec n)
  | .inr b => .str (yes b)

theorem ints_of {W : List Addr} {s : Shared} : ∀ {vs : List Value} {l : List Nat}, RdAll W s vs (l.map pI) → IntsAre vs (l.map fun n : Nat => (n : Int))
  | [], [], _ => .nil
  | v :: vs, n :: l, h => by
    obtain ⟨r, rs⟩ := h.uncons
    obtain ⟨t, rfl⟩ := r.int_inv
    exact .cons _ t (ints_of rs)
  | [], _ :: _, h => by have := h.length; simp at this
  | _ :: _, [], h => by have := h.length; simp at this
theorem byteArr_nat (l : List Nat) : byteArr (l.map fun n : Nat => (n : Int)) = octB l := by
  unfold byteArr octB
  rw [List.map_map]
  congr 1
end Mine

/- Read4 -/
namespace Mine
open PySem PySem.W PySem.Calls PySem.Spec PyProof.Rows
set_option Elab.async false
set_option linter.unusedVariables false
set_option maxRecDepth 100000
set_option maxHeartbeats 4000000

theorem read_sp {g : Gd} {f f6 : Addr} {cdv6 : Value} (hex : g.ex = false) (F : Fd g "_law_read" 13 f (.ref tC)) (F6 : Fd g "_parse_exception_table" 6 f6 cdv6) (G : Tg g) (bY : Bn g "bytes" (.type "bytes")) (bS : Bn g "str" (.type "str")) {l : List Nat} (h128 : ∀ n ∈ l, n < 128) (hl : l.length ≤ 300) : Sp1 g f 4 (pL l) (pT (read l)) := by
  refine enter1 F (p := "octets") (fun _ _ _ _ _ => rfl) rfl (by decide) rfl rfl rfl fun A W s₀ s L rm i E => ?_
  generalize henv : envX "_law_read" (fScope 13) L f (.ref tC) [] = env at *
  have pe : Pe env := henv ▸ ⟨rfl, rfl⟩
  have en : En env := henv ▸ ⟨rfl, rfl, rfl⟩
  have hL : env.locals = L := henv ▸ rfl
  have kC : env.kindOf "code" = some .local := henv ▸ rfl
  have kY : env.kindOf "bytes" = some .globalImplicit := henv ▸ rfl
  have kT : env.kindOf "_parse_exception_table" = some .globalImplicit := henv ▸ rfl
  have hcells : ∀ c ∈ env.cells, c.2 ≠ env.locals := by rw [pe.nc]; intro _ h; cases h
  have hz : l.length ≤ sizeLine := by rw [sizeLine_eq]; lia
  rw [← hL] at i
  refine next_cons (wpAny_Assign_Name (mk_lambda i.wo.wd (henv ▸ rfl) (henv ▸ rfl) (henv ▸ rfl) rfl rfl (henv ▸ rfl) fun x s₁ fd k₁ hx₀ hx => ?_) rfl)
  have i₁ : In g A env [("octets", pL l)] [x, env.locals] W s₀ s₁ := i.grow k₁ hx₀ ⟨_, hx⟩
  have xL : x ≠ env.locals := fun q => by
    obtain ⟨m, o2, es, ep, e2, ed2, _⟩ := i₁.ns
    rw [← q, hx] at e2; cases e2; cases ed2
  refine i₁.store2 kC pe.fn hcells fun h2 hs2 hk2 hv2 i2 => ⟨rfl, ?_⟩
  have x2 : (Shared.heap { s₁ with heap := h2, toks := s₁.toks + 1 }).get? x = some { cls := .type "function", data := .func fd } := hs2 _ _ xL hx
  have v2 : Has env (Shared.heap { s₁ with heap := h2, toks := s₁.toks + 1 }) "code" (.ref x) := hv2
  have i2 : In g A env [("octets", pL l)] [x, env.locals] W s₀ { s₁ with heap := h2, toks := s₁.toks + 1 } := i2
  generalize ({ s₁ with heap := h2, toks := s₁.toks + 1 } : Shared) = s2 at i2 x2 v2
  clear hs2 hk2 hv2 hx i₁ k₁ hx₀ i
  have hcx : ∀ c ∈ env.cells, c.2 ≠ x := by rw [pe.nc]; intro _ h; cases h
  refine next_cons (plainObj_wpAny_Assign_Attribute (Call_Name1 (name_blt i2.wo.wd en bY kY (PySem.callWith_type rfl (evalArgs_plain (spliced_cons ((ex_v (g := g) (A := A) (env := env) (ρ := [("octets", pL l)]) (x := "octets") (d := pL l) pe.fn rfl).run _ s2 i2.wo _ _ fun v s₃ k₃ r₃ => spliced_nil ?_))))) rfl) rfl)
  obtain ⟨a, vs, rfl, haW, hlist, hr⟩ := r₃.list_inv
  refine call_bytes_ints hlist (ints_of hr) (fun n hn => ?_) (by rw [hr.length]; simpa using hz) rm.handled fun h4 t k hk4 => ?_
  · obtain ⟨m, hm, rfl⟩ := List.mem_map.mp hn
    have := h128 m hm
    lia
  rw [byteArr_nat]
  have k4 : Kept ([x, env.locals] ++ W) s₃ { s₃ with heap := h4, toks := k } := .keeps hk4
  have i4 := i2.step (k₃.trans k4)
  have v4 := v2.kept (k₃.trans k4)
  have x4 := (k₃.trans k4).exact (i2.neT (a := x) (by simp)) x2 (fun es ep q => by cases q)
  generalize ({ s₃ with heap := h4, toks := k } : Shared) = s4 at i4 v4 x4
  refine Has.name pe.fn v4 (by decide) (fn_set x4 fun h5 k5 dA m hs5 x5 d5 n5 m5 => ⟨rfl, ?_⟩)
  have i5 : In g A env [("octets", pL l)] [x, env.locals] W s₀ { s4 with heap := h5, toks := k5 } := i4.turnG (by simp) x4 (fun es ep q => by cases q) hs5 ⟨_, x5⟩ hcx
  have v5 : Has env h5 "code" (.ref x) := v4.turn hs5 (Ne.symm xL) fun c h => hcx _ (mem_of_lookup h)
  have i6 : In g A env [("octets", pL l)] [env.locals] W s₀ { s4 with heap := h5, toks := k5 } := i5.out (fun a ha => .tail _ ha) (fun a ha hn => by
    cases ha with
    | head => exact ⟨_, x5, fun es ep q => by cases q⟩
    | tail _ h => exact absurd h hn) (.head _)
  have hxN : x ∉ [env.locals] ++ W := fun hm => by
    rcases List.mem_append.mp hm with h | h
    · exact xL (by simpa using h)
    · exact i5.offW (a := x) (by simp) h
  have hdN : dA ∉ [env.locals] ++ W := fun hm => by
    obtain ⟨o, e⟩ := i4.wo.wd.live dA (.tail _ hm)
    rw [d5] at e; cases e
  have r6 : Rd ([env.locals] ++ W) { s4 with heap := h5, toks := k5 } (.ref x) (tabD l) := by
    obtain ⟨oD, es, ep, eD, rest⟩ := n5
    exact ⟨_, .code (hideAll_get _ x5 hxN) rfl rfl rfl ⟨oD, es, ep, hideAll_get _ eD hdN, rest⟩ m5⟩
  have i7 := i6.know v5 r6
  generalize ({ s4 with heap := h5, toks := k5 } : Shared) = s7 at i7
  refine ret_execs i7 (Ex.is (d := .list ((ents (l.length + 1) l).map fun q => pR (row4 [q.1, q.2.1, q.2.2.1, q.2.2.2]))) ?_ (by unfold read pT; rw [List.map_map]; rfl))
  have elen : (ents (l.length + 1) l).length ≤ sizeLine := by
    have := ents_len (l.length + 1) l
    rw [sizeLine_eq]; lia
  refine ex_of_core (cl := []) ?_ (henv ▸ rfl) rfl (by decide)
  refine core_map (ρc := []) (l := ents (l.length + 1) l) (mk := entP) entP_inj rm.handled rfl (by decide) rfl (it_list rm.handled (ex_fn1 en F6 (rm.less (by decide)) kT (ex_v pe.fn rfl) (tab_sp hex F6 G h128 (by lia)) rfl (by decide))) (fun _ _ _ _ => Vs.nil) (fun C q hq => ?_) elen
  obtain ⟨qa, qb, qc, qd⟩ := q
  obtain ⟨b1, b2, b3, b4⟩ := ents_lt (l.length + 1) l l.length (Nat.le_refl _) _ hq
  dsimp only at b1 b2 b3 b4
  have hp : (64 : Nat) ^ l.length ≤ 64 ^ 300 := Nat.pow_le_pow_right (by decide) hl
  have h6 : (64 : Nat) ^ 300 = 2 ^ 1800 := by rw [show (64 : Nat) = 2 ^ 6 from rfl, ← Nat.pow_mul]
  have h9 : (2 : Nat) ^ 1900 = 2 ^ 1800 * 2 ^ 100 := by rw [← Nat.pow_add]
  have h100 : (4 : Nat) ≤ 2 ^ 100 := by decide
  have hbig : 2 ^ 1800 * 4 ≤ (2 : Nat) ^ 1900 := by rw [h9]; exact Nat.mul_le_mul_left _ h100
  rw [h6] at hp
  clear h9 h6
  generalize (2 : Nat) ^ 1800 = B at *
  let items : List (Nat ⊕ Bool) := [.inl (2 * qa), .inl (2 * qa + 2 * qb), .inl (2 * qc), .inl (qd / 2), .inr (decide (qd % 2 = 1))]
  have hsm : ∀ n, .inl n ∈ items → n < 2 ^ 1900 := fun n hn => by
    simp only [items, List.mem_cons, Sum.inl.injEq, reduceCtorEq, List.not_mem_nil, or_false] at hn
    rcases hn with rfl | rfl | rfl | rfl <;> lia
  refine Ex.is (d := .list (items.map strP)) ?_ rfl
  refine ex_of_core (cl := []) ?_ (henv ▸ rfl) rfl (by decide)
  refine core_map (ρc := []) (l := items) (mk := mkP) mkP_inj rm.handled rfl (by decide) rfl (it_entry G.C rm.handled ((ex_v rfl rfl).is rfl)) (fun _ _ _ _ => Vs.nil) (fun C' a ha => ?_) (by simp [items, sizeLine_eq])
  cases a with
  | inl n => exact en_str (henv ▸ ⟨rfl, rfl, rfl⟩) bS (henv ▸ rfl) (ex_v rfl rfl) (hsm n ha) rfl (by decide)
  | inr b => exact ex_str_bool (henv ▸ ⟨rfl, rfl, rfl⟩) bS (henv ▸ rfl) (ex_v rfl rfl) rfl (by decide)
end Mine

/- Pl1 -/
namespace Mine
open PySem PySem.W PySem.Calls PySem.Spec PyProof.Rows
set_option Elab.async false
set_option linter.unusedVariables false
set_option maxRecDepth 100000

theorem hFold_quoted (r : List Nat) (cur : List Nat) (res : List (List Nat)) :
    (r.foldl hStep ⟨res, cur, false, true⟩).res = ((quoted r cur).2.foldl hStep ⟨res, (quoted r cur).1, false, false⟩).res ∧
    (r.foldl hStep ⟨res, cur, false, true⟩).part = ((quoted r cur).2.foldl hStep ⟨res, (quoted r cur).1, false, false⟩).part := by
  fun_induction quoted r cur with
  | case1 cur => exact ⟨rfl, rfl⟩
  | case2 cur r => exact ⟨rfl, rfl⟩
  | case3 cur => exact ⟨rfl, rfl⟩
  | case4 cur c r ih => exact ih
  | case5 c r cur h1 h2 h3 ih =>
    have e34 : c ≠ 34 := fun q => h1 q
    have e92 : c ≠ 92 := fun q => by
      cases r with
      | nil => exact h2 q rfl
      | cons x y => exact h3 _ _ q rfl
    have : hStep ⟨res, cur, false, true⟩ c = ⟨res, cur ++ [c], false, true⟩ := by simp [hStep, e34, e92]
    rw [List.foldl_cons, this]
    exact ih
theorem hFold_cut (r : List Nat) (dn : List (List Nat)) (cur : List Nat) :
    (r.foldl hStep ⟨dn, cur, false, false⟩).res = (cutGo r dn cur).1 ∧ (r.foldl hStep ⟨dn, cur, false, false⟩).part = (cutGo r dn cur).2 := by
  fun_induction cutGo r dn cur with
  | case1 => exact ⟨rfl, rfl⟩
  | case2 dn cur r ih => exact ih
  | case3 dn cur r h1 this ih =>
    have e := hFold_quoted r (cur ++ [34]) dn
    have : hStep ⟨dn, cur, false, false⟩ 34 = ⟨dn, cur ++ [34], false, true⟩ := rfl
    rw [List.foldl_cons, this, e.1, e.2]
    exact ih
  | case4 dn cur c r h1 h2 ih =>
    have : hStep ⟨dn, cur, false, false⟩ c = ⟨dn, cur ++ [c], false, false⟩ := by simp [hStep, h1, h2]
    rw [List.foldl_cons, this]
    exact ih
theorem hParts_cut (l : List Nat) : (hParts l).map bare = cut l := by
  have e := hFold_cut l [] []
  unfold hParts hAt cut
  rw [List.take_length, e.1, e.2, List.map_append]
  congr 1
  by_cases h : (cutGo l [] []).2 = []
  · simp [h]
  · simp [h]
theorem quoted_mem {P : Nat → Prop} (r cur : List Nat) (hr : ∀ n ∈ r, P n) (hc : ∀ n ∈ cur, P n) : (∀ n ∈ (quoted r cur).1, P n) ∧ (∀ n ∈ (quoted r cur).2, P n) := by
  fun_induction quoted r cur <;> simp_all
  all_goals first
    | (rename_i ih; refine ih (fun n hn => ?_); rcases hn with hn | rfl <;> simp_all)
    | (intro n hn; rcases hn with hn | rfl <;> simp_all)
theorem cutGo_mem {P : Nat → Prop} (r : List Nat) (dn : List (List Nat)) (cur : List Nat) (hr : ∀ n ∈ r, P n) (hd : ∀ p ∈ dn, ∀ n ∈ p, P n) (hc : ∀ n ∈ cur, P n) : (∀ p ∈ (cutGo r dn cur).1, ∀ n ∈ p, P n) ∧ (∀ n ∈ (cutGo r dn cur).2, P n) := by
  fun_induction cutGo r dn cur with
  | case1 => exact ⟨hd, hc⟩
  | case2 dn cur r ih =>
    refine ih (fun n hn => hr n (.tail _ hn)) (fun p hp => ?_) (by simp)
    rcases List.mem_append.mp hp with h | h
    · exact hd p h
    · obtain rfl : p = cur := by simpa using h
      exact hc
  | case3 dn cur r h1 this ih =>
    have q := quoted_mem (P := P) r (cur ++ [34]) (fun n hn => hr n (.tail _ hn)) (fun n hn => by
      rcases List.mem_append.mp hn with h | h
      · exact hc n h
      · obtain rfl : n = 34 := by simpa using h
        exact hr 34 (.head _))
    exact ih q.2 hd q.1
  | case4 dn cur c r h1 h2 ih =>
    refine ih (fun n hn => hr n (.tail _ hn)) hd (fun n hn => ?_)
    rcases List.mem_append.mp hn with h | h
    · exact hc n h
    · obtain rfl : n = c := by simpa using h
      exact hr n (.head _)
theorem hParts_mem {P : Nat → Prop} {l : List Nat} (h : ∀ n ∈ l, P n) : ∀ p ∈ hParts l, ∀ n ∈ p, P n := by
  have e := hFold_cut l [] []
  have m := cutGo_mem (P := P) l [] [] h (by simp) (by simp)
  unfold hParts hAt
  rw [List.take_length, e.1, e.2]
  intro p hp
  rcases List.mem_append.mp hp with h | h
  · exact m.1 p h
  · by_cases q : (cutGo l [] []).2 = []
    · simp [q] at h
    · rw [if_pos (by simpa using q)] at h
      obtain rfl : p = _ := by simpa using h
      exact m.2
end Mine

/- Pl2 -/
namespace Mine
open PySem PySem.W PySem.Calls PySem.Spec PyProof.Rows
set_option Elab.async false
set_option linter.unusedVariables false
set_option maxRecDepth 100000

theorem getD_app_l {a r : List Nat} {k : Nat} (h : k < a.length) : (a ++ r).getD k 0 = a.getD k 0 := by
  simp [List.getD_eq_getElem?_getD, List.getElem?_append_left h]
theorem getD_app_r {a r : List Nat} {k : Nat} : (a ++ r).getD (a.length + k) 0 = r.getD k 0 := by
  simp [List.getD_eq_getElem?_getD, List.getElem?_append_right (Nat.le_add_right _ _)]
theorem inner_pre {a r : List Nat} (ha : ∀ n ∈ a, ws10.contains n = true) : inner (a ++ r) = (inner r).map fun k => a.length + k := by
  unfold inner
  rw [List.length_append, List.range_add, List.filter_append]
  have e1 : ((List.range a.length).filter fun k => !ws10.contains ((a ++ r).getD k 0)) = [] := by
    rw [List.filter_eq_nil_iff]
    intro k hk
    have hk : k < a.length := by simpa using hk
    rw [getD_app_l hk, ha _ (getD_mem hk)]; simp
  rw [e1, List.nil_append, List.filter_map]
  congr 1
  refine List.filter_congr fun k hk => ?_
  show (!ws10.contains ((a ++ r).getD (a.length + k) 0)) = _
  rw [getD_app_r]
theorem inner_post {r b : List Nat} (hb : ∀ n ∈ b, ws10.contains n = true) : inner (r ++ b) = inner r := by
  unfold inner
  rw [List.length_append, List.range_add, List.filter_append]
  have e1 : (((List.range b.length).map fun x => r.length + x).filter fun k => !ws10.contains ((r ++ b).getD k 0)) = [] := by
    rw [List.filter_eq_nil_iff]
    intro k hk
    obtain ⟨j, hj, rfl⟩ := List.mem_map.mp hk
    have hj : j < b.length := by simpa using hj
    rw [getD_app_r, hb _ (getD_mem hj)]; simp
  rw [e1, List.append_nil]
  refine List.filter_congr fun k hk => ?_
  have hk : k < r.length := by simpa using hk
  rw [getD_app_l hk]
theorem inner_first {x : Nat} {m : List Nat} (hx : ws10.contains x = false) : ∃ t, inner (x :: m) = 0 :: t := by
  unfold inner
  rw [List.length_cons, List.range_succ_eq_map, List.filter_cons_of_pos (by show (!ws10.contains x) = true; rw [hx]; rfl)]
  exact ⟨_, rfl⟩
theorem inner_last {y : Nat} {m : List Nat} (hy : ws10.contains y = false) : ∃ t, inner (m ++ [y]) = t ++ [m.length] := by
  unfold inner
  rw [List.length_append, List.length_cons, List.length_nil, List.range_succ, List.filter_append]
  have : (m ++ [y]).getD m.length 0 = y := by simp [List.getD_eq_getElem?_getD]
  refine ⟨_, congrArg _ ?_⟩
  rw [List.filter_cons_of_pos (by rw [this, hy]; rfl)]
  rfl
theorem bare_mid {a b m m' : List Nat} {x y : Nat} {t : List Nat} (ha : ∀ n ∈ a, ws10.contains n = true) (hb : ∀ n ∈ b, ws10.contains n = true) (e1 : m = x :: t) (hx : ws10.contains x = false) (e2 : m = m' ++ [y]) (hy : ws10.contains y = false) : bare (a ++ m ++ b) = m := by
  have ei : inner (a ++ m ++ b) = (inner m).map fun k => a.length + k := by rw [inner_post hb, inner_pre ha]
  obtain ⟨t1, f1⟩ := inner_first (m := t) hx
  obtain ⟨t2, f2⟩ := inner_last (m := m') hy
  rw [← e1] at f1
  rw [← e2] at f2
  have hlen : m.length = m'.length + 1 := by rw [e2]; simp
  unfold bare
  rw [ei, if_neg (by rw [f1]; simp)]
  have g0 : ((inner m).map fun k => a.length + k).getD 0 0 = a.length := by rw [f1]; simp
  have g1 : ((inner m).map fun k => a.length + k).getD (((inner m).map fun k => a.length + k).length - 1) 0 = a.length + m'.length := by
    rw [f2]; simp [List.getD_eq_getElem?_getD]
  rw [g0, g1, List.append_assoc, List.drop_left]
  rw [show a.length + m'.length + 1 - a.length = m.length by lia, List.take_left]
theorem bare_all {l : List Nat} (h : ∀ n ∈ l, ws10.contains n = true) : bare l = [] := by
  have : inner l = [] := by
    have := inner_pre (r := []) h
    rw [List.append_nil] at this
    rw [this]; rfl
  unfold bare; rw [if_pos this]

theorem split_ws (l : List Nat) : (∀ n ∈ l, ws10.contains n = true) ∨ ∃ a m b x t m' y, l = a ++ m ++ b ∧ (∀ n ∈ a, ws10.contains n = true) ∧ (∀ n ∈ b, ws10.contains n = true) ∧ m = x :: t ∧ ws10.contains x = false ∧ m = m' ++ [y] ∧ ws10.contains y = false := by
  induction l with
  | nil => exact .inl (by simp)
  | cons c l ih =>
    cases hc : ws10.contains c with
    | true =>
      rcases ih with h | ⟨a, m, b, x, t, m', y, rfl, h1, h2, h3, h4, h5, h6⟩
      · exact .inl fun n hn => by
          rcases List.mem_cons.mp hn with rfl | hn
          · exact hc
          · exact h n hn
      · exact .inr ⟨c :: a, m, b, x, t, m', y, rfl, fun n hn => by
          rcases List.mem_cons.mp hn with rfl | hn
          · exact hc
          · exact h1 n hn, h2, h3, h4, h5, h6⟩
    | false =>
      rcases ih with h | ⟨a, m, b, x, t, m', y, rfl, h1, h2, h3, h4, h5, h6⟩
      · exact .inr ⟨[], [c], l, c, [], [], c, rfl, by simp, h, rfl, hc, rfl, hc⟩
      · exact .inr ⟨[], c :: (a ++ m), b, c, a ++ m, c :: (a ++ m'), y, by simp, by simp, h2, rfl, hc, by rw [h5]; simp, h6⟩

theorem space_ws : ∀ c, c < 128 → Unicode.isSpace c = ws10.contains c := by decide +kernel

theorem strip_val (l : List Nat) : Txt.strip (sI l) = sI ((l.drop (l.takeWhile Unicode.isSpace).length).take ((l.length - ((l.drop (l.takeWhile Unicode.isSpace).length).reverse.takeWhile Unicode.isSpace).length) - (l.takeWhile Unicode.isSpace).length)) := by
  have e0 : stripLo Unicode.isSpace true (sI l) = (l.takeWhile Unicode.isSpace).length := by simp [stripLo]
  have e1 : ∀ lo, stripHi Unicode.isSpace true (sI l) lo = l.length - ((l.drop lo).reverse.takeWhile Unicode.isSpace).length := fun lo => by
    unfold stripHi
    rw [if_pos rfl, sI_len]
  unfold Txt.strip Txt.stripBy
  by_cases hs : stripSame Unicode.isSpace true true (sI l) = true
  · rw [if_pos hs]
    unfold stripSame at hs
    rw [e0, e1, sI_len] at hs
    simp only [Bool.and_eq_true, beq_iff_eq] at hs
    obtain ⟨h1, h2⟩ := hs
    rw [h2, h1]
    simp
  · rw [if_neg hs]
    unfold PySem.stripped
    rw [e0, e1]
    unfold PySem.Builtin.Str.strSub
    refine congrArg Str.mk ?_
    simp
theorem tw_app {p : Nat → Bool} {a r : List Nat} (h : ∀ n ∈ a, p n = true) : (a ++ r).takeWhile p = a ++ r.takeWhile p := List.takeWhile_append_of_pos h

theorem strip_bare {l : List Nat} (h : ∀ n ∈ l, n < 128) : Txt.strip (sI l) = sI (bare l) := by
  have sp : ∀ n ∈ l, Unicode.isSpace n = ws10.contains n := fun n hn => space_ws n (h n hn)
  rw [strip_val]
  refine congrArg sI ?_
  rcases split_ws l with hw | ⟨a, m, b, x, t, m', y, rfl, h1, h2, h3, h4, h5, h6⟩
  · rw [bare_all hw]
    have : l.takeWhile Unicode.isSpace = l := by
      have := tw_app (r := []) (p := Unicode.isSpace) (a := l) fun n hn => (sp n hn).trans (hw n hn)
      simpa using this
    rw [this]
    simp
  · rw [bare_mid h1 h2 h3 h4 h5 h6]
    have ma : ∀ n ∈ a, Unicode.isSpace n = true := fun n hn => (sp n (by simp [hn])).trans (h1 n hn)
    have mb : ∀ n ∈ b, Unicode.isSpace n = true := fun n hn => (sp n (by simp [hn])).trans (h2 n hn)
    have mx : Unicode.isSpace x = false := (sp x (by rw [h3]; simp)).trans h4
    have my : Unicode.isSpace y = false := (sp y (by rw [h5]; simp)).trans h6
    have t1 : (a ++ m ++ b).takeWhile Unicode.isSpace = a := by
      rw [List.append_assoc, tw_app ma, h3, List.cons_append, List.takeWhile_cons_of_neg (by rw [mx]; decide), List.append_nil]
    have t2 : (m ++ b).reverse.takeWhile Unicode.isSpace = b.reverse := by
      rw [List.reverse_append, tw_app (by simpa using mb), h5, List.reverse_append, List.reverse_singleton, List.singleton_append, List.takeWhile_cons_of_neg (by rw [my]; decide), List.append_nil]
    rw [t1, List.append_assoc, List.drop_left, t2, List.length_reverse, List.length_append, List.length_append]
    rw [show a.length + (m.length + b.length) - b.length - a.length = m.length by lia, List.take_left]
end Mine

/- Pl3 -/
namespace Mine
open PySem PySem.W PySem.Calls PySem.Spec PyProof.Rows
set_option Elab.async false
set_option linter.unusedVariables false
set_option maxRecDepth 100000

def numsGo (left : Nat) : List Nat → List Nat
  | [] => []
  | c :: r => if c < 64 then (64 * left + c % 64) :: numsGo 0 r else numsGo (64 * left + c % 64) r
theorem foldl_nums : ∀ (l acc : List Nat) (left : Nat), (l.foldl tStep (acc, left)).1 = acc ++ numsGo left l
  | [], acc, left => by simp [numsGo]
  | c :: r, acc, left => by
    rw [List.foldl_cons, numsGo]
    by_cases h : c < 64
    · rw [show tStep (acc, left) c = (acc ++ [64 * left + c % 64], 0) by simp [tStep, h], foldl_nums r, if_pos h]
      simp
    · rw [show tStep (acc, left) c = (acc, 64 * left + c % 64) by simp [tStep, h], foldl_nums r, if_neg h]
theorem nums_go (l : List Nat) : nums l = numsGo 0 l := by
  unfold nums tAt
  rw [List.take_length, foldl_nums]
  rfl
theorem vgo_nums : ∀ (r : List Nat) (b left : Nat), (vgo b (64 * left + b % 64) r = none → numsGo left (b :: r) = []) ∧ (∀ n r', vgo b (64 * left + b % 64) r = some (n, r') → numsGo left (b :: r) = n :: numsGo 0 r')
  | [], b, left => by
    unfold vgo
    by_cases h : b < 64
    · simp only [if_pos h, numsGo]
      refine ⟨fun h => by simp at h, fun n r' e => ?_⟩
      cases e; rfl
    · simp [if_neg h, numsGo]
  | c :: r, b, left => by
    unfold vgo
    by_cases h : b < 64
    · simp only [if_pos h]
      refine ⟨fun h => by simp at h, fun n r' e => ?_⟩
      cases e
      rw [numsGo, if_pos h]
    · simp only [if_neg h]
      rw [numsGo, if_neg h]
      exact vgo_nums r c (64 * left + b % 64)
theorem vint_nums {l : List Nat} : (vint l = none → numsGo 0 l = []) ∧ (∀ n r', vint l = some (n, r') → numsGo 0 l = n :: numsGo 0 r') := by
  cases l with
  | nil => simp [vint, numsGo]
  | cons b r =>
    have := vgo_nums r b 0
    rw [Nat.mul_zero, Nat.zero_add] at this
    exact this
theorem fours_cons (a b c d : Nat) (r : List Nat) : fours (a :: b :: c :: d :: r) = [a, b, c, d] :: fours r := by
  unfold fours
  have : (a :: b :: c :: d :: r).length / 4 = r.length / 4 + 1 := by simp only [List.length_cons]; lia
  rw [this, List.range_succ_eq_map, List.map_cons, List.map_map]
  congr 1
theorem fours_few {ns : List Nat} (h : ns.length < 4) : fours ns = [] := by
  unfold fours
  rw [show ns.length / 4 = 0 by lia]
  rfl
theorem ents_fours : ∀ (k : Nat) (l : List Nat), l.length < k → (ents k l).map (fun q => [q.1, q.2.1, q.2.2.1, q.2.2.2]) = fours (numsGo 0 l)
  | 0, l, h => absurd h (Nat.not_lt_zero _)
  | k + 1, l, h => by
    unfold ents
    cases h1 : vint l with
    | none => rw [vint_nums.1 h1]; rfl
    | some p1 =>
      obtain ⟨a, l1⟩ := p1
      have e1 := vint_len h1
      rw [vint_nums.2 _ _ h1]
      dsimp only
      cases h2 : vint l1 with
      | none => rw [vint_nums.1 h2]; exact (fours_few (by simp)).symm
      | some p2 =>
        obtain ⟨b, l2⟩ := p2
        have e2 := vint_len h2
        rw [vint_nums.2 _ _ h2]
        dsimp only
        cases h3 : vint l2 with
        | none => rw [vint_nums.1 h3]; exact (fours_few (by simp)).symm
        | some p3 =>
          obtain ⟨c, l3⟩ := p3
          have e3 := vint_len h3
          rw [vint_nums.2 _ _ h3]
          dsimp only
          cases h4 : vint l3 with
          | none => rw [vint_nums.1 h4]; exact (fours_few (by simp)).symm
          | some p4 =>
            obtain ⟨d, l4⟩ := p4
            have e4 := vint_len h4
            rw [vint_nums.2 _ _ h4, fours_cons, ← ents_fours k l4 (by lia)]
            rfl
theorem read_told (l : List Nat) : read l = told l := by
  unfold read told
  rw [nums_go, ← ents_fours (l.length + 1) l (Nat.lt_succ_self _), List.map_map]
  rfl
end Mine

/- Pl4 -/
namespace Mine
open PySem PySem.W PySem.Calls PySem.Spec PyProof.Rows
set_option Elab.async false
set_option linter.unusedVariables false
set_option maxRecDepth 100000

/-- one of the header's items -/
def seg (q : Kv) : List Nat := q.1 ++ [61] ++ marked q.2
def Plain (k : List Nat) : Prop := ∀ c ∈ k, c ≠ 44 ∧ c ≠ 34

theorem fold_plain : ∀ (k : List Nat) (res : List (List Nat)) (part : List Nat), Plain k → k.foldl hStep ⟨res, part, false, false⟩ = ⟨res, part ++ k, false, false⟩
  | [], res, part, h => by simp
  | c :: k, res, part, h => by
    have ⟨h1, h2⟩ := h c (.head _)
    rw [List.foldl_cons, show hStep ⟨res, part, false, false⟩ c = ⟨res, part ++ [c], false, false⟩ by simp [hStep, h1, h2], fold_plain k _ _ fun c hc => h c (.tail _ hc)]
    simp
theorem fold_mark : ∀ (r : List Nat) (res : List (List Nat)) (part : List Nat), (r.flatMap mark).foldl hStep ⟨res, part, false, true⟩ = ⟨res, part ++ r, false, true⟩
  | [], res, part => by simp
  | o :: r, res, part => by
    rw [List.flatMap_cons, List.foldl_append]
    have : (mark o).foldl hStep ⟨res, part, false, true⟩ = ⟨res, part ++ [o], false, true⟩ := by
      unfold mark
      split
      · simp [hStep]
      · rename_i h
        have h1 : o ≠ 34 := fun q => h (by simp [q])
        have h2 : o ≠ 92 := fun q => h (by simp [q])
        simp [hStep, h1, h2]
    rw [this, fold_mark r]
    simp
theorem fold_seg (q : Kv) (hq : Plain q.1) (res : List (List Nat)) (part : List Nat) : (seg q).foldl hStep ⟨res, part, false, false⟩ = ⟨res, part ++ elt1 q, false, false⟩ := by
  unfold seg marked
  simp only [List.foldl_append]
  rw [fold_plain _ _ _ hq]
  have e1 : [61].foldl hStep ⟨res, part ++ q.1, false, false⟩ = ⟨res, part ++ q.1 ++ [61], false, false⟩ := by simp [hStep]
  have e2 : [34].foldl hStep ⟨res, part ++ q.1 ++ [61], false, false⟩ = ⟨res, part ++ q.1 ++ [61] ++ [34], false, true⟩ := by simp [hStep]
  rw [e1, e2, fold_mark]
  simp [hStep, elt1]
def segs : List Kv → List Nat := fun kvs => jn [44, 32] (kvs.map seg)
theorem fold_segs : ∀ (kvs : List Kv) (q : Kv) (res : List (List Nat)) (part : List Nat), (∀ p ∈ q :: kvs, Plain p.1) →
    ∃ R P, (segs (q :: kvs)).foldl hStep ⟨res, part, false, false⟩ = ⟨R, P, false, false⟩ ∧ P ≠ [] ∧ R ++ [P] = res ++ (part ++ elt1 q) :: kvs.map fun q => 32 :: elt1 q
  | [], q, res, part, h => by
    refine ⟨res, part ++ elt1 q, ?_, by simp, by simp⟩
    show (seg q).foldl _ _ = _
    exact fold_seg q (h q (.head _)) res part
  | q2 :: kvs, q, res, part, h => by
    have e : segs (q :: q2 :: kvs) = seg q ++ [44, 32] ++ segs (q2 :: kvs) := rfl
    rw [e, List.foldl_append, List.foldl_append, fold_seg q (h q (.head _))]
    have e2 : [44, 32].foldl hStep ⟨res, part ++ elt1 q, false, false⟩ = ⟨res ++ [part ++ elt1 q], [32], false, false⟩ := by simp [hStep]
    rw [e2]
    obtain ⟨R, P, h1, h2, h3⟩ := fold_segs kvs q2 (res ++ [part ++ elt1 q]) [32] fun p hp => h p (.tail _ hp)
    exact ⟨R, P, h1, h2, by rw [h3]; simp⟩
theorem hParts_segs {kvs : List Kv} {q : Kv} (h : ∀ p ∈ q :: kvs, Plain p.1) : hParts (segs (q :: kvs)) = elt1 q :: kvs.map fun q => 32 :: elt1 q := by
  obtain ⟨R, P, h1, h2, h3⟩ := fold_segs kvs q [] [] h
  unfold hParts hAt
  rw [List.take_length, h1, if_pos h2]
  simpa using h3
theorem bare_elt {q : Kv} {c : Nat} {k : List Nat} (hk : q.1 = c :: k) (hc : ws10.contains c = false) : bare (elt1 q) = elt1 q ∧ bare (32 :: elt1 q) = elt1 q := by
  have e1 : elt1 q = c :: (k ++ 61 :: (34 :: q.2 ++ [34])) := by unfold elt1; rw [hk]; rfl
  have e2 : elt1 q = (q.1 ++ 61 :: 34 :: q.2) ++ [34] := by unfold elt1; simp
  constructor
  · have := bare_mid (a := []) (b := []) (by simp) (by simp) e1 hc e2 (by decide)
    simpa using this
  · have := bare_mid (a := [32]) (b := []) (by simp [ws10]) (by simp) e1 hc e2 (by decide)
    simpa using this
theorem bares_segs {kvs : List Kv} {q : Kv} (h : ∀ p ∈ q :: kvs, Plain p.1) (h2 : ∀ p ∈ q :: kvs, ∃ c k, p.1 = c :: k ∧ ws10.contains c = false) : (hParts (segs (q :: kvs))).map bare = (q :: kvs).map elt1 := by
  rw [hParts_segs h, List.map_cons, List.map_cons, List.map_map]
  obtain ⟨c, k, e, hc⟩ := h2 q (.head _)
  rw [(bare_elt e hc).1]
  congr 1
  refine List.map_congr_left fun p hp => ?_
  obtain ⟨c, k, e, hc⟩ := h2 p (.tail _ hp)
  exact (bare_elt e hc).2
end Mine

/- Law0 -/
namespace Mine
open PySem PySem.W PySem.Calls PySem.Spec PyProof.Rows
set_option Elab.async false
set_option linter.unusedVariables false
set_option maxRecDepth 100000

def rowOf (q : List Nat) : List Nat := q.flatMap octs
def rowsOf (xs : List Int) : List (List Nat) := (blks (xs.take 4)).map rowOf
def wholeOf (xs : List Int) : List Nat := (rowsOf xs).flatten

theorem octs_ok {n : Nat} (h : n < 4096) : (octs n).length ≤ 2 ∧ ∀ o ∈ octs n, o < 128 := by
  unfold octs
  split
  · refine ⟨by simp, fun o ho => ?_⟩
    simp only [List.mem_cons, List.not_mem_nil, or_false] at ho
    rcases ho with rfl | rfl <;> lia
  · refine ⟨by simp, fun o ho => ?_⟩
    simp only [List.mem_cons, List.not_mem_nil, or_false] at ho
    subst ho; lia
theorem pick8_lt (k : Nat) : pick8.getD k 0 < 4096 := by
  by_cases h : k < 8
  · have : ∀ k, k < 8 → pick8.getD k 0 < 4096 := by decide
    exact this k h
  · rw [List.getD_eq_getElem?_getD, List.getElem?_eq_none (by simp [pick8]; lia)]; decide
theorem blk_ok (x : Int) : (blk x).length = 4 ∧ ∀ n ∈ blk x, n < 4096 := by
  refine ⟨rfl, fun n hn => ?_⟩
  unfold blk at hn
  simp only [List.mem_cons, List.not_mem_nil, or_false] at hn
  have := pick8_lt (x / 4096 % 8).toNat
  rcases hn with rfl | rfl | rfl | rfl <;> lia
theorem blks_ok (xs : List Int) : ∀ q ∈ blks xs, q.length = 4 ∧ ∀ n ∈ q, n < 4096 := by
  intro q hq
  unfold blks at hq
  rcases List.mem_append.mp hq with h | h
  · have : ∀ q ∈ [[5, 44, 34, 7], [1836, 2, 34, 32], [13, 65, 3, 5]], q.length = 4 ∧ ∀ n ∈ q, n < 4096 := by decide
    exact this q h
  · obtain ⟨x, _, rfl⟩ := List.mem_map.mp h
    exact blk_ok x
theorem flatm_len {α β : Type} {f : α → List β} {k : Nat} : ∀ (l : List α), (∀ a ∈ l, (f a).length ≤ k) → (l.flatMap f).length ≤ k * l.length
  | [], _ => by simp
  | a :: l, h => by
    have h1 := h a (.head _)
    have h2 := flatm_len l fun a ha => h a (.tail _ ha)
    rw [List.flatMap_cons, List.length_append, List.length_cons, Nat.mul_succ]
    lia
theorem row_ok {q : List Nat} (h : q.length = 4 ∧ ∀ n ∈ q, n < 4096) : (rowOf q).length ≤ 8 ∧ ∀ o ∈ rowOf q, o < 128 := by
  unfold rowOf
  refine ⟨?_, fun o ho => ?_⟩
  · have := flatm_len (f := octs) (k := 2) q fun n hn => (octs_ok (h.2 n hn)).1
    lia
  · obtain ⟨n, hn, ho⟩ := List.mem_flatMap.mp ho
    exact (octs_ok (h.2 n hn)).2 o ho
theorem rows_ok (xs : List Int) : (rowsOf xs).length = 3 + min 4 xs.length ∧ ∀ r ∈ rowsOf xs, r.length ≤ 8 ∧ ∀ o ∈ r, o < 128 := by
  unfold rowsOf
  refine ⟨by simp [blks]; lia, fun r hr => ?_⟩
  obtain ⟨q, hq, rfl⟩ := List.mem_map.mp hr
  exact row_ok (blks_ok _ q hq)
theorem whole_ok (xs : List Int) : (wholeOf xs).length ≤ 56 ∧ ∀ o ∈ wholeOf xs, o < 128 := by
  have h := rows_ok xs
  unfold wholeOf
  refine ⟨?_, fun o ho => ?_⟩
  · have := flatm_len (f := fun r : List Nat => r) (k := 8) (rowsOf xs) fun r hr => (h.2 r hr).1
    rw [List.flatMap_id'] at this
    lia
  · obtain ⟨r, hr, ho⟩ := List.mem_flatten.mp ho
    exact (h.2 r hr).2 o ho
end Mine

/- Lend -/
namespace Mine
open PySem PySem.W PySem.Calls PySem.Spec PyProof.Rows
set_option Elab.async false
set_option linter.unusedVariables false
set_option maxRecDepth 100000
set_option maxHeartbeats 1000000

section
variable {g : Gd} {A : Around} {env : Env} {ρ ρ' : Rho} {N N' W : List Addr} {s₀ s s' : Shared} {c : Addr}

/-- where a stretch begins that leaves c alone -/
def lent (N' : List Addr) (s : Shared) : Shared := { s with heap := hideAll s.heap N' }

theorem In.lend (i : In g A env ρ N W s₀ s) (h1 : ∀ a ∈ N', a ∈ N) (hc : c ∈ N) (h3 : ∀ a ∈ N, a ≠ c → a ∈ N') (h4 : c ∉ N') (hl : env.locals ∈ N') : In g A env ρ N' (c :: W) (lent N' s) s := by
  have cT := i.neT hc
  have sub : ∀ a ∈ N' ++ c :: W, a ∈ N ++ W := fun a ha => by
    rcases List.mem_append.mp ha with h | h
    · exact List.mem_append_left _ (h1 a h)
    · rcases List.mem_cons.mp h with rfl | h
      · exact List.mem_append_left _ hc
      · exact List.mem_append_right _ h
  have sup : ∀ a ∈ N ++ W, a ∈ N' ++ c :: W := fun a ha => by
    rcases List.mem_append.mp ha with h | h
    · by_cases q : a = c
      · subst q; exact List.mem_append_right _ (.head _)
      · exact List.mem_append_left _ (h3 a h q)
    · exact List.mem_append_right _ (.tail _ h)
  have hT' : tT ∉ N' := fun h => i.neT (h1 _ h) rfl
  have hTW : tT ∈ W := i.w0.tW
  refine ⟨⟨⟨s.heap, s.toks, rfl⟩, fun b o _ e => of_hideAll _ e, fun b o _ _ e => ⟨o.slots, of_hideAll _ e, fun _ => rfl⟩, fun x => x.keeps fun b o e => of_hideAll _ e⟩, fun a ha => hideAll_none _ ha, ⟨⟨List.mem_append_right _ (.tail _ hTW), i.wo.wd.tab, fun a ha => i.wo.wd.live a (sub a ha), i.wo.wd.known.keeps (hide_less sub), ?_⟩, ?_, fun p hp => ?_⟩, i.ns, hl, ⟨.tail _ hTW, ?_, fun a ha => ?_⟩⟩
  · have e1 := Mk.iff (N := N') (W := c :: W) fun a ha => i.neT (h1 a ha)
    have e2 := Mk.iff (N := [c]) (W := W) fun a ha => by obtain rfl : a = c := (by simpa using ha); exact cT
    have e3 := Mk.iff (N := N) (W := W) fun a ha => i.neT ha
    exact e1.trans (e2.trans (e3.symm.trans i.wo.wd.mode))
  · obtain ⟨envs, e, h⟩ := i.wo.fs
    exact ⟨envs, e, fun env he => let ⟨h1, L, o, es, ep, h2, h3, r⟩ := h env he; ⟨h1, L, o, es, ep, h2, sup L h3, r⟩⟩
  · obtain ⟨v, y, r⟩ := i.wo.vs p hp
    exact ⟨v, y, r.less sub⟩
  · obtain ⟨ps, e, r⟩ := i.wo.wd.tab
    exact ⟨ps, hideAll_get _ e hT', r⟩
  · have haN : a ∉ N' := fun h => by
      rcases List.mem_cons.mp ha with rfl | q
      · exact h4 h
      · obtain ⟨o, e⟩ := i.w0.live a q
        rw [i.new a (h1 a h)] at e; cases e
    obtain ⟨o, e⟩ := i.wo.wd.live a (sub a (List.mem_append_right _ ha))
    exact ⟨o, hideAll_get _ e haN⟩

theorem In.back (i : In g A env ρ N W s₀ s) (h1 : ∀ a ∈ N', a ∈ N) (hc : c ∈ N) (h3 : ∀ a ∈ N, a ≠ c → a ∈ N') (h4 : c ∉ N') (i' : In g A env ρ' N' (c :: W) (lent N' s) s') :
    In g A env ρ' N W s₀ s' ∧ ∀ v, s.heap.IsCell c v → s'.heap.IsCell c v := by
  have cT := i.neT hc
  have sub : ∀ a ∈ N ++ W, a ∈ N' ++ c :: W := fun a ha => by
    rcases List.mem_append.mp ha with h | h
    · by_cases q : a = c
      · subst q; exact List.mem_append_right _ (.head _)
      · exact List.mem_append_left _ (h3 a h q)
    · exact List.mem_append_right _ (.tail _ h)
  have sup : ∀ a ∈ N' ++ c :: W, a ∈ N ++ W := fun a ha => by
    rcases List.mem_append.mp ha with h | h
    · exact List.mem_append_left _ (h1 a h)
    · rcases List.mem_cons.mp h with rfl | h
      · exact List.mem_append_left _ hc
      · exact List.mem_append_right _ h
  have hT' : tT ∉ N' := fun h => i.neT (h1 _ h) rfl
  have off : ∀ b o, s₀.heap.get? b = some o → b ∉ N := fun b o e h => by rw [i.new b h] at e; cases e
  refine ⟨⟨⟨?_, fun b o hb e => ?_, fun b o hb hT e => ?_, fun x => ?_⟩, i.new, ⟨⟨List.mem_append_right _ i.w0.tW, i'.wo.wd.tab, fun a ha => i'.wo.wd.live a (sub a ha), i'.wo.wd.known.keeps (hide_less sub), (Mk.iff fun a ha => i.neT ha).trans ((Mk.iff fun a ha => i.neT ha).symm.trans i.wo.wd.mode)⟩, ?_, fun p hp => ?_⟩, i'.ns, h1 _ i'.loc, i.w0⟩, fun v hv => ?_⟩
  · obtain ⟨h, t, e⟩ := i.kept.same
    obtain ⟨h', t', e'⟩ := i'.kept.same
    refine ⟨h', t', ?_⟩
    rw [e']; unfold lent; rw [e]
  · have e1 := i.kept.keep b o hb e
    have hN := off b o e
    refine i'.kept.keep b o (fun hm => ?_) (hideAll_get _ e1 fun h => hN (h1 b h))
    rcases List.mem_cons.mp hm with rfl | h
    · exact hN hc
    · exact hb h
  · obtain ⟨sl, e1, q1⟩ := i.kept.slots b o hb hT e
    have hN := off b o e
    obtain ⟨sl2, e2, q2⟩ := i'.kept.slots b _ (.tail _ hb) hT (hideAll_get _ e1 fun h => hN (h1 b h))
    exact ⟨sl2, e2, fun h => (q2 (h.imp_right (Mk.app (N := [c])))).trans (q1 h)⟩
  · obtain ⟨ps, e, r⟩ := i.kept.tab x
    exact i'.kept.tab ⟨ps, hideAll_get _ e hT', r⟩
  · obtain ⟨envs, e, h⟩ := i'.wo.fs
    exact ⟨envs, e, fun env he => let ⟨h1, L, o, es, ep, h2, h3, r⟩ := h env he; ⟨h1, L, o, es, ep, h2, sup L h3, r⟩⟩
  · obtain ⟨v, y, r⟩ := i'.wo.vs p hp
    exact ⟨v, y, r.less sub⟩
  · obtain ⟨o, e, r⟩ := hv
    obtain ⟨sl, e', _⟩ := i'.kept.slots c o (.head _) cT (hideAll_get _ e h4)
    exact ⟨_, e', r⟩
end
end Mine

/- Shap2 -/
namespace Mine
open PySem PySem.W PySem.Calls PySem.Spec PyProof.Rows
set_option Elab.async false
set_option linter.unusedVariables false
set_option maxRecDepth 100000
set_option maxHeartbeats 1000000

theorem Sh.ofStr {n : Nat} (s : String) : Sh n (.str (Str.ofString s)) := by
  refine ⟨?_, by simp [PyData.depth]⟩
  rw [Str.ofString_eq_toList]
  simp only [PyData.canLay0, PyData.strOk, List.all_toArray, List.all_map, List.all_eq_true, Function.comp, decide_eq_true_eq]
  intro c _
  have := c.valid
  show c.val.toNat < _
  rcases this with h | h
  · have : c.val.toNat < 0xD800 := h
    lia
  · have : c.val.toNat < 0x110000 := h.2
    lia
theorem Sh.pR {l : List Str} (h : ∀ x ∈ l, ∃ s, x = Str.ofString s) : Sh 1 (pR l) := Sh.lmap fun x hx => by obtain ⟨s, rfl⟩ := h x hx; exact Sh.ofStr s
theorem sh_told {l : List Nat} : Sh 2 (pT (told l)) := Sh.lmap fun r hr => by
  obtain ⟨q, _, rfl⟩ := List.mem_map.mp hr
  refine Sh.pR fun x hx => ?_
  unfold row4 at hx
  simp only [List.mem_cons, List.not_mem_nil, or_false] at hx
  rcases hx with rfl | rfl | rfl | rfl | rfl
  · exact ⟨_, rfl⟩
  · exact ⟨_, rfl⟩
  · exact ⟨_, rfl⟩
  · exact ⟨_, rfl⟩
  · unfold yes; split <;> exact ⟨_, rfl⟩
theorem EqF.str : EqF PyData.str := fun a b => by
  simp only [PyData.eqv]
  by_cases h : a = b
  · subst h; simp
  · simp [h]
theorem eqf_pT : EqF pT := EqF.list (EqF.list EqF.str)
theorem eqf_pTs : EqF fun l : List (List (List Str)) => PyData.list (l.map pT) := EqF.list eqf_pT
theorem sh_tolds {ls : List (List Nat)} : Sh 3 (.list ((ls.map told).map pT)) := by
  rw [List.map_map]
  exact Sh.lmap fun p _ => sh_told

/-- parse_http_list, as the law's own cut says -/
theorem http_cut {g : Gd} {f : Addr} {cdv : Value} (F : Fd g "parse_http_list" 9 f cdv) {l : List Nat} (hl : l.length ≤ 1000) (h : ∀ n ∈ l, n < 128) : Sp1 g f 1 (pS l) (.list ((cut l).map pS)) := by
  have := http_sp F hl
  have e : ((hParts l).map fun p => PyData.str (Txt.strip (sI p))) = (cut l).map pS := by
    rw [← hParts_cut, List.map_map]
    exact List.map_congr_left fun p hp => congrArg PyData.str (strip_bare (hParts_mem h p hp))
  rw [e] at this
  exact this
end Mine

/- Law00 -/
namespace Mine
open PySem PySem.W PySem.Calls PySem.Spec PyProof.Rows
set_option Elab.async false
set_option linter.unusedVariables false
set_option maxRecDepth 100000
theorem bare_sub {l : List Nat} : (bare l).length ≤ l.length ∧ ∀ n ∈ bare l, n ∈ l := by
  unfold bare
  split
  · simp
  · refine ⟨by simp only [List.length_take, List.length_drop]; lia, fun n hn => List.mem_of_mem_drop (List.mem_of_mem_take hn)⟩
theorem hParts_len {l : List Nat} : (hParts l).length ≤ l.length + 1 ∧ ∀ p ∈ hParts l, p.length ≤ l.length := by
  have h1 := hAt_len l l.length
  have h2 := hAt_part l l.length
  unfold hParts
  refine ⟨?_, fun p hp => ?_⟩
  · rw [List.length_append]
    split <;> simp <;> lia
  · rcases List.mem_append.mp hp with h | h
    · exact h2 p h
    · split at h
      · obtain rfl : p = _ := by simpa using h
        lia
      · simp at h
theorem cut_ok {l : List Nat} (h : ∀ n ∈ l, n < 128) : (cut l).length ≤ l.length + 1 ∧ ∀ p ∈ cut l, p.length ≤ l.length ∧ ∀ n ∈ p, n < 128 := by
  rw [← hParts_cut]
  refine ⟨by rw [List.length_map]; exact hParts_len.1, fun p hp => ?_⟩
  obtain ⟨q, hq, rfl⟩ := List.mem_map.mp hp
  have b := bare_sub (l := q)
  exact ⟨Nat.le_trans b.1 (hParts_len.2 q hq), fun n hn => hParts_mem h q hq n (b.2 n hn)⟩
theorem jn_single (l : List Nat) : jn [] (l.map fun c => [c]) = l := by
  rw [jn_nil]
  induction l with
  | nil => rfl
  | cons a r ih => simp [ih]
theorem sum_single (l : List Nat) : ((l.map fun c => [c]).map List.length).sum = l.length := by
  induction l with
  | nil => rfl
  | cons a r ih => simp only [List.map_cons, List.sum_cons, ih, List.length_cons, List.length_nil]; lia
end Mine

/- Law2 -/
namespace Mine
open PySem PySem.W PySem.Calls PySem.Spec PyProof.Rows
set_option Elab.async false
set_option linter.unusedVariables false
set_option maxRecDepth 100000
set_option maxHeartbeats 1000000

/-- parse_keqv_list, called where slots may turn: it raises nothing, so none does -/
theorem keqv_call {g : Gd} {f : Addr} {cdv : Value} (F : Fd g "parse_keqv_list" 8 f cdv) {kvs : List Kv} (hl : kvs.length ≤ 100) (hnd : (kvs.map (·.1)).Nodup) (hk : ∀ p ∈ kvs, 61 ∉ p.1 ∧ (elt1 p).length ≤ 1000 ∧ ∀ n ∈ elt1 p, n < 256)
    {A : Around} {W : List Addr} {s : Shared} {v : Value} (rm : Rm A 1) (w : Wd g W s) (fs : Fs A W s) (r : Rd W s v (.list (kvs.map fun p => pS (elt1 p)))) {E : Value → Shared → Prop} {Q : Value → Shared → Prop}
    (h : ∀ D vs s', Kept W s s' → s.heap.get? D = none → s'.heap.DictOf (PySem.strKind g.prog g.w) D vs → KvIs vs kvs → (D == sysModules) = false → Q (.ref D) s') : wpAny g.M A (call (.ref f) [v]) Q E s := by
  have sub : ∀ a ∈ tT :: W, a ∈ W := fun a ha => by
    rcases List.mem_cons.mp ha with rfl | h
    · exact w.tW
    · exact h
  have sup : ∀ a ∈ W, a ∈ tT :: W := fun a h => .tail _ h
  have mk : Mk (tT :: W) := by
    unfold Mk
    have := List.count_pos_iff.mpr w.tW
    rw [List.count_cons_self]; lia
  have F' : Fd { g with ex := true } "parse_keqv_list" 8 f cdv := ⟨F.at_, F.ob, F.cd⟩
  have w' : Wd { g with ex := true } (tT :: W) s := ⟨.head _, w.tab, fun a ha => w.live a (sub a ha), let k := w.known.keeps (hide_less sub); ⟨k.k, k.top, k.code, k.more⟩, ⟨fun _ => rfl, fun _ => mk⟩⟩
  have fs' : Fs A (tT :: W) s := by
    obtain ⟨envs, e, hh⟩ := fs
    exact ⟨envs, e, fun env he => let ⟨h1, L, o, es, ep, h2, h3, r⟩ := hh env he; ⟨h1, L, o, es, ep, h2, sup L h3, r⟩⟩
  refine keqv_sp (g := { g with ex := true }) rfl F' hl hnd hk A (tT :: W) s v rm w' fs' (r.less sub) E Q fun v' s' k' ⟨D, vs, e1, e2, e3, e4, e5⟩ => ?_
  subst e1
  refine h D vs s' ⟨k'.same, fun b o hb e => k'.keep b o (fun hm => hb (sub b hm)) e, fun b o hb hT e => ?_, k'.tab⟩ e2 e3 e4 e5
  obtain ⟨sl, e', q⟩ := k'.slots b o (sup b hb) hT e
  exact ⟨sl, e', fun _ => q (.inr mk)⟩
end Mine

/- Law1 -/
namespace Mine
open PySem PySem.W PySem.Calls PySem.Spec PyProof.Rows
set_option Elab.async false
set_option linter.unusedVariables false
set_option maxRecDepth 100000
set_option maxHeartbeats 4000000

/-- what law needs of the ground -/
structure Lg (g : Gd) : Prop where
  T : Tg g
  F8 : ∃ f c, Fd g "parse_keqv_list" 8 f c
  F9 : ∃ f c, Fd g "parse_http_list" 9 f c
  F6 : ∃ f c, Fd g "_parse_exception_table" 6 f c
  F11 : ∃ f c, Fd g "_law_blocks" 11 f c
  F12 : ∃ f c, Fd g "_law_octets" 12 f c
  F13 : ∃ f, Fd g "_law_read" 13 f (.ref tC)
  F14 : ∃ f c, Fd g "_law_marked" 14 f c
  F15 : ∃ f c, Fd g "_law_bare" 15 f c
  F16 : ∃ f c, Fd g "_law_cut" 16 f c
  F17 : ∃ f c, Fd g "_law_told" 17 f c
  bA : Bn g "abs" (.builtin "abs")
  bR : Bn g "range" (.type "range")
  bL : Bn g "len" (.builtin "len")
  bS : Bn g "str" (.type "str")
  bC : Bn g "chr" (.builtin "chr")
  bO : Bn g "ord" (.builtin "ord")
  bY : Bn g "bytes" (.type "bytes")
  bLi : Bn g "list" (.type "list")

section
variable {g : Gd} {A : Around} {env : Env} {ρ : Rho} {N W : List Addr} {s₀ s : Shared} {pos : Pos}
/-- x = e, x a cell -/
theorem nx_cell {x : Str} {px : Pos} {c : Addr} {v₀ : Option Value} {e : Expr} {d : PyData} {rest : List Stmt} (i : In g A env ρ N W s₀ s) (hf : env.scope.kind = .function) (hx : env.kindOf x = some .cell) (hc : env.cells.lookup x = some c) (hcN : c ∈ N) (hv : s.heap.IsCell c v₀) (hu : ∀ y, env.cells.lookup y = some c → y = x)
    (hw : swapsWith e (some (.Name x px)) pos.line env = pure false) (he : Ex g A env ρ e d) {E : Value → Shared → Prop} {Q : Flow → Shared → Prop} (h : ∀ s', In g A env (upd x d ρ) N W s₀ s' → wpAny g.M A (execs rest env) Q E s') : wpAny g.M A (execs (.Assign [.Name x px] e pos :: rest) env) Q E s :=
  next_cons (wpAny_Assign_Name (he.run _ s i.wo E _ fun v s₁ k r => (i.step k).cell hf hx hc hcN (Cell.kept hv k (i.neT hcN)) hu fun h' hs hk hh i' => ⟨rfl, h _ (i'.know hh (r.own (k := s₁.toks) hs (List.mem_append_left _ hcN)))⟩) hw)
end

def kvsOf (xs : List Int) : List Kv := (List.range (rowsOf xs).length).map fun p => ([101, 48 + p], (rowsOf xs).getD p [])

theorem marked_len {r : List Nat} (h : r.length ≤ 8) : (marked r).length ≤ 18 := by
  have := flatm_len (f := mark) (k := 2) r fun o _ => mark_len o
  unfold marked
  simp only [List.length_append, List.length_cons, List.length_nil]
  lia
theorem kvs_row {xs : List Int} {q : Kv} (h : q ∈ kvsOf xs) : ∃ p, p < (rowsOf xs).length ∧ q.1 = [101, 48 + p] ∧ q.2 = (rowsOf xs).getD p [] ∧ q.2 ∈ rowsOf xs := by
  obtain ⟨p, hp, rfl⟩ := List.mem_map.mp h
  have hp : p < (rowsOf xs).length := by simpa using hp
  refine ⟨p, hp, rfl, rfl, ?_⟩
  show (rowsOf xs).getD p [] ∈ _
  rw [List.getD_eq_getElem?_getD, List.getElem?_eq_getElem hp]; exact List.getElem_mem hp
theorem sum_le {l : List (List Nat)} {k : Nat} (h : ∀ x ∈ l, x.length ≤ k) : (l.map List.length).sum ≤ k * l.length := by
  induction l with
  | nil => simp
  | cons a r ih =>
    have h1 := h a (.head _)
    have h2 := ih fun x hx => h x (.tail _ hx)
    simp only [List.map_cons, List.sum_cons, List.length_cons, Nat.mul_succ]
    lia
theorem kvs_len {xs : List Int} (h : ∀ r ∈ rowsOf xs, r.length ≤ 8 ∧ ∀ o ∈ r, o < 128) : (((kvsOf xs).map seg).map List.length).sum ≤ 21 * (kvsOf xs).length := by
  have := sum_le (l := (kvsOf xs).map seg) (k := 21) fun x hx => by
    obtain ⟨q, hq, rfl⟩ := List.mem_map.mp hx
    obtain ⟨p, _, e1, _, e3⟩ := kvs_row hq
    have := marked_len (h _ e3).1
    unfold seg
    rw [e1]
    simp only [List.length_append, List.length_cons, List.length_nil]
    lia
  rwa [List.length_map] at this

end Mine

/- Law3 -/
namespace Mine
open PySem PySem.W PySem.Calls PySem.Spec PyProof.Rows
set_option Elab.async false
set_option linter.unusedVariables false
set_option maxRecDepth 100000
set_option maxHeartbeats 1000000

theorem jn_mem {P : Nat → Prop} {sep : List Nat} (hs : ∀ n ∈ sep, P n) : ∀ ls : List (List Nat), (∀ l ∈ ls, ∀ n ∈ l, P n) → ∀ n ∈ jn sep ls, P n
  | [], _, n, h => by simp [jn] at h
  | [x], hl, n, h => hl x (.head _) n h
  | x :: y :: r, hl, n, h => by
    rw [jn, List.mem_append, List.mem_append] at h
    rcases h with (h | h) | h
    · exact hl x (.head _) n h
    · exact hs n h
    · exact jn_mem hs (y :: r) (fun l hm => hl l (.tail _ hm)) n h
theorem jn_len {sep : List Nat} : ∀ ls : List (List Nat), (jn sep ls).length ≤ (ls.map List.length).sum + ls.length * sep.length
  | [] => by simp [jn]
  | [x] => by simp [jn]
  | x :: y :: r => by
    have := jn_len (sep := sep) (y :: r)
    rw [jn]
    simp only [List.length_append, List.map_cons, List.sum_cons, List.length_cons] at this ⊢
    rw [Nat.succ_mul]
    lia
theorem seg_mem {xs : List Int} {q : Kv} (h : q ∈ kvsOf xs) : (∀ n ∈ seg q, n < 128) ∧ (∀ n ∈ elt1 q, n < 128) ∧ Plain q.1 ∧ (∃ c k, q.1 = c :: k ∧ ws10.contains c = false) ∧ 61 ∉ q.1 ∧ (elt1 q).length ≤ 20 := by
  obtain ⟨p, hp, e1, e2, e3⟩ := kvs_row h
  have hr := rows_ok xs
  obtain ⟨r1, r2⟩ := hr.2 _ e3
  have hp7 : p < 7 := by have := hr.1; lia
  have hkey : ∀ n ∈ q.1, n < 128 ∧ n ≠ 44 ∧ n ≠ 34 ∧ n ≠ 61 := fun n hn => by
    rw [e1] at hn
    simp only [List.mem_cons, List.not_mem_nil, or_false] at hn
    rcases hn with rfl | rfl <;> lia
  refine ⟨fun n hn => ?_, fun n hn => ?_, fun c hc => ⟨(hkey c hc).2.1, (hkey c hc).2.2.1⟩, ⟨101, [48 + p], e1, by decide⟩, fun hm => (hkey _ hm).2.2.2 rfl, ?_⟩
  · unfold seg marked at hn
    simp only [List.mem_append, List.mem_cons, List.not_mem_nil, or_false, List.mem_flatMap] at hn
    rcases hn with (h | h) | (h | ⟨o, ho, h⟩) | h
    · exact (hkey n h).1
    · lia
    · lia
    · unfold mark at h
      have := r2 o ho
      simp only [List.mem_append, List.mem_cons, List.not_mem_nil, or_false] at h
      rcases h with h | rfl
      · split at h
        · simp at h; lia
        · simp at h
      · exact this
    · lia
  · unfold elt1 at hn
    simp only [List.mem_append, List.mem_cons, List.not_mem_nil, or_false, List.cons_append] at hn
    rcases hn with h | h | h | h | h
    · exact (hkey n h).1
    · lia
    · lia
    · exact r2 n h
    · lia
  · unfold elt1
    rw [e1]
    simp only [List.length_append, List.length_cons, List.length_nil]
    lia
theorem kvs_cons (xs : List Int) : ∃ q r, kvsOf xs = q :: r := by
  have := (rows_ok xs).1
  cases h : kvsOf xs with
  | nil =>
    have e := congrArg List.length h
    unfold kvsOf at e
    rw [List.length_map, List.length_range, List.length_nil] at e
    lia
  | cons q r => exact ⟨q, r, rfl⟩
theorem cut_segs (xs : List Int) : cut (segs (kvsOf xs)) = (kvsOf xs).map elt1 := by
  obtain ⟨q, r, e⟩ := kvs_cons xs
  rw [← hParts_cut, e]
  rw [bares_segs (fun p hp => (seg_mem (e ▸ hp)).2.2.1) (fun p hp => (seg_mem (e ▸ hp)).2.2.2.1)]
theorem header_sp {g : Gd} {f : Addr} {cdv : Value} (F : Fd g "parse_http_list" 9 f cdv) (xs : List Int) : Sp1 g f 1 (pS (segs (kvsOf xs))) (.list ((kvsOf xs).map fun p => pS (elt1 p))) := by
  have hr := rows_ok xs
  have h1 := kvs_len hr.2 (xs := xs)
  have h2 : (kvsOf xs).length ≤ 7 := by unfold kvsOf; rw [List.length_map, List.length_range]; lia
  have h3 := jn_len (sep := [44, 32]) ((kvsOf xs).map seg)
  have := http_cut F (l := segs (kvsOf xs)) (by unfold segs; rw [List.length_map] at h3; simp only [List.length_cons, List.length_nil] at h3; lia) (jn_mem (by simp) _ fun l hl => by
    obtain ⟨q, hq, rfl⟩ := List.mem_map.mp hl
    exact (seg_mem hq).1)
  rw [cut_segs, List.map_map] at this
  exact this
theorem keys_nodup (xs : List Int) : ((kvsOf xs).map (·.1)).Nodup := by
  unfold kvsOf
  rw [List.map_map]
  refine List.Pairwise.map _ (fun a b hab => ?_) List.nodup_range
  intro h
  have : [101, 48 + a] = [101, 48 + b] := h
  simp at this
  exact hab this
end Mine

/- Law5 -/
namespace Mine
open PySem PySem.W PySem.Calls PySem.Spec PyProof.Rows
set_option Elab.async false
set_option linter.unusedVariables false
set_option maxRecDepth 100000
set_option maxHeartbeats 1000000

section
variable {g : Gd} {A : Around} {env : Env} {ρ ρ' : Rho} {N W : List Addr} {s₀ s : Shared} {ms : List (Addr × Obj)}
abbrev Gd.with (g : Gd) (ms : List (Addr × Obj)) : Gd := { g with more := ms }

/-- what is not hidden and stands there is known from now on -/
theorem In.more (i : In g A env ρ N W s₀ s) (h : ∀ p ∈ ms, p.1 ∉ N ++ W ∧ s.heap.get? p.1 = some p.2) : In (g.with ms) A env ρ N W s₀ s :=
  ⟨i.kept, i.new, ⟨⟨i.wo.wd.tW, i.wo.wd.tab, i.wo.wd.live, ⟨i.wo.wd.known.k, i.wo.wd.known.top, i.wo.wd.known.code, fun p hp => hideAll_get _ (h p hp).2 (h p hp).1⟩, i.wo.wd.mode⟩, i.wo.fs, i.wo.vs⟩, i.ns, i.loc, i.w0⟩
theorem Wd.more_at {g : Gd} (w : Wd g W s) {p : Addr × Obj} (hp : p ∈ g.more) : s.heap.get? p.1 = some p.2 := of_hideAll _ (w.known.more p hp)

theorem Bn.with {x : Str} {v : Value} (b : Bn g x v) : Bn (g.with ms) x v := ⟨b.miss, b.val, b.ne⟩
theorem Fn.with {x : Str} {f : Addr} {name : Str} {params : Arguments} {body : List Stmt} {scope : Scope} {cdv : Value} (F : Fn g x f name params body scope cdv) : Fn (g.with ms) x f name params body scope cdv := ⟨F.at_, F.ob, F.cd⟩
theorem Fq.with {f : Addr} {name qual : Str} {params : Arguments} {body : List Stmt} {scope : Scope} {cdv : Value} (F : Fq g f name qual params body scope cdv) : Fq (g.with ms) f name qual params body scope cdv := ⟨F.ob, F.cd⟩
theorem Ce.with (C : Ce g) : Ce (g.with ms) := ⟨C.h154, C.h141, C.call, C.reads, C.new, C.sm, C.init, C.iter, C.tnew⟩
theorem Tg.with (T : Tg g) : Tg (g.with ms) := ⟨T.C.with, let ⟨c, h⟩ := T.F; ⟨c, h.with⟩, let ⟨f, c, h⟩ := T.V; ⟨f, c, h.with⟩, T.bT.with, T.e154, T.bN.with, T.bI.with, T.bB.with, T.bS.with⟩

/-- a name in a known cell that holds a known dict -/
theorem name_cell {g : Gd} {W : List Addr} {s : Shared} {x : Str} {c D : Addr} {oc : Obj} (w : Wd g W s) (hc : (c, oc) ∈ g.more) (hd : oc.data = .cell (some (.ref D))) (hk : env.kindOf x = some .cell ∨ env.kindOf x = some .free) (hl : env.cells.lookup x = some c) (hx : (x == ("__classdict__" : Str)) = false) (hT : c ≠ tT) : Has env s.heap x (.ref D) := by
  have e := w.more_at hc
  rcases hk with h | h
  · exact .cell c h hl hT ⟨oc, e, hd⟩
  · exact .free c h hx hl hT ⟨oc, e, hd⟩
end
end Mine

/- Law6 -/
namespace Mine
open PySem PySem.W PySem.Calls PySem.Spec PyProof.Rows
set_option Elab.async false
set_option linter.unusedVariables false
set_option maxRecDepth 100000
set_option maxHeartbeats 1000000

theorem KvIs.get {vs : List (Str × Value)} {kvs : List Kv} (h : KvIs vs kvs) : ∀ (i : Nat) (p : Str × Value), vs[i]? = some p → ∃ q t, kvs[i]? = some q ∧ p = (sI q.1, .str (sI q.2) t) := by
  induction h with
  | nil => intro i p h; simp at h
  | cons h ih =>
    intro i p hp
    cases i with
    | zero => simp at hp; subst hp; exact ⟨_, _, rfl, rfl⟩
    | succ i => exact ih i p (by simpa using hp)

section
variable {g : Gd} {A : Around} {env : Env} {ρ : Rho} {pos : Pos}
theorem it_dict {x : Str} {D : Addr} {oD : Obj} {kvs : List Kv} {vs : List (Str × Value)} (hh : A.handled = none) (hm : (D, oD) ∈ g.more) (hD : ∀ h : Heap, h.get? D = some oD → ∃ ep, h.DictAt (PySem.strKind g.prog g.w) D vs ep) (kv : KvIs vs kvs) (lo : (D == sysModules) = false) (hf : env.scope.kind = .function) (hd : (x == ("__debug__" : Str)) = false)
    (hn : ∀ W s, Wd g W s → Has env s.heap x (.ref D)) : It g A env ρ (.Name x pos) (kvs.map fun p => pS p.1) := .mk fun W s w E Q h => by
  refine Has.name hf (hn W s w.wd) hd (h _ s (.refl ..) fun E Q hq => ?_)
  have e := w.wd.more_at hm
  obtain ⟨ep, at_⟩ := hD s.heap e
  have hne : D ≠ s.heap.objs.size := Nat.ne_of_lt (Heap.lt_size e)
  have dW : D ∉ W := fun hm' => by
    have := w.wd.known.more _ hm
    rw [hideAll_none W hm'] at this; cases this
  refine wpAny_pyIter_dict (knd := PySem.strKind g.prog g.w) lo at_ (hq _ _ [s.heap.objs.size, D] (fun i v => ∃ k x, vs[i]? = some (k, x) ∧ (PySem.strKind g.prog g.w).is k v = true) (fun i h => h.IsKeyIter s.heap.objs.size D i vs.length ep ∧ h.DictAt (PySem.strKind g.prog g.w) D vs ep) .push' ⟨?_, ?_, ?_, ?_, ?_, ?_⟩)
  · have W := Walks.dictKeys (prog := g.prog) (w := g.w) (knd := PySem.strKind g.prog g.w) hh s.heap.objs.size D hne vs ep
    rw [show (kvs.map fun p => pS p.1).length = vs.length by rw [List.length_map, kv.length]]
    exact W
  · exact ⟨⟨_, Heap.get?_push_size _ rfl, rfl, rfl⟩, let ⟨o, es, e, r⟩ := at_; ⟨o, es, Heap.get?_push_of_some _ e, r⟩⟩
  · exact Heap.get?_none_of_le (Nat.le_refl _)
  · rintro i h ⟨⟨o, e1, e2, e3⟩, _⟩
    exact ⟨o, _, e1, e3⟩
  · intro b hb
    simp only [List.mem_cons, List.not_mem_nil, or_false] at hb
    rcases hb with rfl | rfl
    · exact .inl rfl
    · exact .inr ⟨dW, _, e⟩
  · rintro i v ⟨k, y, hk, hi⟩
    obtain ⟨q, t, hq, e2⟩ := kv.get i _ hk
    refine ⟨pS q.1, by rw [List.getElem?_map, hq]; rfl, ?_⟩
    obtain ⟨t', rfl⟩ := Value.isStrOf_shape hi
    obtain rfl : k = sI q.1 := congrArg Prod.fst e2
    exact .str
end
end Mine

/- Law7 -/
namespace Mine
open PySem PySem.W PySem.Calls PySem.Spec PyProof.Rows
set_option Elab.async false
set_option linter.unusedVariables false
set_option maxRecDepth 100000
set_option maxHeartbeats 1000000

section
variable {g : Gd} {A : Around} {env : Env} {ρ : Rho} {pos : Pos}
theorem ex_getkey {x : Str} {px : Pos} {slice : Expr} {D : Addr} {oD : Obj} {k b : List Nat} {t : Tok} {vs : List (Str × Value)} (hm : (D, oD) ∈ g.more) (hcls : oD.cls = .type "dict") (hD : ∀ h : Heap, h.get? D = some oD → h.DictOf (PySem.strKind g.prog g.w) D vs) (hv : valueAt vs (sI k) = some (.str (sI b) t)) (hf : env.scope.kind = .function) (hd : (x == ("__debug__" : Str)) = false)
    (hn : ∀ W s, Wd g W s → Has env s.heap x (.ref D)) (hi : Ex g A env ρ slice (pS k)) (hs : ∀ o i, subscripted slice false o i = operate [o, i] (getItem o i)) : Ex g A env ρ (.Subscript (.Name x px) slice pos) (pS b) := .mk fun W s w E Q h => by
  refine Subscript_ (Has.name hf (hn W s w.wd) hd (hi.run W s w E _ fun u s₁ k₁ r₁ => ?_))
  have w₁ := w.kept k₁
  have e := w₁.wd.more_at hm
  obtain ⟨tk, rfl⟩ := r₁.str_inv
  refine sub_raw (T := "dict") (id := "dict.__getitem__") ⟨_, e, hcls⟩ PySem.F.slot_dict_getitem.lookup (wpAny_getItem_of (knd := PySem.strKind g.prog g.w) (k := sI k) (by simp [PySem.strKind, Value.isStrOf]) (hD _ e).mapOf hv (h _ _ (k₁.trans .toks) .str)) (hs _ _)
end
end Mine

/- Law8 -/
namespace Mine
open PySem PySem.W PySem.Calls PySem.Spec PyProof.Rows
set_option Elab.async false
set_option linter.unusedVariables false
set_option maxRecDepth 100000
set_option maxHeartbeats 1000000

theorem RdAll.of_get {W : List Addr} {s : Shared} : ∀ {vs : List Value} {ds : List PyData}, vs.length = ds.length → (∀ (i : Nat) (v : Value) (d : PyData), vs[i]? = some v → ds[i]? = some d → Rd W s v d) → RdAll W s vs ds
  | [], [], _, _ => .nil
  | v :: vs, d :: ds, hl, h => .cons (h 0 v d rfl rfl) (RdAll.of_get (by simpa using hl) fun i v d h1 h2 => h (i + 1) v d (by simpa using h1) (by simpa using h2))
  | [], _ :: _, hl, _ => by simp at hl
  | _ :: _, [], hl, _ => by simp at hl

section
variable {g : Gd} {A : Around}
/-- list(d.items()) as data -/
theorem items_rd {W : List Addr} {s : Shared} {h' : Heap} {tk : Nat} {acc : Array Value} {c : Nat} {as : List Addr} {kvs : List Kv} {vs : List (Str × Value)} (w : Wd g W s) (kv : KvIs vs kvs) (hk : ∀ b o, s.heap.get? b = some o → h'.get? b = some o)
    (hl : h'.get? s.heap.objs.size = some { cls := .type "list", dict := none, data := .seq acc c, slots := #[] }) (hn : as.length = vs.length) (G : KdxG (PySem.strKind g.prog g.w) vs s.heap.objs.size h' as) (ha : acc.toList = as.map Value.ref) :
    Rd W { s with heap := h', toks := tk } (.ref s.heap.objs.size) (.list (kvs.map fun q => .tuple [pS q.1, pS q.2])) := by
  have off : ∀ a, s.heap.objs.size ≤ a → a ∉ W := fun a h hm => by
    obtain ⟨o, e⟩ := w.live a hm
    have := Heap.lt_size e
    exact absurd this (Nat.not_lt.mpr h)
  have all : RdAll W { s with heap := h', toks := tk } acc.toList (kvs.map fun q => .tuple [pS q.1, pS q.2]) := by
    rw [ha]
    refine RdAll.of_get (by rw [List.length_map, List.length_map, hn, kv.length]) fun i v d h1 h2 => ?_
    rw [List.getElem?_map] at h1
    cases e : as[i]? with
    | none => rw [e] at h1; cases h1
    | some a =>
      rw [e] at h1; cases h1
      obtain ⟨key, k, x, e1, e2, e3⟩ := G.pairs i a e
      obtain ⟨q, t, e4, e5⟩ := kv.get i _ e1
      rw [List.getElem?_map, e4] at h2
      cases h2
      obtain ⟨t', rfl⟩ := Value.isStrOf_shape e2
      obtain ⟨rfl, rfl⟩ := Prod.mk.inj e5
      have hin : a ∈ as := List.mem_of_getElem? e
      exact ⟨_, .tuple (hideAll_get _ e3 (off a (Nat.le_of_lt (G.above a hin)))) rfl rfl (.cons (.str _ _) (.cons (.str _ _) .nil))⟩
  obtain ⟨bs, q⟩ := all
  exact ⟨_, .list (hideAll_get _ hl (off _ (Nat.le_refl _))) rfl rfl q⟩
end
end Mine

/- Law9 -/
namespace Mine
open PySem PySem.W PySem.Calls PySem.Spec PyProof.Rows
set_option Elab.async false
set_option linter.unusedVariables false
set_option maxRecDepth 100000
set_option maxHeartbeats 1000000

section
variable {g : Gd} {A : Around} {env : Env} {ρ : Rho} {pos : Pos}
/-- list(x.items()) -/
theorem ex_items (n : En env) {lx : Str} {lp : Pos} {x : Str} {xp ap cp : Pos} {D : Addr} {oD : Obj} {kvs : List Kv} {vs : List (Str × Value)} (bL : Bn g lx (.type "list")) (hlx : env.kindOf lx = some .globalImplicit) (hld : (lx == ("__debug__" : Str)) = false) (hh : A.handled = none) (hm : (D, oD) ∈ g.more) (hcls : oD.cls = .type "dict") (hdict : oD.dict = none)
    (hD : ∀ h : Heap, h.get? D = some oD → h.DictOf (PySem.strKind g.prog g.w) D vs) (kv : KvIs vs kvs) (lo : (D == sysModules) = false) (hz : kvs.length ≤ sizeLine) (hd : (x == ("__debug__" : Str)) = false) (hn : ∀ W s, Wd g W s → Has env s.heap x (.ref D))
    (hs : starEach [.Call (.Attribute (.Name x xp) "items" ap) [] [] cp] env = [(false, eval (.Call (.Attribute (.Name x xp) "items" ap) [] [] cp) env)]) (hbase : attributeBase (.Name x xp) "items" env (eval (.Name x xp) env) = eval (.Name x xp) env) (hline : (ap.endLine == cp.line) = true) :
    Ex g A env ρ (.Call (.Name lx lp) [.Call (.Attribute (.Name x xp) "items" ap) [] [] cp] [] pos) (.list (kvs.map fun q => .tuple [pS q.1, pS q.2])) := .mk fun W s w E Q h => by
  have e := w.wd.more_at hm
  refine Call_Name1 (name_blt w.wd n bL hlx (PySem.callWith_type rfl (evalArgs_plain (spliced_cons (Call_method0 hbase hline (Has.name n.kind (hn W s w.wd) hd ⟨"dict", "dict.items", PySem.F.plainAttrs_dict, PySem.F.slot_dict_items, PySem.F.type_dict_items, ⟨_, e, hcls⟩, (fun a q => by cases q; exact ⟨_, e, hdict⟩),
    callWith_builtin rfl (evalArgs_nil0 (call_meetsIn PySem.F.slot_dict_items ⟨_, e, hcls⟩ PySem.F.entry_dict_items (PySem.F.args_dict_items_1 _) (meets_dict_items (PySem.strKind g.prog g.w) D lo) ⟨⟨vs, hD _ e⟩, spliced_nil ?_⟩))⟩))))) hld) hs
  obtain ⟨o, es, ep, e1, r⟩ := hD _ (Heap.get?_push_of_some { cls := .type "dict_items", data := .fields #[.ref D] } e)
  have k1 : Kept W s { s with heap := s.heap.push { cls := .type "dict_items", data := .fields #[.ref D] } } := .push'
  refine kdx_call (knd := PySem.strKind g.prog g.w) (kvs := vs) (ep := ep) hh ⟨_, Heap.get?_push_size _ rfl, rfl, rfl⟩ ⟨o, es, e1, r⟩ (by rw [kv.length]; exact hz) fun h' tk acc c as hk hl hln G ha => ?_
  exact h _ _ (k1.trans (.keeps hk)) (items_rd (s := { s with heap := s.heap.push { cls := .type "dict_items", data := .fields #[.ref D] } }) (w.wd.kept k1) kv hk hl hln G ha)
end
end Mine

/- Law10 -/
namespace Mine
open PySem PySem.W PySem.Calls PySem.Spec PyProof.Rows
set_option Elab.async false
set_option linter.unusedVariables false
set_option maxRecDepth 100000
set_option maxHeartbeats 4000000

theorem sh_pair {q : Kv} (h1 : ∀ n ∈ q.1, n < 128) (h2 : ∀ n ∈ q.2, n < 128) : Sh 1 (.tuple [pS q.1, pS q.2]) := Sh.tuple fun d hd => by
  simp only [List.mem_cons, List.not_mem_nil, or_false] at hd
  rcases hd with rfl | rfl
  · exact Sh.str fun c hc => by have := h1 c hc; lia
  · exact Sh.str fun c hc => by have := h2 c hc; lia
theorem eqf_pair : EqF fun q : Kv => PyData.tuple [pS q.1, pS q.2] := fun a b => by
  have e1 := EqF.pS a.1 b.1
  have e2 := EqF.pS a.2 b.2
  simp only [PyData.eqv, PyData.eqvAll] at e1 e2 ⊢
  rw [e1, e2]
  obtain ⟨a1, a2⟩ := a
  obtain ⟨b1, b2⟩ := b
  by_cases h : a1 = b1 <;> by_cases h' : a2 = b2 <;> simp [h, h']
theorem eqf_pairs : EqF fun l : List Kv => PyData.list (l.map fun q => PyData.tuple [pS q.1, pS q.2]) := EqF.list eqf_pair
end Mine

/- Law11 -/
namespace Mine
open PySem PySem.W PySem.Calls PySem.Spec PyProof.Rows
set_option Elab.async false
set_option linter.unusedVariables false
set_option maxRecDepth 100000
set_option maxHeartbeats 4000000

theorem Lg.with {g : Gd} {ms : List (Addr × Obj)} (G : Lg g) : Lg (g.with ms) where
  T := G.T.with
  F8 := let ⟨f, c, h⟩ := G.F8; ⟨f, c, Fn.with h⟩
  F9 := let ⟨f, c, h⟩ := G.F9; ⟨f, c, Fn.with h⟩
  F6 := let ⟨f, c, h⟩ := G.F6; ⟨f, c, Fn.with h⟩
  F11 := let ⟨f, c, h⟩ := G.F11; ⟨f, c, Fn.with h⟩
  F12 := let ⟨f, c, h⟩ := G.F12; ⟨f, c, Fn.with h⟩
  F13 := let ⟨f, h⟩ := G.F13; ⟨f, Fn.with h⟩
  F14 := let ⟨f, c, h⟩ := G.F14; ⟨f, c, Fn.with h⟩
  F15 := let ⟨f, c, h⟩ := G.F15; ⟨f, c, Fn.with h⟩
  F16 := let ⟨f, c, h⟩ := G.F16; ⟨f, c, Fn.with h⟩
  F17 := let ⟨f, c, h⟩ := G.F17; ⟨f, c, Fn.with h⟩
  bA := G.bA.with
  bR := G.bR.with
  bL := G.bL.with
  bS := G.bS.with
  bC := G.bC.with
  bO := G.bO.with
  bY := G.bY.with
  bLi := G.bLi.with

/-- the last if and the return, the dict known -/
theorem law_end {g : Gd} (G : Lg g) (hex : g.ex = false) {A : Around} {xs : List Int} {L f cb cr D : Addr} {oD ocb : Obj} {vs : List (Str × Value)} {cdv : Value} {N W : List Addr} {s₀ s : Shared} (rm : Rm A 10)
    (hmD : (D, oD) ∈ g.more) (hmc : (cb, ocb) ∈ g.more) (hcb : ocb.data = .cell (some (.ref D))) (hcls : oD.cls = .type "dict") (hdict : oD.dict = none) (hD : ∀ h : Heap, h.get? D = some oD → h.DictOf (PySem.strKind g.prog g.w) D vs) (kv : KvIs vs (kvsOf xs)) (lo : (D == sysModules) = false) (cbT : cb ≠ tT)
    (i : In g A (envX "law" (fScope 18) L f cdv [(("book" : Str), cb), (("rows" : Str), cr)]) [("rows", pLL (rowsOf xs)), ("whole", pL (wholeOf xs))] N W s₀ s) {E : Value → Shared → Prop} :
    wpAny g.M A (execs ((fBody 18).drop 7) (envX "law" (fScope 18) L f cdv [(("book" : Str), cb), (("rows" : Str), cr)])) (fun fl s' => fl = .ret (.bool true) ∧ Kept W s₀ s') E s := by
  generalize henv : envX "law" (fScope 18) L f cdv [(("book" : Str), cb), (("rows" : Str), cr)] = env at *
  have hf : env.scope.kind = .function := henv ▸ rfl
  have en : En env := henv ▸ ⟨rfl, rfl, rfl⟩
  have kB : env.kindOf "book" = some .cell := henv ▸ rfl
  have hlb : env.cells.lookup ("book" : Str) = some cb := henv ▸ rfl
  have kLi : env.kindOf "list" = some .globalImplicit := henv ▸ rfl
  have hun : A.units + 64 < cLine := by have := rm.units; lia
  have hrows := rows_ok xs
  have hn7 : (rowsOf xs).length ≤ 7 := by have := hrows.1; lia
  have hk7 : (kvsOf xs).length ≤ 7 := by unfold kvsOf; rw [List.length_map, List.length_range]; exact hn7
  have hnB : ∀ W s, Wd g W s → Has env s.heap "book" (.ref D) := fun W s w => name_cell w hmc hcb (.inl kB) hlb (by decide) cbT
  have hsh : Sh 2 (.list ((kvsOf xs).map fun q => PyData.tuple [pS q.1, pS q.2])) := Sh.lmap fun q hq => by
    obtain ⟨_, h2, _⟩ := seg_mem hq
    exact sh_pair (fun n hn => h2 n (by unfold elt1; simp [hn])) (fun n hn => h2 n (by unfold elt1; simp [hn]))
  refine next_cons (in_if (c := false) i ((tt_cmp (ex_items en G.bLi kLi (by decide) rm.handled hmD hcls hdict hD kv lo (by rw [sizeLine_eq]; lia) (by decide) hnB rfl rfl rfl) ?_ (ce_ne eqf_pairs (a := kvsOf xs) (b := kvsOf xs) hsh hsh (by decide) hun)).is (by simp)) fun s₁ i₁ _ => ?_)
  · have kR : env.kindOf "rows" = some .cell := henv ▸ rfl
    have hlr : env.cells.lookup ("rows" : Str) = some cr := henv ▸ rfl
    have dec10 : ∀ p, p < 10 → dec p = sI [48 + p] := by decide
    refine ex_of_core (cl := [(("rows" : Str), cr)]) ?_ (henv ▸ rfl) rfl (by decide)
    unfold kvsOf
    rw [List.map_map]
    refine core_map (ρc := [("rows", pLL (rowsOf xs))]) (l := List.range (rowsOf xs).length) (mk := pI) pI_inj rm.handled rfl (by decide) rfl (it_range1 en rm.handled G.bR (henv ▸ rfl) ((ex_len en G.bL (henv ▸ rfl) (ex_v hf rfl) (by rw [List.length_map, sizeLine_eq]; lia) rfl (by decide)).is (by simp)) (by rw [sizeLine_eq]; lia)) ?_ (fun C p hp => ?_) (by rw [List.length_range, sizeLine_eq]; lia)
    · intro C W s v
      exact Vs.catch v rfl (.inl kR) hlr (.inl (henv ▸ rfl)) rfl (by decide) Vs.nil
    · have hp : p < (rowsOf xs).length := by simpa using hp
      have hr : (rowsOf xs).getD p [] ∈ rowsOf xs := by rw [List.getD_eq_getElem?_getD, List.getElem?_eq_getElem hp]; exact List.getElem_mem hp
      obtain ⟨r1, r2⟩ := hrows.2 _ hr
      refine ex_tuple (.cons (Ex.is (es_add (a := [101]) (b := [48 + p]) (es_str (by decide)) ((en_str (henv ▸ ⟨rfl, rfl, rfl⟩) G.bS (henv ▸ rfl) (ex_v (d := pI p) rfl rfl) (Nat.lt_of_lt_of_le (m := 2 ^ 10) (by lia) (Nat.pow_le_pow_right (by decide) (by decide))) rfl (by decide)).is (congrArg PyData.str (dec10 p (by lia)))) (by rw [sizeLine_eq]; simp)) rfl) (.cons ((es_join (sep := []) (ls := ((rowsOf xs).getD p []).map fun c => [c]) (es_str (by decide)) (ex_of_core (cl := []) ?_ (henv ▸ rfl) rfl (by decide)) ?_ rfl rfl rfl).is ?_) .nil)) (by simp [sizeLine_eq]) rfl
      · rw [List.map_map]
        refine core_map (ρc := []) (l := (rowsOf xs).getD p []) (mk := pI) pI_inj rm.handled rfl (by decide) rfl (it_list rm.handled (ex_item (d := pL ((rowsOf xs).getD p [])) (ex_v rfl rfl) (ex_v (d := pI p) rfl rfl) (by lia) ?_ (by rw [List.length_map, sizeLine_eq]; lia))) (fun _ _ _ _ => Vs.nil) (fun C' o ho => ?_) (by rw [sizeLine_eq]; lia)
        · rw [Int.toNat_natCast, List.getElem?_map, List.getElem?_eq_getElem hp, List.getD_eq_getElem?_getD, List.getElem?_eq_getElem hp]; rfl
        · exact es_chr (henv ▸ ⟨rfl, rfl, rfl⟩) G.bC (henv ▸ rfl) (ex_v rfl rfl) (r2 o ho) rfl (by decide)
      · rw [sum_single, sizeLine_eq]; simp only [List.length_map, List.length_nil, Nat.mul_zero, Nat.add_zero]; lia
      · rw [jn_single]
  rw [if_neg (by decide)]
  refine wpAny_execs_nil ⟨rfl, ?_⟩
  have k13 : env.kindOf "_law_read" = some .globalImplicit := henv ▸ rfl
  have k17 : env.kindOf "_law_told" = some .globalImplicit := henv ▸ rfl
  obtain ⟨f17, c17, F17⟩ := G.F17
  obtain ⟨f13, F13⟩ := G.F13
  obtain ⟨f6, c6, F6⟩ := G.F6
  have hw := whole_ok xs
  have hwz : (wholeOf xs).length ≤ sizeLine := by rw [sizeLine_eq]; lia
  have hget : ∀ p, p < (rowsOf xs).length → ∃ t, valueAt vs (sI [101, 48 + p]) = some (.str (sI ((rowsOf xs).getD p [])) t) := fun p hp => by
    have hlen : vs.length = (rowsOf xs).length := by rw [kv.length]; unfold kvsOf; rw [List.length_map, List.length_range]
    have hv : vs[p]? = some vs[p] := List.getElem?_eq_getElem (by lia)
    obtain ⟨q, t, e1, e2⟩ := kv.get p _ hv
    have e3 : q = ([101, 48 + p], (rowsOf xs).getD p []) := by
      unfold kvsOf at e1
      rw [List.getElem?_map, List.getElem?_range hp] at e1
      exact (Option.some.inj e1).symm
    subst e3
    have hnd : (vs.map (·.1)).Nodup := by
      rw [kv.keys]
      have h := keys_nodup xs
      have h2 := List.Pairwise.map (R := (· ≠ ·)) (S := (· ≠ ·)) sI (fun a b hab q => hab (by injection q with q; simpa using congrArg Array.toList q)) h
      rw [List.map_map] at h2
      exact h2
    exact ⟨t, valueAt_of_get hnd (i := p) (by rw [hv, e2])⟩
  have hfl : ((List.range (rowsOf xs).length).flatMap fun p => ((rowsOf xs).getD p []).map pI) = (wholeOf xs).map pI := by
    unfold wholeOf
    rw [List.map_flatten, List.flatMap_def]
    congr 1
    refine List.ext_getElem? fun j => ?_
    by_cases hj : j < (rowsOf xs).length
    · simp [List.getElem?_map, List.getElem?_range hj, List.getElem?_eq_getElem hj, List.getD_eq_getElem?_getD]
    · simp [List.getElem?_eq_none (Nat.not_lt.mp hj), hj]
  refine wpAny_execs_cons (wpAny_Return_some ((ex_cmp (a := pT (told (wholeOf xs))) (b := pT (told (wholeOf xs))) (c := true) (ex_fn1 en F13 (rm.less (by decide)) k13 (a := pL (wholeOf xs)) ?_ ((read_told (wholeOf xs)) ▸ read_sp hex F13 F6 G.T G.bY G.bS hw.2 (by lia)) rfl (by decide)) (ex_fn1 en F17 (rm.less (by decide)) k17 (ex_v hf rfl) (told_sp F17 G.bR G.bL G.bS (by lia)) rfl (by decide)) ((ce_eq eqf_pT (a := told (wholeOf xs)) (b := told (wholeOf xs)) sh_told sh_told (by decide) hun).is (by simp))).run _ s₁ i₁.wo _ _ fun v s₂ k₂ r₂ => ?_))
  · rw [pL, ← hfl]
    refine ex_of_core (cl := [(("book" : Str), cb)]) ?_ (henv ▸ rfl) rfl (by decide)
    refine core_flat (ρc := []) (l := List.range (rowsOf xs).length) (m := fun p => (rowsOf xs).getD p []) (mk := fun p => pS [101, 48 + p]) (nk := fun c => pS [c]) (F := fun _ c => pI c) (fun a b h => by have := pS_inj _ _ h; simpa using this) (fun a b h => by have := pS_inj _ _ h; simpa using this) rm.handled rfl (by decide) rfl rfl (by decide) ?_ (fun _ _ _ _ => Vs.nil) (fun C p hp => ?_) (fun C p hp o ho => ?_) ?_
    · have e : ((kvsOf xs).map fun p => pS p.1) = (List.range (rowsOf xs).length).map fun p => pS [101, 48 + p] := by unfold kvsOf; rw [List.map_map]; rfl
      rw [← e]
      exact it_dict rm.handled hmD (fun h e => let ⟨o, es, ep, e1, r⟩ := hD h e; ⟨ep, o, es, e1, r⟩) kv lo hf (by decide) hnB
    · have hp : p < (rowsOf xs).length := by simpa using hp
      obtain ⟨t, ht⟩ := hget p hp
      exact it_str (x := sI ((rowsOf xs).getD p [])) rm.handled (ex_getkey hmD hcls hD ht (henv ▸ rfl) (by decide) (fun W s w => name_cell w hmc hcb (.inl (henv ▸ rfl)) (henv ▸ rfl) (by decide) cbT) (ex_v rfl rfl) (fun _ _ => rfl))
    · exact ex_ord (henv ▸ ⟨rfl, rfl, rfl⟩) G.bO (henv ▸ rfl) (ex_v rfl rfl) rfl (by decide)
    · show ((List.range (rowsOf xs).length).flatMap fun p => ((rowsOf xs).getD p []).map pI).length ≤ sizeLine
      rw [hfl, List.length_map]; exact hwz
  · obtain rfl := r₂.bool_inv
    exact ⟨rfl, (i₁.step k₂).kept⟩
end Mine

/- Law12 -/
namespace Mine
open PySem PySem.W PySem.Calls PySem.Spec PyProof.Rows
set_option Elab.async false
set_option linter.unusedVariables false
set_option maxRecDepth 100000
set_option maxHeartbeats 4000000

theorem law_walk {g : Gd} (G : Lg g) (hex : g.ex = false) {A : Around} {xs : List Int} {L f cb cr : Addr} {cdv : Value} {W : List Addr} {s₀ s : Shared} (rm : Rm A 10) (hx : xs.length ≤ 63)
    (i : In g A (envX "law" (fScope 18) L f cdv [(("book" : Str), cb), (("rows" : Str), cr)]) [("script", .list (xs.map .int))] [L, cb, cr] W s₀ s) (hcb : s.heap.IsCell cb none) (hcr : s.heap.IsCell cr none) (n1 : cb ≠ L) (n2 : cr ≠ L) (n3 : cb ≠ cr) {E : Value → Shared → Prop} :
    wpAny g.M A (execs (fBody 18) (envX "law" (fScope 18) L f cdv [(("book" : Str), cb), (("rows" : Str), cr)])) (fun fl s' => fl = .ret (.bool true) ∧ Kept W s₀ s') E s := by
  generalize henv : envX "law" (fScope 18) L f cdv [(("book" : Str), cb), (("rows" : Str), cr)] = env at *
  have hf : env.scope.kind = .function := henv ▸ rfl
  have en : En env := henv ▸ ⟨rfl, rfl, rfl⟩
  have hL : env.locals = L := henv ▸ rfl
  have hC : env.cells = [(("book" : Str), cb), (("rows" : Str), cr)] := henv ▸ rfl
  have kB : env.kindOf "book" = some .cell := henv ▸ rfl
  have kR : env.kindOf "rows" = some .cell := henv ▸ rfl
  have kd : env.kindOf "drawn" = some .local := henv ▸ rfl
  have kw : env.kindOf "whole" = some .local := henv ▸ rfl
  have ki : env.kindOf "items" = some .local := henv ▸ rfl
  have kh : env.kindOf "header" = some .local := henv ▸ rfl
  have k11 : env.kindOf "_law_blocks" = some .globalImplicit := henv ▸ rfl
  have hcells : ∀ c ∈ env.cells, c.2 ≠ env.locals := by
    rw [hC, hL]; intro c h
    rcases List.mem_cons.mp h with rfl | h
    · exact n1
    · rw [List.mem_singleton.mp h]; exact n2
  obtain ⟨f11, c11, F11⟩ := G.F11
  obtain ⟨f12, c12, F12⟩ := G.F12
  have hz : xs.length ≤ sizeLine := by rw [sizeLine_eq]; lia
  have hlb : env.cells.lookup ("book" : Str) = some cb := by rw [hC]; rfl
  have hlr : env.cells.lookup ("rows" : Str) = some cr := by rw [hC]; rfl
  have huB : ∀ y, env.cells.lookup y = some cb → y = ("book" : Str) := fun y hy => by
    rw [hC] at hy
    have := mem_of_lookup hy
    rcases List.mem_cons.mp this with h | h
    · exact congrArg Prod.fst h
    · have := congrArg Prod.snd (List.mem_singleton.mp h); exact absurd this n3
  have huR : ∀ y, env.cells.lookup y = some cr → y = ("rows" : Str) := fun y hy => by
    rw [hC] at hy
    have := mem_of_lookup hy
    rcases List.mem_cons.mp this with h | h
    · have := congrArg Prod.snd h; exact absurd this (Ne.symm n3)
    · exact congrArg Prod.fst (List.mem_singleton.mp h)
  have lB : In g A env [("script", .list (xs.map .int))] [L, cr] (cb :: W) (lent [L, cr] s) s := i.lend (by simp) (by simp) (by intro a ha hne; simp at ha ⊢; rcases ha with h | h | h <;> simp_all) (by simp [n1, n3]) (by rw [hL]; simp)
  refine wpAny_mono (Q := fun fl s' => fl = .ret (.bool true) ∧ Kept W s₀ s') (E := E) ?_ (fun _ _ h => h) fun _ _ h => h
  have lR : In g A env [("script", .list (xs.map .int))] [L] (cr :: cb :: W) (lent [L] s) s := lB.lend (by simp) (by simp) (by intro a ha hne; simp at ha ⊢; rcases ha with h | h <;> simp_all) (by simp [n2]) (by rw [hL]; simp)
  refine nx_set (d := pLL (blks (xs.take 4))) lR hf kd hcells rfl (ex_fn1 en F11 (rm.less (by decide)) k11 ((ex_slice (a := 0) (b := min 4 xs.length) (ex_v hf rfl) pt_none (pt_some (ex_int (i := 4))) ?_ ?_).is ?_) (blk_sp F11 G.bA (xs := xs.take 4) (by simp; lia)) rfl (by decide)) fun s₁ lR₁ => ?_
  · rw [kms_bounds, List.length_map]
    simp only [kms_lo, kms_hi]
    simp
  · simpa using hz
  · refine congrArg PyData.list ?_
    rw [List.drop_zero, Nat.sub_zero, ← List.map_take, ← List.take_length (l := xs), List.take_take, List.take_length]
    simp [List.take_eq_take_iff]
  obtain ⟨lB₁, cellR⟩ := lB.back (by simp) (by simp) (by intro a ha hne; simp at ha ⊢; rcases ha with h | h <;> simp_all) (by simp [n2]) lR₁
  have hcr₁ := cellR _ hcr
  clear lR₁ lR cellR
  have hbl := blks_ok (xs.take 4)
  have hbn : (blks (xs.take 4)).length ≤ sizeLine := by rw [sizeLine_eq]; simp [blks]; lia
  refine nx_cell (d := pLL (rowsOf xs)) lB₁ hf kR hlr (by simp) hcr₁ huR (henv ▸ rfl) ?_ fun s₃ lB₃ => ?_
  · refine Ex.is (d := .list ((blks (xs.take 4)).map fun q => pL (rowOf q))) ?_ (by unfold rowsOf; rw [pLL, List.map_map]; rfl)
    refine ex_of_core (cl := []) ?_ (henv ▸ rfl) rfl (by decide)
    refine core_map (ρc := []) (l := blks (xs.take 4)) (mk := pL) pL_inj rm.handled rfl (by decide) rfl (it_list rm.handled (ex_v hf rfl)) (fun _ _ _ _ => Vs.nil) (fun C q hq => ?_) hbn
    obtain ⟨q4, qlt⟩ := hbl q hq
    refine Ex.is (d := .list (q.flatMap fun n => (octs n).map pI)) ?_ (by unfold rowOf; rw [pL, List.map_flatMap])
    refine ex_of_core (cl := []) ?_ (henv ▸ rfl) rfl (by decide)
    refine core_flat (ρc := []) (l := q) (m := octs) (mk := pI) (nk := pI) (F := fun _ b => pI b) pI_inj pI_inj rm.handled rfl (by decide) rfl rfl (by decide) (it_list rm.handled (ex_v rfl rfl)) (fun _ _ _ _ => Vs.nil) (fun C' n hn => ?_) (fun C' n hn o ho => ?_) ?_
    · exact it_list rm.handled (ex_fn1 (henv ▸ ⟨rfl, rfl, rfl⟩) F12 (rm.less (by decide)) (henv ▸ rfl) (ex_v rfl rfl) (oct_sp F12 (qlt n hn)) rfl (by decide))
    · exact ex_v rfl rfl
    · have := flatm_len (f := fun n => (octs n).map pI) (k := 2) q fun n hn => by rw [List.length_map]; exact (octs_ok (qlt n hn)).1
      exact Nat.le_trans this (by rw [sizeLine_eq]; lia)
  have lB₃ : In g A env [("rows", pLL (rowsOf xs)), ("script", .list (xs.map .int)), ("drawn", pLL (blks (xs.take 4)))] [L, cr] (cb :: W) (lent [L, cr] s) s₃ := lB₃.subs ⟨rfl, rfl, rfl, trivial⟩
  clear hcr₁ lB₁
  have hw := whole_ok xs
  have hrows := rows_ok xs
  have kw2 : (rowsOf xs).flatMap (fun r => r.map pI) = (wholeOf xs).map pI := by unfold wholeOf; rw [List.map_flatten, List.flatMap_def]
  have hw900 : (wholeOf xs).length ≤ 900 := by lia
  have hwz : (wholeOf xs).length ≤ sizeLine := by rw [sizeLine_eq]; lia
  obtain ⟨f9, c9, F9⟩ := G.F9
  obtain ⟨f16, c16, F16⟩ := G.F16
  obtain ⟨f15, c15, F15⟩ := G.F15
  obtain ⟨f17, c17, F17⟩ := G.F17
  obtain ⟨f13, F13⟩ := G.F13
  obtain ⟨f6, c6, F6⟩ := G.F6
  refine nx_set_comp (cl := []) (outs := (rowsOf xs).flatMap fun r => r.map pI) lB₃ hf kw hcells (henv ▸ rfl) (fun _ => rfl) (henv ▸ rfl) rfl (by decide) ?_ fun s₄ lB₄ => ?_
  · refine core_flat (ρc := []) (l := rowsOf xs) (m := fun r => r) (mk := pL) (nk := pI) (F := fun _ b => pI b) pL_inj pI_inj rm.handled rfl (by decide) rfl rfl (by decide) (it_list rm.handled (ex_v hf rfl)) (fun _ _ _ _ => Vs.nil) (fun C r hr => it_list rm.handled (ex_v rfl rfl)) (fun C r hr o ho => ex_v rfl rfl) ?_
    show ((rowsOf xs).flatMap fun r => r.map pI).length ≤ sizeLine
    rw [kw2, List.length_map]; exact hwz
  rw [kw2] at lB₄
  have k9 : env.kindOf "parse_http_list" = some .globalImplicit := henv ▸ rfl
  have k16 : env.kindOf "_law_cut" = some .globalImplicit := henv ▸ rfl
  have k13 : env.kindOf "_law_read" = some .globalImplicit := henv ▸ rfl
  have k17 : env.kindOf "_law_told" = some .globalImplicit := henv ▸ rfl
  have hcut : (cut (wholeOf xs)).length ≤ 60 := by have := (cut_ok hw.2).1; lia
  have hcutp : ∀ p ∈ cut (wholeOf xs), p.length ≤ 56 ∧ ∀ n ∈ p, n < 128 := fun p hp => by have := (cut_ok hw.2).2 p hp; exact ⟨by lia, this.2⟩
  refine nx_set_comp (cl := []) (outs := (cut (wholeOf xs)).map fun p => pL p) lB₄ hf ki hcells (henv ▸ rfl) (fun _ => rfl) (henv ▸ rfl) rfl (by decide) ?_ fun s₅ lB₅ => ?_
  · refine core_map (ρc := []) (l := cut (wholeOf xs)) (mk := pS) pS_inj rm.handled rfl (by decide) rfl (it_list rm.handled (ex_fn1 en F9 (rm.less (by decide)) k9 ((es_join (sep := []) (ls := (wholeOf xs).map fun c => [c]) (es_str (by decide)) (ex_of_core (cl := []) ?_ (henv ▸ rfl) rfl (by decide)) ?_ rfl rfl rfl).is ?_) (http_cut F9 (l := wholeOf xs) (by lia) hw.2) rfl (by decide))) (fun _ _ _ _ => Vs.nil) (fun C p hp => ?_) ?_
    · rw [List.map_map]
      refine core_map (ρc := []) (l := wholeOf xs) (mk := pI) pI_inj rm.handled rfl (by decide) rfl (it_list rm.handled (ex_v hf rfl)) (fun _ _ _ _ => Vs.nil) (fun C o ho => ?_) hwz
      exact es_chr (henv ▸ ⟨rfl, rfl, rfl⟩) G.bC (henv ▸ rfl) (ex_v rfl rfl) (hw.2 o ho) rfl (by decide)
    · rw [sum_single, sizeLine_eq]; simp; lia
    · rw [jn_single]
    · obtain ⟨p1, p2⟩ := hcutp p hp
      refine ex_of_core (cl := []) ?_ (henv ▸ rfl) rfl (by decide)
      refine core_map (ρc := []) (l := p) (mk := fun c => pS [c]) (fun a b h => by have := pS_inj _ _ h; simpa using this) rm.handled rfl (by decide) rfl ?_ (fun _ _ _ _ => Vs.nil) (fun C' o ho => ?_) (by rw [sizeLine_eq]; lia)
      · exact it_str (x := sI p) rm.handled (ex_v rfl rfl)
      · exact ex_ord (henv ▸ ⟨rfl, rfl, rfl⟩) G.bO (henv ▸ rfl) (ex_v rfl rfl) rfl (by decide)
    · rw [sizeLine_eq]; lia
  have lB₅ : In g A env [("rows", pLL (rowsOf xs)), ("whole", pL (wholeOf xs)), ("items", pLL (cut (wholeOf xs)))] [L, cr] (cb :: W) (lent [L, cr] s) s₅ := lB₅.subs ⟨rfl, rfl, rfl, trivial⟩
  clear lB₄ lB₃
  have hun : A.units + 64 < cLine := by have := rm.units; lia
  have hcz : (cut (wholeOf xs)).length ≤ sizeLine := by rw [sizeLine_eq]; lia
  have eCut : ∀ (np px cp : Pos), Ex g A env [("rows", pLL (rowsOf xs)), ("whole", pL (wholeOf xs)), ("items", pLL (cut (wholeOf xs)))] (.Call (.Name "_law_cut" np) [.Name "whole" px] [] cp) (pLL (cut (wholeOf xs))) := fun np px cp =>
    ex_fn1 en F16 (rm.less (by decide)) k16 (ex_v hf rfl) (cut_sp F16 F15 G.bR G.bL hw900) rfl (by decide)
  refine next_cons (in_if (c := false) lB₅ (Tt.is (tt_or (a := false) (b := false) ((tt_cmp (ex_v hf rfl) (eCut _ _ _) (ce_ne EqF.pLL Sh.pLL Sh.pLL (by decide) hun)).is (by simp)) (fun _ => (tt_cmp (a := .list (((cut (wholeOf xs)).map told).map pT)) (b := .list (((cut (wholeOf xs)).map told).map pT)) ?_ ?_ (ce_ne eqf_pTs sh_tolds sh_tolds (by decide) hun)).is (by simp))) rfl) fun s₆ lB₆ _ => ?_)
  · rw [List.map_map]
    refine ex_of_core (cl := []) ?_ (henv ▸ rfl) rfl (by decide)
    refine core_map (ρc := []) (l := cut (wholeOf xs)) (mk := pL) pL_inj rm.handled rfl (by decide) rfl (it_list rm.handled (ex_v hf rfl)) (fun _ _ _ _ => Vs.nil) (fun C p hp => ?_) hcz
    obtain ⟨p1, p2⟩ := hcutp p hp
    refine Ex.is (d := pT (read p)) ?_ (by rw [read_told]; rfl)
    exact ex_fn1 (henv ▸ ⟨rfl, rfl, rfl⟩) F13 (rm.less (by decide)) (henv ▸ rfl) (ex_v rfl rfl) (read_sp hex F13 F6 G.T G.bY G.bS p2 (by lia)) rfl (by decide)
  · rw [List.map_map]
    refine ex_of_core (cl := []) ?_ (henv ▸ rfl) rfl (by decide)
    refine core_map (ρc := []) (l := cut (wholeOf xs)) (mk := pL) pL_inj rm.handled rfl (by decide) rfl (it_list rm.handled (eCut _ _ _)) (fun _ _ _ _ => Vs.nil) (fun C p hp => ?_) hcz
    obtain ⟨p1, p2⟩ := hcutp p hp
    exact ex_fn1 (henv ▸ ⟨rfl, rfl, rfl⟩) F17 (rm.less (by decide)) (henv ▸ rfl) (ex_v rfl rfl) (told_sp F17 G.bR G.bL G.bS (by lia)) rfl (by decide)
  rw [if_neg (by decide)]
  refine wpAny_execs_nil ⟨rfl, ?_⟩
  clear lB₅
  have dec10 : ∀ p, p < 10 → dec p = sI [48 + p] := by decide
  have hn7 : (rowsOf xs).length ≤ 7 := by have := hrows.1; lia
  have bR' := G.bR
  obtain ⟨f14, c14, F14⟩ := G.F14
  refine nx_set (d := pS (segs (kvsOf xs))) lB₆ hf kh hcells rfl ((es_join (sep := [44, 32]) (ls := (kvsOf xs).map seg) (es_str (by decide)) (ex_of_core (cl := [(("rows" : Str), cr)]) ?_ (henv ▸ rfl) rfl (by decide)) ?_ rfl rfl rfl).is rfl) fun s₇ lB₇ => ?_
  · unfold kvsOf
    rw [List.map_map, List.map_map]
    refine core_map (ρc := [("rows", pLL (rowsOf xs))]) (l := List.range (rowsOf xs).length) (mk := pI) pI_inj rm.handled rfl (by decide) rfl (it_range1 en rm.handled G.bR (henv ▸ rfl) ((ex_len en G.bL (henv ▸ rfl) (ex_v hf rfl) (by rw [List.length_map, sizeLine_eq]; lia) rfl (by decide)).is (by simp)) (by rw [sizeLine_eq]; lia)) ?_ (fun C p hp => ?_) (by rw [List.length_range, sizeLine_eq]; lia)
    · intro C W s v
      exact Vs.catch v rfl (.inl kR) hlr (.inl (henv ▸ rfl)) rfl (by decide) Vs.nil
    · have hp : p < (rowsOf xs).length := by simpa using hp
      have hr : (rowsOf xs).getD p [] ∈ rowsOf xs := by rw [List.getD_eq_getElem?_getD, List.getElem?_eq_getElem hp]; exact List.getElem_mem hp
      obtain ⟨r1, r2⟩ := hrows.2 _ hr
      have ml := marked_len r1
      refine Ex.is (d := pS ((([101] ++ [48 + p]) ++ [61]) ++ marked ((rowsOf xs).getD p []))) ?_ rfl
      refine es_add (es_add (es_add (es_str (by decide)) ((en_str (henv ▸ ⟨rfl, rfl, rfl⟩) G.bS (henv ▸ rfl) (ex_v (d := pI p) rfl rfl) (Nat.lt_of_lt_of_le (m := 2 ^ 10) (by lia) (Nat.pow_le_pow_right (by decide) (by decide))) rfl (by decide)).is (congrArg PyData.str (dec10 p (by lia)))) ?_) (es_str (by decide)) ?_) (ex_fn1 (henv ▸ ⟨rfl, rfl, rfl⟩) F14 (rm.less (by decide)) (henv ▸ rfl) (ex_item (d := pL ((rowsOf xs).getD p [])) (ex_v rfl rfl) (ex_v (d := pI p) rfl rfl) (by lia) ?_ (by rw [List.length_map, sizeLine_eq]; lia)) (marked_sp F14 G.bC r1 r2) rfl (by decide)) ?_
      · rw [sizeLine_eq]; simp
      · rw [sizeLine_eq]; simp
      · rw [Int.toNat_natCast, List.getElem?_map, List.getElem?_eq_getElem hp, List.getD_eq_getElem?_getD, List.getElem?_eq_getElem hp]; rfl
      · rw [sizeLine_eq]; simp only [List.length_append, List.length_cons, List.length_nil]; lia
  · have := kvs_len hrows.2 (xs := xs)
    have h2 : (kvsOf xs).length ≤ 7 := by unfold kvsOf; rw [List.length_map, List.length_range]; exact hn7
    rw [sizeLine_eq, List.length_map]
    simp only [List.length_cons, List.length_nil]
    lia
  have lB₇ : In g A env [("rows", pLL (rowsOf xs)), ("whole", pL (wholeOf xs)), ("header", pS (segs (kvsOf xs)))] [L, cr] (cb :: W) (lent [L, cr] s) s₇ := lB₇.subs ⟨rfl, rfl, rfl, trivial⟩
  clear lB₆
  obtain ⟨i₇, cellB⟩ := i.back (by simp) (by simp) (by intro a ha hne; simp at ha ⊢; rcases ha with h | h | h <;> simp_all) (by simp [n1, n3]) lB₇
  have hcb₇ := cellB _ hcb
  clear lB₇ cellB lB
  obtain ⟨f8, c8, F8⟩ := G.F8
  have k8 : env.kindOf "parse_keqv_list" = some .globalImplicit := henv ▸ rfl
  have hk7 : (kvsOf xs).length ≤ 7 := by unfold kvsOf; rw [List.length_map, List.length_range]; exact hn7
  have eIn : ∀ (np px cp : Pos), Ex g A env [("rows", pLL (rowsOf xs)), ("whole", pL (wholeOf xs)), ("header", pS (segs (kvsOf xs)))] (.Call (.Name "parse_http_list" np) [.Name "header" px] [] cp) (.list ((kvsOf xs).map fun p => pS (elt1 p))) := fun np px cp =>
    ex_fn1 en F9 (rm.less (by decide)) k9 (ex_v hf rfl) (header_sp F9 xs) rfl (by decide)
  obtain ⟨oc8, od8, osl8, doc8, pm8, an8, ct8, eo8⟩ := F8.ob
  refine next_cons (wpAny_Assign_Name (Call_Name1 (name_fn i₇.wo.wd en F8.at_ k8 (callWith_function (o := ⟨oc8, od8, .func (fnX "parse_keqv_list" "parse_keqv_list" (fArgs 8) (fBody 8) (fScope 8) [] .none .none doc8 pm8 an8 c8 ct8), osl8⟩) (fd := fnX "parse_keqv_list" "parse_keqv_list" (fArgs 8) (fBody 8) (fScope 8) [] .none .none doc8 pm8 an8 c8 ct8)
    (evalArgs_plain (spliced_cons ((eIn _ _ _).run _ s₇ i₇.wo _ _ fun v s₈ k₈ r₈ => spliced_nil ?_)))) (by decide)) rfl) rfl)
  have i₈ := i₇.step k₈
  refine ⟨⟨i₈.wo.wd.k _ _ eo8, rfl⟩, keqv_call F8 (kvs := kvsOf xs) (by lia) (keys_nodup xs) (fun p hp => ?_) (rm.less (by decide)) i₈.wo.wd i₈.wo.fs r₈ fun D vs s₉ k₉ d0 dd kv lo => ?_⟩
  · obtain ⟨_, h2, _, _, h5, h6⟩ := seg_mem hp
    exact ⟨h5, by lia, fun n hn => by have := h2 n hn; lia⟩
  have i₉ := i₈.step k₉
  have hcb₉ := Cell.kept (Cell.kept hcb₇ k₈ (i₇.neT (a := cb) (by simp))) k₉ (i₇.neT (a := cb) (by simp))
  have dOff : D ∉ [L, cb, cr] ++ W := fun hm => by
    obtain ⟨o, e⟩ := i₈.wo.wd.live D hm
    rw [d0] at e; cases e
  refine i₉.cell hf kB hlb (by simp) hcb₉ huB fun h' hs hk hh i' => ⟨rfl, ?_⟩
  have dcb : D ≠ cb := fun q => dOff (by rw [q]; simp)
  have dd' : h'.DictOf (PySem.strKind g.prog g.w) D vs := DictOf_at dd fun o e => hs _ _ dcb e
  have i₁₀ := i'.out (N' := [L, cr]) (by simp) (fun a ha hn => by
    have : a = cb := by simp at ha hn; rcases ha with h | h | h <;> simp_all
    subst this
    cases hh with
    | loc m h _ _ _ => rw [kB] at h; cases h
    | cell c _ h2 _ hv => rw [hlb] at h2; cases h2; obtain ⟨o, e, r⟩ := hv; exact ⟨o, e, fun es ep q => by rw [r] at q; cases q⟩
    | free c _ _ h2 _ hv => rw [hlb] at h2; cases h2; obtain ⟨o, e, r⟩ := hv; exact ⟨o, e, fun es ep q => by rw [r] at q; cases q⟩) (by rw [hL]; simp)
  have cbT : cb ≠ tT := i₇.neT (a := cb) (by simp)
  have hcbo : ∃ oc, h'.get? cb = some oc ∧ oc.data = .cell (some (.ref D)) := by
    cases hh with
    | loc m h _ _ _ => rw [kB] at h; cases h
    | cell c _ h2 _ hv => rw [hlb] at h2; cases h2; exact hv
    | free c _ _ h2 _ hv => rw [hlb] at h2; cases h2; exact hv
  obtain ⟨oc, eoc, doc⟩ := hcbo
  obtain ⟨oD, es, ep, eD, xD, rD⟩ := dd'
  have offcb : cb ∉ [L, cr] ++ W := by
    intro hm
    rcases List.mem_append.mp hm with h | h
    · simp [n1, n3] at h
    · exact i'.offW (a := cb) (by simp) h
  have offD : D ∉ [L, cr] ++ W := by
    intro hm
    refine dOff ?_
    rcases List.mem_append.mp hm with h | h
    · refine List.mem_append_left _ ?_
      simp at h ⊢; rcases h with h | h <;> simp [h]
    · exact List.mem_append_right _ h
  have i₁₁ := (i₁₀.subs (ρ' := [("rows", pLL (rowsOf xs)), ("whole", pL (wholeOf xs))]) ⟨rfl, rfl, trivial⟩).more (ms := [(D, oD), (cb, oc)]) (fun p hp => by
    simp at hp
    rcases hp with rfl | rfl
    · exact ⟨offD, eD⟩
    · exact ⟨offcb, eoc⟩)
  subst henv
  exact law_end (g := g.with [(D, oD), (cb, oc)]) G.with hex rm (D := D) (oD := oD) (ocb := oc) (by simp [Gd.with]) (by simp [Gd.with]) doc xD.1 xD.2.1 (fun h e => ⟨oD, es, ep, e, xD, rD⟩) kv lo cbT i₁₁
end Mine

/- Kay -/
namespace Mine
open PySem PySem.W PySem.Calls PySem.Spec PyProof.Rows
set_option Elab.async false
set_option linter.unusedVariables false
set_option maxRecDepth 100000

/-- a def's first statement, as its doc -/
def docV (b : List Stmt) (t : Tok) : Value := match b with | .Expr (.Constant (.str x) _ _) _ :: _ => .str x t | _ => .none
def oK2 (P : Params) : Obj := { cls := Value.none, data := Data.dict #[] }
def oK3 (P : Params) : Obj :=
  { cls := Value.type "dict",
    data :=
      Data.dict
        #[{ hash := PyData.keyHash P (Str.ofString "__name__"), key := Value.str (Str.ofString "__name__") 165,
            val := Value.str (Str.ofString "law_il0211_01") 471 },
          { hash := PyData.keyHash P (Str.ofString "__doc__"), key := Value.str (Str.ofString "__doc__") 166,
            val := Value.none },
          { hash := PyData.keyHash P (Str.ofString "__package__"), key := Value.str (Str.ofString "__package__") 167,
            val := Value.none },
          { hash := PyData.keyHash P (Str.ofString "__loader__"), key := Value.str (Str.ofString "__loader__") 168,
            val := Value.builtin "__main__.__loader__#opaque" },
          { hash := PyData.keyHash P (Str.ofString "__spec__"), key := Value.str (Str.ofString "__spec__") 169,
            val := Value.none },
          { hash := PyData.keyHash P (Str.ofString "__annotations__"),
            key := Value.str (Str.ofString "__annotations__") 170, val := Value.ref 6 },
          { hash := PyData.keyHash P (Str.ofString "__builtins__"), key := Value.str (Str.ofString "__builtins__") 171,
            val := Value.ref 4 },
          { hash := PyData.keyHash P (Str.ofString "__file__"), key := Value.str (Str.ofString "__file__") 173,
            val := Value.str (Str.ofString "/claim/cut.py") 172 },
          { hash := PyData.keyHash P (Str.ofString "__cached__"), key := Value.str (Str.ofString "__cached__") 174,
            val := Value.none },
          { hash := PyData.keyHash P (Str.ofString "_wall"), key := Value.str (Str.ofString "_wall") 193,
            val := Value.ref 21 },
          { hash := PyData.keyHash P (Str.ofString "_tuplegetter"), key := Value.str (Str.ofString "_tuplegetter") 252,
            val := Value.ref 60 },
          { hash := PyData.keyHash P (Str.ofString "_ExceptionTableEntryBase"),
            key := Value.str (Str.ofString "_ExceptionTableEntryBase") 406, val := Value.ref 141 },
          { hash := PyData.keyHash P (Str.ofString "_ExceptionTableEntry"),
            key := Value.str (Str.ofString "_ExceptionTableEntry") 424, val := Value.ref 154 },
          { hash := PyData.keyHash P (Str.ofString "_parse_varint"), key := Value.str (Str.ofString "_parse_varint") 433,
            val := Value.ref 164 },
          { hash := PyData.keyHash P (Str.ofString "_parse_exception_table"),
            key := Value.str (Str.ofString "_parse_exception_table") 449, val := Value.ref 171 },
          { hash := PyData.keyHash P (Str.ofString "parse_keqv_list"),
            key := Value.str (Str.ofString "parse_keqv_list") 463, val := Value.ref 178 },
          { hash := PyData.keyHash P (Str.ofString "parse_http_list"),
            key := Value.str (Str.ofString "parse_http_list") 470, val := Value.ref 183 },
          { hash := PyData.keyHash P (Str.ofString "_law_blocks"), key := Value.str (Str.ofString "_law_blocks") 478,
            val := Value.ref 188 },
          { hash := PyData.keyHash P (Str.ofString "_law_octets"), key := Value.str (Str.ofString "_law_octets") 486,
            val := Value.ref 195 },
          { hash := PyData.keyHash P (Str.ofString "_law_read"), key := Value.str (Str.ofString "_law_read") 492,
            val := Value.ref 200 },
          { hash := PyData.keyHash P (Str.ofString "_law_marked"), key := Value.str (Str.ofString "_law_marked") 498,
            val := Value.ref 205 },
          { hash := PyData.keyHash P (Str.ofString "_law_bare"), key := Value.str (Str.ofString "_law_bare") 504,
            val := Value.ref 210 },
          { hash := PyData.keyHash P (Str.ofString "_law_cut"), key := Value.str (Str.ofString "_law_cut") 510,
            val := Value.ref 215 },
          { hash := PyData.keyHash P (Str.ofString "_law_told"), key := Value.str (Str.ofString "_law_told") 516,
            val := Value.ref 220 },
          { hash := PyData.keyHash P (Str.ofString "law"), key := Value.str (Str.ofString "law") 522,
            val := Value.ref 225 }]
        25 }
def oK81 (P : Params) : Obj :=
  { cls := Value.type "code",
    data :=
      Data.fields
        #[Value.str (Str.ofString "__new__") 276, Value.str (Str.ofString "_ExceptionTableEntryBase.__new__") 277,
          Value.str (Str.ofString "/claim/cut.py") 278, Value.int 29 0, Value.int 6 0, Value.int 0 0, Value.int 0 0,
          Value.int 3 0, Value.ref 76, Value.bool true, Value.int 181 0, Value.ref 77, Value.none, Value.ref 78,
          Value.ref 79, Value.ref 80, Value.int 285 0, Value.int 29 0, Value.str (Str.ofString "/claim/cut.py") 286] }
def oK140 (P : Params) : Obj :=
  { cls := Value.type "dict",
    data :=
      Data.dict
        #[{ hash := PyData.keyHash P (Str.ofString "__module__"), key := Value.str (Str.ofString "__module__") 260,
            val := Value.str (Str.ofString "cpy313.dis") 194 },
          { hash := PyData.keyHash P (Str.ofString "__firstlineno__"),
            key := Value.str (Str.ofString "__firstlineno__") 264, val := Value.int 23 263 },
          { hash := PyData.keyHash P (Str.ofString "__doc__"), key := Value.str (Str.ofString "__doc__") 266,
            val := Value.str (Str.ofString "_ExceptionTableEntryBase(start, end, target, depth, lasti)") 265 },
          { hash := PyData.keyHash P (Str.ofString "__slots__"), key := Value.str (Str.ofString "__slots__") 268,
            val := Value.ref 73 },
          { hash := PyData.keyHash P (Str.ofString "_fields"), key := Value.str (Str.ofString "_fields") 274,
            val := Value.ref 74 },
          { hash := PyData.keyHash P (Str.ofString "_field_defaults"),
            key := Value.str (Str.ofString "_field_defaults") 275, val := Value.ref 75 },
          { hash := PyData.keyHash P (Str.ofString "__new__"), key := Value.str (Str.ofString "__new__") 288,
            val := Value.ref 142 },
          { hash := PyData.keyHash P (Str.ofString "_make"), key := Value.str (Str.ofString "_make") 310,
            val := Value.ref 91 },
          { hash := PyData.keyHash P (Str.ofString "_replace"), key := Value.str (Str.ofString "_replace") 321,
            val := Value.ref 100 },
          { hash := PyData.keyHash P (Str.ofString "__replace__"), key := Value.str (Str.ofString "__replace__") 322,
            val := Value.ref 100 },
          { hash := PyData.keyHash P (Str.ofString "__repr__"), key := Value.str (Str.ofString "__repr__") 330,
            val := Value.ref 107 },
          { hash := PyData.keyHash P (Str.ofString "_asdict"), key := Value.str (Str.ofString "_asdict") 337,
            val := Value.ref 114 },
          { hash := PyData.keyHash P (Str.ofString "__getnewargs__"),
            key := Value.str (Str.ofString "__getnewargs__") 345, val := Value.ref 121 },
          { hash := PyData.keyHash P (Str.ofString "__match_args__"),
            key := Value.str (Str.ofString "__match_args__") 351, val := Value.ref 122 },
          { hash := PyData.keyHash P (Str.ofString "start"), key := Value.str (Str.ofString "start") 361,
            val := Value.ref 124 },
          { hash := PyData.keyHash P (Str.ofString "end"), key := Value.str (Str.ofString "end") 371,
            val := Value.ref 127 },
          { hash := PyData.keyHash P (Str.ofString "target"), key := Value.str (Str.ofString "target") 381,
            val := Value.ref 130 },
          { hash := PyData.keyHash P (Str.ofString "depth"), key := Value.str (Str.ofString "depth") 391,
            val := Value.ref 133 },
          { hash := PyData.keyHash P (Str.ofString "lasti"), key := Value.str (Str.ofString "lasti") 401,
            val := Value.ref 136 },
          { hash := PyData.keyHash P (Str.ofString "__static_attributes__"),
            key := Value.str (Str.ofString "__static_attributes__") 402, val := Value.ref 138 }]
        2 }
def oK142 (P : Params) : Obj :=
  { cls := Value.type "staticmethod", data := Data.fields #[Value.ref 82] }
def oK153 (P : Params) : Obj :=
  { cls := Value.type "dict",
    data :=
      Data.dict
        #[{ hash := PyData.keyHash P (Str.ofString "__module__"), key := Value.str (Str.ofString "__module__") 414,
            val := Value.str (Str.ofString "cpy313.dis") 194 },
          { hash := PyData.keyHash P (Str.ofString "__firstlineno__"),
            key := Value.str (Str.ofString "__firstlineno__") 418, val := Value.int 68 417 },
          { hash := PyData.keyHash P (Str.ofString "__static_attributes__"),
            key := Value.str (Str.ofString "__static_attributes__") 419, val := Value.ref 152 },
          { hash := PyData.keyHash P (Str.ofString "__dict__"), key := Value.str (Str.ofString "__dict__") 421,
            val := Value.ref 155 },
          { hash := PyData.keyHash P (Str.ofString "__doc__"), key := Value.str (Str.ofString "__doc__") 422,
            val := Value.none }]
        3 }
def oK163 (P : Params) : Obj :=
  { cls := Value.type "code",
    data :=
      Data.fields
        #[Value.str (Str.ofString "_parse_varint") 425, Value.str (Str.ofString "_parse_varint") 426,
          Value.str (Str.ofString "/claim/cut.py") 427, Value.int 70 0, Value.int 1 0, Value.int 0 0, Value.int 0 0,
          Value.int 3 0, Value.ref 158, Value.bool true, Value.int 181 0, Value.ref 159, Value.none, Value.ref 160,
          Value.ref 161, Value.ref 162, Value.int 431 0, Value.int 70 0, Value.str (Str.ofString "/claim/cut.py") 432] }
def oK170 (P : Params) : Obj :=
  { cls := Value.type "code",
    data :=
      Data.fields
        #[Value.str (Str.ofString "_parse_exception_table") 434, Value.str (Str.ofString "_parse_exception_table") 435,
          Value.str (Str.ofString "/claim/cut.py") 436, Value.int 78 0, Value.int 1 0, Value.int 0 0, Value.int 0 0,
          Value.int 3 0, Value.ref 165, Value.bool true, Value.int 181 0, Value.ref 166, Value.none, Value.ref 167,
          Value.ref 168, Value.ref 169, Value.int 447 0, Value.int 78 0, Value.str (Str.ofString "/claim/cut.py") 448] }
def oK177 (P : Params) : Obj :=
  { cls := Value.type "code",
    data :=
      Data.fields
        #[Value.str (Str.ofString "parse_keqv_list") 452, Value.str (Str.ofString "parse_keqv_list") 453,
          Value.str (Str.ofString "/claim/cut.py") 454, Value.int 94 0, Value.int 1 0, Value.int 0 0, Value.int 0 0,
          Value.int 3 0, Value.ref 172, Value.bool true, Value.int 181 0, Value.ref 173, Value.none, Value.ref 174,
          Value.ref 175, Value.ref 176, Value.int 460 0, Value.int 94 0, Value.str (Str.ofString "/claim/cut.py") 461] }
def oK182 (P : Params) : Obj :=
  { cls := Value.type "code",
    data :=
      Data.fields
        #[Value.str (Str.ofString "parse_http_list") 464, Value.str (Str.ofString "parse_http_list") 465,
          Value.str (Str.ofString "/claim/cut.py") 466, Value.int 103 0, Value.int 1 0, Value.int 0 0, Value.int 0 0,
          Value.int 3 0, Value.ref 179, Value.bool true, Value.int 181 0, Value.ref 180, Value.none, Value.none,
          Value.none, Value.ref 181, Value.int 467 0, Value.int 103 0, Value.str (Str.ofString "/claim/cut.py") 468] }
def oK187 (P : Params) : Obj :=
  { cls := Value.type "code",
    data :=
      Data.fields
        #[Value.str (Str.ofString "_law_blocks") 473, Value.str (Str.ofString "_law_blocks") 474,
          Value.str (Str.ofString "/claim/cut.py") 475, Value.int 139 0, Value.int 1 0, Value.int 0 0, Value.int 0 0,
          Value.int 3 0, Value.ref 184, Value.bool true, Value.int 181 0, Value.ref 185, Value.none, Value.none,
          Value.none, Value.ref 186, Value.int 476 0, Value.int 139 0, Value.str (Str.ofString "/claim/cut.py") 477] }
def oK194 (P : Params) : Obj :=
  { cls := Value.type "code",
    data :=
      Data.fields
        #[Value.str (Str.ofString "_law_octets") 479, Value.str (Str.ofString "_law_octets") 480,
          Value.str (Str.ofString "/claim/cut.py") 481, Value.int 142 0, Value.int 1 0, Value.int 0 0, Value.int 0 0,
          Value.int 3 0, Value.ref 189, Value.bool true, Value.int 181 0, Value.ref 190, Value.none, Value.ref 191,
          Value.ref 192, Value.ref 193, Value.int 484 0, Value.int 142 0, Value.str (Str.ofString "/claim/cut.py") 485] }
def oK199 (P : Params) : Obj :=
  { cls := Value.type "code",
    data :=
      Data.fields
        #[Value.str (Str.ofString "_law_read") 487, Value.str (Str.ofString "_law_read") 488,
          Value.str (Str.ofString "/claim/cut.py") 489, Value.int 148 0, Value.int 1 0, Value.int 0 0, Value.int 0 0,
          Value.int 3 0, Value.ref 196, Value.bool true, Value.int 181 0, Value.ref 197, Value.none, Value.none,
          Value.none, Value.ref 198, Value.int 490 0, Value.int 148 0, Value.str (Str.ofString "/claim/cut.py") 491] }
def oK204 (P : Params) : Obj :=
  { cls := Value.type "code",
    data :=
      Data.fields
        #[Value.str (Str.ofString "_law_marked") 493, Value.str (Str.ofString "_law_marked") 494,
          Value.str (Str.ofString "/claim/cut.py") 495, Value.int 152 0, Value.int 1 0, Value.int 0 0, Value.int 0 0,
          Value.int 3 0, Value.ref 201, Value.bool true, Value.int 181 0, Value.ref 202, Value.none, Value.none,
          Value.none, Value.ref 203, Value.int 496 0, Value.int 152 0, Value.str (Str.ofString "/claim/cut.py") 497] }
def oK209 (P : Params) : Obj :=
  { cls := Value.type "code",
    data :=
      Data.fields
        #[Value.str (Str.ofString "_law_bare") 499, Value.str (Str.ofString "_law_bare") 500,
          Value.str (Str.ofString "/claim/cut.py") 501, Value.int 154 0, Value.int 1 0, Value.int 0 0, Value.int 0 0,
          Value.int 3 0, Value.ref 206, Value.bool true, Value.int 181 0, Value.ref 207, Value.none, Value.none,
          Value.none, Value.ref 208, Value.int 502 0, Value.int 154 0, Value.str (Str.ofString "/claim/cut.py") 503] }
def oK214 (P : Params) : Obj :=
  { cls := Value.type "code",
    data :=
      Data.fields
        #[Value.str (Str.ofString "_law_cut") 505, Value.str (Str.ofString "_law_cut") 506,
          Value.str (Str.ofString "/claim/cut.py") 507, Value.int 157 0, Value.int 1 0, Value.int 0 0, Value.int 0 0,
          Value.int 3 0, Value.ref 211, Value.bool true, Value.int 181 0, Value.ref 212, Value.none, Value.none,
          Value.none, Value.ref 213, Value.int 508 0, Value.int 157 0, Value.str (Str.ofString "/claim/cut.py") 509] }
def oK219 (P : Params) : Obj :=
  { cls := Value.type "code",
    data :=
      Data.fields
        #[Value.str (Str.ofString "_law_told") 511, Value.str (Str.ofString "_law_told") 512,
          Value.str (Str.ofString "/claim/cut.py") 513, Value.int 175 0, Value.int 1 0, Value.int 0 0, Value.int 0 0,
          Value.int 3 0, Value.ref 216, Value.bool true, Value.int 181 0, Value.ref 217, Value.none, Value.none,
          Value.none, Value.ref 218, Value.int 514 0, Value.int 175 0, Value.str (Str.ofString "/claim/cut.py") 515] }
def oK82 (P : Params) : Obj :=
  ⟨.type "function", none, .func (fnX "__new__" "_ExceptionTableEntryBase.__new__" (argsOf newSt) (bodyOf newSt) (scopeOf newSt) [] .none .none (docV (bodyOf newSt) 287) (.str (Str.ofString "cpy313.dis") 194) none (.ref 81) .none), #[]⟩
def oK164 (P : Params) : Obj :=
  ⟨.type "function", none, .func (fnX "_parse_varint" "_parse_varint" (fArgs 5) (fBody 5) (fScope 5) [] .none .none .none (.str (Str.ofString "cpy313.dis") 194) none (.ref 163) .none), #[]⟩
def oK171 (P : Params) : Obj :=
  ⟨.type "function", none, .func (fnX "_parse_exception_table" "_parse_exception_table" (fArgs 6) (fBody 6) (fScope 6) [] .none .none .none (.str (Str.ofString "cpy313.dis") 194) none (.ref 170) .none), #[]⟩
def oK178 (P : Params) : Obj :=
  ⟨.type "function", none, .func (fnX "parse_keqv_list" "parse_keqv_list" (fArgs 8) (fBody 8) (fScope 8) [] .none .none (docV (fBody 8) 462) (.str (Str.ofString "cpy313.urllib.request") 450) none (.ref 177) .none), #[]⟩
def oK183 (P : Params) : Obj :=
  ⟨.type "function", none, .func (fnX "parse_http_list" "parse_http_list" (fArgs 9) (fBody 9) (fScope 9) [] .none .none (docV (fBody 9) 469) (.str (Str.ofString "cpy313.urllib.request") 450) none (.ref 182) .none), #[]⟩
def oK188 (P : Params) : Obj :=
  ⟨.type "function", none, .func (fnX "_law_blocks" "_law_blocks" (fArgs 11) (fBody 11) (fScope 11) [] .none .none .none (.str (Str.ofString "law_il0211_01") 471) none (.ref 187) .none), #[]⟩
def oK195 (P : Params) : Obj :=
  ⟨.type "function", none, .func (fnX "_law_octets" "_law_octets" (fArgs 12) (fBody 12) (fScope 12) [] .none .none .none (.str (Str.ofString "law_il0211_01") 471) none (.ref 194) .none), #[]⟩
def oK200 (P : Params) : Obj :=
  ⟨.type "function", none, .func (fnX "_law_read" "_law_read" (fArgs 13) (fBody 13) (fScope 13) [] .none .none .none (.str (Str.ofString "law_il0211_01") 471) none (.ref 199) .none), #[]⟩
def oK205 (P : Params) : Obj :=
  ⟨.type "function", none, .func (fnX "_law_marked" "_law_marked" (fArgs 14) (fBody 14) (fScope 14) [] .none .none .none (.str (Str.ofString "law_il0211_01") 471) none (.ref 204) .none), #[]⟩
def oK210 (P : Params) : Obj :=
  ⟨.type "function", none, .func (fnX "_law_bare" "_law_bare" (fArgs 15) (fBody 15) (fScope 15) [] .none .none .none (.str (Str.ofString "law_il0211_01") 471) none (.ref 209) .none), #[]⟩
def oK215 (P : Params) : Obj :=
  ⟨.type "function", none, .func (fnX "_law_cut" "_law_cut" (fArgs 16) (fBody 16) (fScope 16) [] .none .none .none (.str (Str.ofString "law_il0211_01") 471) none (.ref 214) .none), #[]⟩
def oK220 (P : Params) : Obj :=
  ⟨.type "function", none, .func (fnX "_law_told" "_law_told" (fArgs 17) (fBody 17) (fScope 17) [] .none .none .none (.str (Str.ofString "law_il0211_01") 471) none (.ref 219) .none), #[]⟩
def oK224 (P : Params) : Obj :=
  { cls := Value.type "code",
    data :=
      Data.fields
        #[Value.str (Str.ofString "law") 517, Value.str (Str.ofString "law") 518,
          Value.str (Str.ofString "/claim/cut.py") 519, Value.int 185 0, Value.int 1 0, Value.int 0 0, Value.int 0 0,
          Value.int 3 0, Value.ref 221, Value.bool true, Value.int 181 0, Value.ref 222, Value.none, Value.none,
          Value.none, Value.ref 223, Value.int 520 0, Value.int 185 0, Value.str (Str.ofString "/claim/cut.py") 521] }
def oK225 (P : Params) : Obj :=
  ⟨.type "function", none, .func (fnX "law" "law" (fArgs 18) (fBody 18) (fScope 18) [] .none .none .none (.str (Str.ofString "law_il0211_01") 471) none (.ref 224) .none), #[]⟩
/-- the part of the heap that the proof knows -/
def kK : Params → Frag := fun P => (nat_lit 2, oK2 P) :: (nat_lit 3, oK3 P) :: (nat_lit 81, oK81 P) :: (nat_lit 82, oK82 P) :: (nat_lit 140, oK140 P) :: (nat_lit 141, o141) :: (nat_lit 142, oK142 P) :: (nat_lit 153, oK153 P) :: (nat_lit 154, o154) :: (nat_lit 163, oK163 P) :: (nat_lit 164, oK164 P) :: (nat_lit 170, oK170 P) :: (nat_lit 171, oK171 P) :: (nat_lit 177, oK177 P) :: (nat_lit 178, oK178 P) :: (nat_lit 182, oK182 P) :: (nat_lit 183, oK183 P) :: (nat_lit 187, oK187 P) :: (nat_lit 188, oK188 P) :: (nat_lit 194, oK194 P) :: (nat_lit 195, oK195 P) :: (nat_lit 199, oK199 P) :: (nat_lit 200, oK200 P) :: (nat_lit 204, oK204 P) :: (nat_lit 205, oK205 P) :: (nat_lit 209, oK209 P) :: (nat_lit 210, oK210 P) :: (nat_lit 214, oK214 P) :: (nat_lit 215, oK215 P) :: (nat_lit 219, oK219 P) :: (nat_lit 220, oK220 P) :: (nat_lit 224, oK224 P) :: (nat_lit 225, oK225 P) :: []
def sA0 : Stmt := stAt 0
def sA1 : Stmt := stAt 1
def sA2 : Stmt := stAt 2
def sA3 : Stmt := stAt 3
def sA4 : Stmt := stAt 4
def sA5 : Stmt := stAt 5
def sA6 : Stmt := stAt 6
def sA7 : Stmt := stAt 7
def sA8 : Stmt := stAt 8
def sA9 : Stmt := stAt 9
def sA10 : Stmt := stAt 10
def sA11 : Stmt := stAt 11
def sA12 : Stmt := stAt 12
def sA13 : Stmt := stAt 13
def sA14 : Stmt := stAt 14
def sA15 : Stmt := stAt 15
def sA16 : Stmt := stAt 16
def sA17 : Stmt := stAt 17
def sA18 : Stmt := stAt 18
def pwA : Program := { PySem.Challenge.pw_il0211_01 with main := { PySem.Challenge.pw_il0211_01.main with body := [sA0, sA1, sA2, sA3, sA4, sA5, sA6, sA7, sA8, sA9, sA10, sA11, sA12, sA13, sA14, sA15, sA16, sA17, sA18] } }
/-- the law, its text a list of named statements -/
def rwA : OpenLaw := { PySem.Challenge.rw_il0211_01 with prog := pwA }
theorem rwA_eq : rwA = PySem.Challenge.rw_il0211_01 := by kernel_rfl
end Mine

/- Sts -/
namespace Mine
open PySem PySem.W PySem.Calls PySem.Spec PyProof.Rows
set_option Elab.async false
set_option linter.unusedVariables false
set_option maxRecDepth 100000

/-- a method's def in a class's body -/
def mth (c j : Nat) : Stmt := match stAt c with | .ClassDef _ _ _ b _ _ _ _ _ _ _ => b.getD j (.Pass ⟨0, 0, 0, 0⟩) | _ => .Pass ⟨0, 0, 0, 0⟩
/-- a def's object: the function, or its template -/
def fO (cls : Value) (name qual : Str) (st : Stmt) (glo : Addr) (clo : List (Str × Addr)) (dfl doc pm : Value) (an : Option Addr) (cd ct : Value) : Obj :=
  ⟨cls, none, .func { name := name, qualname := qual, params := argsOf st, body := .stmts (bodyOf st), scope := scopeOf st, globals := glo, closure := clo, defaults := dfl, kwdefaults := .none, doc := doc, pyModule := pm, annotations := an, code := cd, closureTuple := ct, builtins := 0 }, #[]⟩
noncomputable def hO11_pre (P : Params) : Obj :=
  { «cls» := Value.type "tuple", data := Data.seq #[] }
noncomputable def hO12_pre (P : Params) : Obj :=
  { «cls» := Value.none, data := Data.fields #[] }
noncomputable def hO13_pre (P : Params) : Obj :=
  { «cls» := Value.type "code",
    data :=
      Data.fields
        #[Value.str (Str.ofString "<module>") 182, Value.str (Str.ofString "<module>") 183,
          Value.str (Str.ofString "/claim/cut.py") 184, Value.int 1 0, Value.int 0 0, Value.int 0 0, Value.int 0 0,
          Value.int 0 0, Value.ref 11, Value.bool false, Value.int 181 0, Value.ref 12, Value.none, Value.none,
          Value.none, Value.none, Value.int 185 0, Value.int 1 0, Value.str (Str.ofString "/claim/cut.py") 186] }
noncomputable def hO14_pre (P : Params) : Obj :=
  { «cls» := Value.type "frame",
    slots :=
      #[some (Value.ref 13), some (Value.ref 3), some (Value.ref 3), none, some (Value.str (Str.ofString "__main__") 164),
        none, some (Value.ref 0)] }
noncomputable def hO3_st2 (P : Params) : Obj :=
  { «cls» := Value.type "dict",
    data :=
      Data.dict
        #[{ hash := PyData.keyHash P (Str.ofString "__name__"), key := Value.str (Str.ofString "__name__") 165,
            val := Value.str (Str.ofString "cpy313.dis") 194 },
          { hash := PyData.keyHash P (Str.ofString "__doc__"), key := Value.str (Str.ofString "__doc__") 166,
            val := Value.none },
          { hash := PyData.keyHash P (Str.ofString "__package__"), key := Value.str (Str.ofString "__package__") 167,
            val := Value.none },
          { hash := PyData.keyHash P (Str.ofString "__loader__"), key := Value.str (Str.ofString "__loader__") 168,
            val := Value.builtin "__main__.__loader__#opaque" },
          { hash := PyData.keyHash P (Str.ofString "__spec__"), key := Value.str (Str.ofString "__spec__") 169,
            val := Value.none },
          { hash := PyData.keyHash P (Str.ofString "__annotations__"),
            key := Value.str (Str.ofString "__annotations__") 170, val := Value.ref 6 },
          { hash := PyData.keyHash P (Str.ofString "__builtins__"), key := Value.str (Str.ofString "__builtins__") 171,
            val := Value.ref 4 },
          { hash := PyData.keyHash P (Str.ofString "__file__"), key := Value.str (Str.ofString "__file__") 173,
            val := Value.str (Str.ofString "/claim/cut.py") 172 },
          { hash := PyData.keyHash P (Str.ofString "__cached__"), key := Value.str (Str.ofString "__cached__") 174,
            val := Value.none },
          { hash := PyData.keyHash P (Str.ofString "_wall"), key := Value.str (Str.ofString "_wall") 193,
            val := Value.ref 21 },
          { hash := PyData.keyHash P (Str.ofString "_tuplegetter"), key := Value.str (Str.ofString "_tuplegetter") 252,
            val := Value.ref 60 }]
        11 }
noncomputable def hO12_st2 (P : Params) : Obj :=
  { «cls» := Value.none,
    data := Data.fields #[Value.int 1 0, Value.int 0 0, Value.ref 20, Value.int 5 0, Value.int 0 0, Value.ref 27] }
noncomputable def hO15_st0 (P : Params) : Obj :=
  { «cls» := Value.type "tuple", data := Data.seq #[] }
noncomputable def hO16_st0 (P : Params) : Obj :=
  { «cls» := Value.none, data := Data.fields #[] }
noncomputable def hO17_st0 (P : Params) : Obj :=
  { «cls» := Value.type "tuple", data := Data.seq #[Value.str (Str.ofString "k") 190] }
noncomputable def hO18_st0 (P : Params) : Obj :=
  { «cls» := Value.type "tuple", data := Data.seq #[] }
noncomputable def hO19_st0 (P : Params) : Obj :=
  fO (Value.none) "_wall" "_wall" (stAt 0) 0 [] Value.none Value.none Value.none none Value.none Value.none
noncomputable def hO20_st0 (P : Params) : Obj :=
  { «cls» := Value.type "code",
    data :=
      Data.fields
        #[Value.str (Str.ofString "_wall") 187, Value.str (Str.ofString "_wall") 188,
          Value.str (Str.ofString "/claim/cut.py") 189, Value.int 1 0, Value.int 1 0, Value.int 0 0, Value.int 0 0,
          Value.int 3 0, Value.ref 15, Value.bool true, Value.int 181 0, Value.ref 16, Value.none, Value.ref 17,
          Value.ref 18, Value.ref 19, Value.int 191 0, Value.int 1 0, Value.str (Str.ofString "/claim/cut.py") 192] }
noncomputable def hO21_st0 (P : Params) : Obj :=
  fO (Value.type "function") "_wall" "_wall" (stAt 0) 3 [] Value.none Value.none (Value.str (Str.ofString "__main__") 164) none (Value.ref 20) Value.none
noncomputable def hO22_st2 (P : Params) : Obj :=
  { «cls» := Value.type "tuple", data := Data.seq #[] }
noncomputable def hO23_st2 (P : Params) : Obj :=
  { «cls» := Value.type "builtin_function_or_method",
    data := Data.fields #[Value.builtin "type.__prepare__", Value.type "type"] }
noncomputable def hO24_st2 (P : Params) : Obj :=
  { «cls» := Value.type "dict",
    data :=
      Data.dict
        #[{ hash := PyData.keyHash P (Str.ofString "__module__"), key := Value.str (Str.ofString "__module__") 203,
            val := Value.str (Str.ofString "cpy313.dis") 194 },
          { hash := PyData.keyHash P (Str.ofString "__qualname__"), key := Value.str (Str.ofString "__qualname__") 205,
            val := Value.str (Str.ofString "_tuplegetter") 204 },
          { hash := PyData.keyHash P (Str.ofString "__firstlineno__"),
            key := Value.str (Str.ofString "__firstlineno__") 207, val := Value.int 5 206 },
          { hash := PyData.keyHash P (Str.ofString "__init__"), key := Value.str (Str.ofString "__init__") 216,
            val := Value.ref 35 },
          { hash := PyData.keyHash P (Str.ofString "__get__"), key := Value.str (Str.ofString "__get__") 225,
            val := Value.ref 43 },
          { hash := PyData.keyHash P (Str.ofString "__set__"), key := Value.str (Str.ofString "__set__") 234,
            val := Value.ref 50 },
          { hash := PyData.keyHash P (Str.ofString "__delete__"), key := Value.str (Str.ofString "__delete__") 242,
            val := Value.ref 57 },
          { hash := PyData.keyHash P (Str.ofString "__static_attributes__"),
            key := Value.str (Str.ofString "__static_attributes__") 245, val := Value.ref 58 }]
        8 }
noncomputable def hO25_st2 (P : Params) : Obj :=
  { «cls» := Value.type "tuple", data := Data.seq #[] }
noncomputable def hO26_st2 (P : Params) : Obj :=
  { «cls» := Value.none,
    data :=
      Data.fields
        #[Value.int 7 0, Value.int 4 0, Value.ref 34, Value.int 11 0, Value.int 4 0, Value.ref 42, Value.int 18 0,
          Value.int 4 0, Value.ref 49, Value.int 21 0, Value.int 4 0, Value.ref 56] }
noncomputable def hO27_st2 (P : Params) : Obj :=
  { «cls» := Value.type "code",
    data :=
      Data.fields
        #[Value.str (Str.ofString "_tuplegetter") 198, Value.str (Str.ofString "_tuplegetter") 199,
          Value.str (Str.ofString "/claim/cut.py") 200, Value.int 5 0, Value.int 0 0, Value.int 0 0, Value.int 0 0,
          Value.int 0 0, Value.ref 25, Value.bool false, Value.int 181 0, Value.ref 26, Value.none, Value.none,
          Value.none, Value.none, Value.int 201 0, Value.int 5 0, Value.str (Str.ofString "/claim/cut.py") 202] }
noncomputable def hO28_st2 (P : Params) : Obj :=
  { «cls» := Value.type "frame",
    slots :=
      #[some (Value.ref 27), some (Value.ref 3), some (Value.ref 24), none,
        some (Value.str (Str.ofString "cpy313.dis") 194), none, some (Value.ref 0)] }
noncomputable def hO29_st2 (P : Params) : Obj :=
  { «cls» := Value.type "tuple", data := Data.seq #[] }
noncomputable def hO30_st2 (P : Params) : Obj :=
  { «cls» := Value.none, data := Data.fields #[] }
noncomputable def hO31_st2 (P : Params) : Obj :=
  { «cls» := Value.type "tuple",
    data :=
      Data.seq
        #[Value.str (Str.ofString "self") 211, Value.str (Str.ofString "index") 212, Value.str (Str.ofString "doc") 213] }
noncomputable def hO32_st2 (P : Params) : Obj :=
  { «cls» := Value.type "tuple", data := Data.seq #[] }
noncomputable def hO33_st2 (P : Params) : Obj :=
  fO (Value.none) "__init__" "_tuplegetter.__init__" (mth 2 0) 0 [] Value.none Value.none Value.none none Value.none Value.none
noncomputable def hO34_st2 (P : Params) : Obj :=
  { «cls» := Value.type "code",
    data :=
      Data.fields
        #[Value.str (Str.ofString "__init__") 208, Value.str (Str.ofString "_tuplegetter.__init__") 209,
          Value.str (Str.ofString "/claim/cut.py") 210, Value.int 7 0, Value.int 3 0, Value.int 0 0, Value.int 0 0,
          Value.int 3 0, Value.ref 29, Value.bool true, Value.int 181 0, Value.ref 30, Value.none, Value.ref 31,
          Value.ref 32, Value.ref 33, Value.int 214 0, Value.int 7 0, Value.str (Str.ofString "/claim/cut.py") 215] }
noncomputable def hO35_st2 (P : Params) : Obj :=
  fO (Value.type "function") "__init__" "_tuplegetter.__init__" (mth 2 0) 3 [] Value.none Value.none (Value.str (Str.ofString "cpy313.dis") 194) none (Value.ref 34) Value.none
noncomputable def hO36_st2 (P : Params) : Obj :=
  { «cls» := Value.type "tuple", data := Data.seq #[Value.none] }
noncomputable def hO37_st2 (P : Params) : Obj :=
  { «cls» := Value.type "tuple", data := Data.seq #[] }
noncomputable def hO38_st2 (P : Params) : Obj :=
  { «cls» := Value.none, data := Data.fields #[] }
noncomputable def hO39_st2 (P : Params) : Obj :=
  { «cls» := Value.type "tuple",
    data :=
      Data.seq
        #[Value.str (Str.ofString "self") 220, Value.str (Str.ofString "obj") 221,
          Value.str (Str.ofString "objtype") 222] }
noncomputable def hO40_st2 (P : Params) : Obj :=
  { «cls» := Value.type "tuple", data := Data.seq #[] }
noncomputable def hO41_st2 (P : Params) : Obj :=
  fO (Value.none) "__get__" "_tuplegetter.__get__" (mth 2 1) 0 [] Value.none Value.none Value.none none Value.none Value.none
noncomputable def hO42_st2 (P : Params) : Obj :=
  { «cls» := Value.type "code",
    data :=
      Data.fields
        #[Value.str (Str.ofString "__get__") 217, Value.str (Str.ofString "_tuplegetter.__get__") 218,
          Value.str (Str.ofString "/claim/cut.py") 219, Value.int 11 0, Value.int 3 0, Value.int 0 0, Value.int 0 0,
          Value.int 3 0, Value.ref 37, Value.bool true, Value.int 181 0, Value.ref 38, Value.none, Value.ref 39,
          Value.ref 40, Value.ref 41, Value.int 223 0, Value.int 11 0, Value.str (Str.ofString "/claim/cut.py") 224] }
noncomputable def hO43_st2 (P : Params) : Obj :=
  fO (Value.type "function") "__get__" "_tuplegetter.__get__" (mth 2 1) 3 [] (Value.ref 36) Value.none (Value.str (Str.ofString "cpy313.dis") 194) none (Value.ref 42) Value.none
noncomputable def hO44_st2 (P : Params) : Obj :=
  { «cls» := Value.type "tuple", data := Data.seq #[] }
noncomputable def hO45_st2 (P : Params) : Obj :=
  { «cls» := Value.none, data := Data.fields #[] }
noncomputable def hO46_st2 (P : Params) : Obj :=
  { «cls» := Value.type "tuple",
    data :=
      Data.seq
        #[Value.str (Str.ofString "self") 229, Value.str (Str.ofString "obj") 230, Value.str (Str.ofString "value") 231] }
noncomputable def hO47_st2 (P : Params) : Obj :=
  { «cls» := Value.type "tuple", data := Data.seq #[] }
noncomputable def hO48_st2 (P : Params) : Obj :=
  fO (Value.none) "__set__" "_tuplegetter.__set__" (mth 2 2) 0 [] Value.none Value.none Value.none none Value.none Value.none
noncomputable def hO49_st2 (P : Params) : Obj :=
  { «cls» := Value.type "code",
    data :=
      Data.fields
        #[Value.str (Str.ofString "__set__") 226, Value.str (Str.ofString "_tuplegetter.__set__") 227,
          Value.str (Str.ofString "/claim/cut.py") 228, Value.int 18 0, Value.int 3 0, Value.int 0 0, Value.int 0 0,
          Value.int 3 0, Value.ref 44, Value.bool true, Value.int 181 0, Value.ref 45, Value.none, Value.ref 46,
          Value.ref 47, Value.ref 48, Value.int 232 0, Value.int 18 0, Value.str (Str.ofString "/claim/cut.py") 233] }
noncomputable def hO50_st2 (P : Params) : Obj :=
  fO (Value.type "function") "__set__" "_tuplegetter.__set__" (mth 2 2) 3 [] Value.none Value.none (Value.str (Str.ofString "cpy313.dis") 194) none (Value.ref 49) Value.none
noncomputable def hO51_st2 (P : Params) : Obj :=
  { «cls» := Value.type "tuple", data := Data.seq #[] }
noncomputable def hO52_st2 (P : Params) : Obj :=
  { «cls» := Value.none, data := Data.fields #[] }
noncomputable def hO53_st2 (P : Params) : Obj :=
  { «cls» := Value.type "tuple",
    data := Data.seq #[Value.str (Str.ofString "self") 238, Value.str (Str.ofString "obj") 239] }
noncomputable def hO54_st2 (P : Params) : Obj :=
  { «cls» := Value.type "tuple", data := Data.seq #[] }
noncomputable def hO55_st2 (P : Params) : Obj :=
  fO (Value.none) "__delete__" "_tuplegetter.__delete__" (mth 2 3) 0 [] Value.none Value.none Value.none none Value.none Value.none
noncomputable def hO56_st2 (P : Params) : Obj :=
  { «cls» := Value.type "code",
    data :=
      Data.fields
        #[Value.str (Str.ofString "__delete__") 235, Value.str (Str.ofString "_tuplegetter.__delete__") 236,
          Value.str (Str.ofString "/claim/cut.py") 237, Value.int 21 0, Value.int 2 0, Value.int 0 0, Value.int 0 0,
          Value.int 3 0, Value.ref 51, Value.bool true, Value.int 181 0, Value.ref 52, Value.none, Value.ref 53,
          Value.ref 54, Value.ref 55, Value.int 240 0, Value.int 21 0, Value.str (Str.ofString "/claim/cut.py") 241] }
noncomputable def hO57_st2 (P : Params) : Obj :=
  fO (Value.type "function") "__delete__" "_tuplegetter.__delete__" (mth 2 3) 3 [] Value.none Value.none (Value.str (Str.ofString "cpy313.dis") 194) none (Value.ref 56) Value.none
noncomputable def hO58_st2 (P : Params) : Obj :=
  { «cls» := Value.type "tuple",
    data := Data.seq #[Value.str (Str.ofString "__doc__") 243, Value.str (Str.ofString "index") 244] }
noncomputable def hO59_st2 (P : Params) : Obj :=
  { «cls» := Value.type "dict",
    data :=
      Data.dict
        #[{ hash := PyData.keyHash P (Str.ofString "__module__"), key := Value.str (Str.ofString "__module__") 203,
            val := Value.str (Str.ofString "cpy313.dis") 194 },
          { hash := PyData.keyHash P (Str.ofString "__firstlineno__"),
            key := Value.str (Str.ofString "__firstlineno__") 207, val := Value.int 5 206 },
          { hash := PyData.keyHash P (Str.ofString "__init__"), key := Value.str (Str.ofString "__init__") 216,
            val := Value.ref 35 },
          { hash := PyData.keyHash P (Str.ofString "__get__"), key := Value.str (Str.ofString "__get__") 225,
            val := Value.ref 43 },
          { hash := PyData.keyHash P (Str.ofString "__set__"), key := Value.str (Str.ofString "__set__") 234,
            val := Value.ref 50 },
          { hash := PyData.keyHash P (Str.ofString "__delete__"), key := Value.str (Str.ofString "__delete__") 242,
            val := Value.ref 57 },
          { hash := PyData.keyHash P (Str.ofString "__static_attributes__"),
            key := Value.str (Str.ofString "__static_attributes__") 245, val := Value.ref 58 },
          { hash := PyData.keyHash P (Str.ofString "__dict__"), key := Value.str (Str.ofString "__dict__") 247,
            val := Value.ref 61 },
          { hash := PyData.keyHash P (Str.ofString "__weakref__"), key := Value.str (Str.ofString "__weakref__") 249,
            val := Value.ref 62 },
          { hash := PyData.keyHash P (Str.ofString "__doc__"), key := Value.str (Str.ofString "__doc__") 250,
            val := Value.none }]
        4 }
noncomputable def hO60_st2 (P : Params) : Obj :=
  { «cls» := Value.type "type",
    data :=
      Data.cls
        { name := Str.ofString "_tuplegetter", bases := [Value.type "object"], mro := [Value.ref 60, Value.type "object"],
          ns := 59, qualname := Str.ofString "_tuplegetter" },
    slots :=
      #[none, none, some (Value.str (Str.ofString "_tuplegetter") 196),
        some (Value.str (Str.ofString "_tuplegetter") 204), some (Value.builtin "object.__new__"),
        some (Value.bool true)] }
noncomputable def hO61_st2 (P : Params) : Obj :=
  { «cls» := Value.type "getset_descriptor",
    data :=
      Data.fields
        #[Value.str (Str.ofString "__dict__") 246, Value.ref 60, Value.builtin "function.__dict__",
          Value.builtin "function.__dict__#set"] }
noncomputable def hO62_st2 (P : Params) : Obj :=
  { «cls» := Value.type "getset_descriptor",
    data :=
      Data.fields
        #[Value.str (Str.ofString "__weakref__") 248, Value.ref 60, Value.builtin "ExceptionGroup.__weakref__",
          Value.none] }
noncomputable def hO63_st2 (P : Params) : Obj :=
  { «cls» := Value.type "super", data := Data.fields #[Value.ref 60, Value.ref 60, Value.ref 60] }
noncomputable def hO64_st2 (P : Params) : Obj :=
  { «cls» := Value.type "builtin_function_or_method",
    data := Data.fields #[Value.builtin "object.__init_subclass__", Value.ref 60] }
noncomputable def hO3_st3 (P : Params) : Obj :=
  { «cls» := Value.type "dict",
    data :=
      Data.dict
        #[{ hash := PyData.keyHash P (Str.ofString "__name__"), key := Value.str (Str.ofString "__name__") 165,
            val := Value.str (Str.ofString "cpy313.dis") 194 },
          { hash := PyData.keyHash P (Str.ofString "__doc__"), key := Value.str (Str.ofString "__doc__") 166,
            val := Value.none },
          { hash := PyData.keyHash P (Str.ofString "__package__"), key := Value.str (Str.ofString "__package__") 167,
            val := Value.none },
          { hash := PyData.keyHash P (Str.ofString "__loader__"), key := Value.str (Str.ofString "__loader__") 168,
            val := Value.builtin "__main__.__loader__#opaque" },
          { hash := PyData.keyHash P (Str.ofString "__spec__"), key := Value.str (Str.ofString "__spec__") 169,
            val := Value.none },
          { hash := PyData.keyHash P (Str.ofString "__annotations__"),
            key := Value.str (Str.ofString "__annotations__") 170, val := Value.ref 6 },
          { hash := PyData.keyHash P (Str.ofString "__builtins__"), key := Value.str (Str.ofString "__builtins__") 171,
            val := Value.ref 4 },
          { hash := PyData.keyHash P (Str.ofString "__file__"), key := Value.str (Str.ofString "__file__") 173,
            val := Value.str (Str.ofString "/claim/cut.py") 172 },
          { hash := PyData.keyHash P (Str.ofString "__cached__"), key := Value.str (Str.ofString "__cached__") 174,
            val := Value.none },
          { hash := PyData.keyHash P (Str.ofString "_wall"), key := Value.str (Str.ofString "_wall") 193,
            val := Value.ref 21 },
          { hash := PyData.keyHash P (Str.ofString "_tuplegetter"), key := Value.str (Str.ofString "_tuplegetter") 252,
            val := Value.ref 60 },
          { hash := PyData.keyHash P (Str.ofString "_ExceptionTableEntryBase"),
            key := Value.str (Str.ofString "_ExceptionTableEntryBase") 406, val := Value.ref 141 }]
        12 }
noncomputable def hO12_st3 (P : Params) : Obj :=
  { «cls» := Value.none,
    data :=
      Data.fields
        #[Value.int 1 0, Value.int 0 0, Value.ref 20, Value.int 5 0, Value.int 0 0, Value.ref 27, Value.int 23 0,
          Value.int 0 0, Value.ref 71] }
noncomputable def hO65_st3 (P : Params) : Obj :=
  { «cls» := Value.type "tuple", data := Data.seq #[Value.type "tuple"] }
noncomputable def hO66_st3 (P : Params) : Obj :=
  { «cls» := Value.type "builtin_function_or_method",
    data := Data.fields #[Value.builtin "type.__prepare__", Value.type "type"] }
noncomputable def hO67_st3 (P : Params) : Obj :=
  { «cls» := Value.type "dict",
    data :=
      Data.dict
        #[{ hash := PyData.keyHash P (Str.ofString "__module__"), key := Value.str (Str.ofString "__module__") 260,
            val := Value.str (Str.ofString "cpy313.dis") 194 },
          { hash := PyData.keyHash P (Str.ofString "__qualname__"), key := Value.str (Str.ofString "__qualname__") 262,
            val := Value.str (Str.ofString "_ExceptionTableEntryBase") 261 },
          { hash := PyData.keyHash P (Str.ofString "__firstlineno__"),
            key := Value.str (Str.ofString "__firstlineno__") 264, val := Value.int 23 263 },
          { hash := PyData.keyHash P (Str.ofString "__doc__"), key := Value.str (Str.ofString "__doc__") 266,
            val := Value.str (Str.ofString "_ExceptionTableEntryBase(start, end, target, depth, lasti)") 265 },
          { hash := PyData.keyHash P (Str.ofString "__slots__"), key := Value.str (Str.ofString "__slots__") 268,
            val := Value.ref 73 },
          { hash := PyData.keyHash P (Str.ofString "_fields"), key := Value.str (Str.ofString "_fields") 274,
            val := Value.ref 74 },
          { hash := PyData.keyHash P (Str.ofString "_field_defaults"),
            key := Value.str (Str.ofString "_field_defaults") 275, val := Value.ref 75 },
          { hash := PyData.keyHash P (Str.ofString "__new__"), key := Value.str (Str.ofString "__new__") 288,
            val := Value.ref 82 },
          { hash := PyData.keyHash P (Str.ofString "_make"), key := Value.str (Str.ofString "_make") 310,
            val := Value.ref 91 },
          { hash := PyData.keyHash P (Str.ofString "_replace"), key := Value.str (Str.ofString "_replace") 321,
            val := Value.ref 100 },
          { hash := PyData.keyHash P (Str.ofString "__replace__"), key := Value.str (Str.ofString "__replace__") 322,
            val := Value.ref 100 },
          { hash := PyData.keyHash P (Str.ofString "__repr__"), key := Value.str (Str.ofString "__repr__") 330,
            val := Value.ref 107 },
          { hash := PyData.keyHash P (Str.ofString "_asdict"), key := Value.str (Str.ofString "_asdict") 337,
            val := Value.ref 114 },
          { hash := PyData.keyHash P (Str.ofString "__getnewargs__"),
            key := Value.str (Str.ofString "__getnewargs__") 345, val := Value.ref 121 },
          { hash := PyData.keyHash P (Str.ofString "__match_args__"),
            key := Value.str (Str.ofString "__match_args__") 351, val := Value.ref 122 },
          { hash := PyData.keyHash P (Str.ofString "start"), key := Value.str (Str.ofString "start") 361,
            val := Value.ref 124 },
          { hash := PyData.keyHash P (Str.ofString "end"), key := Value.str (Str.ofString "end") 371,
            val := Value.ref 127 },
          { hash := PyData.keyHash P (Str.ofString "target"), key := Value.str (Str.ofString "target") 381,
            val := Value.ref 130 },
          { hash := PyData.keyHash P (Str.ofString "depth"), key := Value.str (Str.ofString "depth") 391,
            val := Value.ref 133 },
          { hash := PyData.keyHash P (Str.ofString "lasti"), key := Value.str (Str.ofString "lasti") 401,
            val := Value.ref 136 },
          { hash := PyData.keyHash P (Str.ofString "__static_attributes__"),
            key := Value.str (Str.ofString "__static_attributes__") 402, val := Value.ref 138 },
          { hash := PyData.keyHash P (Str.ofString "__classcell__"), key := Value.str (Str.ofString "__classcell__") 403,
            val := Value.ref 68 }]
        22 }
noncomputable def hO68_st3 (P : Params) : Obj :=
  { «cls» := Value.type "cell", data := Data.cell (some (Value.ref 141)) }
noncomputable def hO69_st3 (P : Params) : Obj :=
  { «cls» := Value.type "tuple", data := Data.seq #[] }
noncomputable def hO70_st3 (P : Params) : Obj :=
  { «cls» := Value.none,
    data :=
      Data.fields
        #[Value.int 29 0, Value.int 4 0, Value.ref 81, Value.int 34 0, Value.int 4 0, Value.ref 88, Value.int 41 0,
          Value.int 4 0, Value.ref 99, Value.int 52 0, Value.int 4 0, Value.ref 106, Value.int 56 0, Value.int 4 0,
          Value.ref 113, Value.int 59 0, Value.int 4 0, Value.ref 120] }
noncomputable def hO71_st3 (P : Params) : Obj :=
  { «cls» := Value.type "code",
    data :=
      Data.fields
        #[Value.str (Str.ofString "_ExceptionTableEntryBase") 255,
          Value.str (Str.ofString "_ExceptionTableEntryBase") 256, Value.str (Str.ofString "/claim/cut.py") 257,
          Value.int 23 0, Value.int 0 0, Value.int 0 0, Value.int 0 0, Value.int 0 0, Value.ref 69, Value.bool false,
          Value.int 181 0, Value.ref 70, Value.none, Value.none, Value.none, Value.none, Value.int 258 0, Value.int 23 0,
          Value.str (Str.ofString "/claim/cut.py") 259] }
noncomputable def hO72_st3 (P : Params) : Obj :=
  { «cls» := Value.type "frame",
    slots :=
      #[some (Value.ref 71), some (Value.ref 3), some (Value.ref 67), none,
        some (Value.str (Str.ofString "cpy313.dis") 194), none, some (Value.ref 0)] }
noncomputable def hO73_st3 (P : Params) : Obj :=
  { «cls» := Value.type "tuple", data := Data.seq #[] }
noncomputable def hO74_st3 (P : Params) : Obj :=
  { «cls» := Value.type "tuple",
    data :=
      Data.seq
        #[Value.str (Str.ofString "start") 269, Value.str (Str.ofString "end") 270, Value.str (Str.ofString "target") 271,
          Value.str (Str.ofString "depth") 272, Value.str (Str.ofString "lasti") 273] }
noncomputable def hO75_st3 (P : Params) : Obj :=
  { «cls» := Value.type "dict", data := Data.dict #[] }
noncomputable def hO76_st3 (P : Params) : Obj :=
  { «cls» := Value.type "tuple", data := Data.seq #[] }
noncomputable def hO77_st3 (P : Params) : Obj :=
  { «cls» := Value.none, data := Data.fields #[] }
noncomputable def hO78_st3 (P : Params) : Obj :=
  { «cls» := Value.type "tuple",
    data :=
      Data.seq
        #[Value.str (Str.ofString "_cls") 279, Value.str (Str.ofString "start") 280, Value.str (Str.ofString "end") 281,
          Value.str (Str.ofString "target") 282, Value.str (Str.ofString "depth") 283,
          Value.str (Str.ofString "lasti") 284] }
noncomputable def hO79_st3 (P : Params) : Obj :=
  { «cls» := Value.type "tuple", data := Data.seq #[] }
noncomputable def hO80_st3 (P : Params) : Obj :=
  fO (Value.none) "__new__" "_ExceptionTableEntryBase.__new__" (mth 3 4) 0 [] Value.none Value.none Value.none none Value.none Value.none
noncomputable def hO83_st3 (P : Params) : Obj :=
  { «cls» := Value.type "tuple", data := Data.seq #[] }
noncomputable def hO84_st3 (P : Params) : Obj :=
  { «cls» := Value.none, data := Data.fields #[] }
noncomputable def hO85_st3 (P : Params) : Obj :=
  { «cls» := Value.type "tuple",
    data :=
      Data.seq
        #[Value.str (Str.ofString "cls") 292, Value.str (Str.ofString "iterable") 293,
          Value.str (Str.ofString "result") 294] }
noncomputable def hO86_st3 (P : Params) : Obj :=
  { «cls» := Value.type "tuple", data := Data.seq #[] }
noncomputable def hO87_st3 (P : Params) : Obj :=
  fO (Value.none) "_make" "_ExceptionTableEntryBase._make" (mth 3 5) 0 [] Value.none Value.none Value.none none Value.none Value.none
noncomputable def hO88_st3 (P : Params) : Obj :=
  { «cls» := Value.type "code",
    data :=
      Data.fields
        #[Value.str (Str.ofString "_make") 289, Value.str (Str.ofString "_ExceptionTableEntryBase._make") 290,
          Value.str (Str.ofString "/claim/cut.py") 291, Value.int 33 0, Value.int 2 0, Value.int 0 0, Value.int 0 0,
          Value.int 3 0, Value.ref 83, Value.bool true, Value.int 181 0, Value.ref 84, Value.none, Value.ref 85,
          Value.ref 86, Value.ref 87, Value.int 295 0, Value.int 33 0, Value.str (Str.ofString "/claim/cut.py") 296] }
noncomputable def hO89_st3 (P : Params) : Obj :=
  fO (Value.type "function") "_make" "_ExceptionTableEntryBase._make" (mth 3 5) 3 [] Value.none (docV (bodyOf (mth 3 5)) 297) (Value.str (Str.ofString "cpy313.dis") 194) (some 92) (Value.ref 88) Value.none
noncomputable def hO90_st3 (P : Params) : Obj :=
  { «cls» := Value.type "dict",
    data :=
      Data.dict
        #[{ hash := PyData.keyHash P (Str.ofString "__module__"), key := Value.str (Str.ofString "__module__") 299,
            val := Value.str (Str.ofString "cpy313.dis") 194 },
          { hash := PyData.keyHash P (Str.ofString "__name__"), key := Value.str (Str.ofString "__name__") 302,
            val := Value.str (Str.ofString "_make") 301 },
          { hash := PyData.keyHash P (Str.ofString "__qualname__"), key := Value.str (Str.ofString "__qualname__") 305,
            val := Value.str (Str.ofString "_ExceptionTableEntryBase._make") 304 },
          { hash := PyData.keyHash P (Str.ofString "__doc__"), key := Value.str (Str.ofString "__doc__") 307,
            val :=
              Value.str (Str.ofString "Make a new _ExceptionTableEntryBase object from a sequence or iterable") 297 },
          { hash := PyData.keyHash P (Str.ofString "__annotations__"),
            key := Value.str (Str.ofString "__annotations__") 309, val := Value.ref 92 }]
        5 }
noncomputable def hO91_st3 (P : Params) : Obj :=
  { «cls» := Value.type "classmethod", dict := some 90, data := Data.fields #[Value.ref 89, Value.bool false] }
noncomputable def hO92_st3 (P : Params) : Obj :=
  { «cls» := Value.type "dict", data := Data.dict #[] }
noncomputable def hO93_st3 (P : Params) : Obj :=
  { «cls» := Value.type "tuple", data := Data.seq #[Value.ref 68] }
noncomputable def hO94_st3 (P : Params) : Obj :=
  { «cls» := Value.type "tuple", data := Data.seq #[Value.str (Str.ofString "__class__") 314] }
noncomputable def hO95_st3 (P : Params) : Obj :=
  { «cls» := Value.none, data := Data.fields #[] }
noncomputable def hO96_st3 (P : Params) : Obj :=
  { «cls» := Value.type "tuple",
    data :=
      Data.seq
        #[Value.str (Str.ofString "self") 315, Value.str (Str.ofString "kwds") 316,
          Value.str (Str.ofString "result") 317] }
noncomputable def hO97_st3 (P : Params) : Obj :=
  { «cls» := Value.type "tuple", data := Data.seq #[] }
noncomputable def hO98_st3 (P : Params) : Obj :=
  fO (Value.none) "_replace" "_ExceptionTableEntryBase._replace" (mth 3 6) 0 [] Value.none Value.none Value.none none Value.none Value.none
noncomputable def hO99_st3 (P : Params) : Obj :=
  { «cls» := Value.type "code",
    data :=
      Data.fields
        #[Value.str (Str.ofString "_replace") 311, Value.str (Str.ofString "_ExceptionTableEntryBase._replace") 312,
          Value.str (Str.ofString "/claim/cut.py") 313, Value.int 41 0, Value.int 1 0, Value.int 1 0, Value.int 0 0,
          Value.int 11 0, Value.ref 94, Value.bool true, Value.int 181 0, Value.ref 95, Value.none, Value.ref 96,
          Value.ref 97, Value.ref 98, Value.int 318 0, Value.int 41 0, Value.str (Str.ofString "/claim/cut.py") 319] }
noncomputable def hO100_st3 (P : Params) : Obj :=
  fO (Value.type "function") "_replace" "_ExceptionTableEntryBase._replace" (mth 3 6) 3 ([(Str.ofString "__class__", 68)]) Value.none (docV (bodyOf (mth 3 6)) 320) (Value.str (Str.ofString "cpy313.dis") 194) none (Value.ref 99) (Value.ref 93)
noncomputable def hO101_st3 (P : Params) : Obj :=
  { «cls» := Value.type "tuple", data := Data.seq #[] }
noncomputable def hO102_st3 (P : Params) : Obj :=
  { «cls» := Value.none, data := Data.fields #[] }
noncomputable def hO103_st3 (P : Params) : Obj :=
  { «cls» := Value.type "tuple", data := Data.seq #[Value.str (Str.ofString "self") 326] }
noncomputable def hO104_st3 (P : Params) : Obj :=
  { «cls» := Value.type "tuple", data := Data.seq #[] }
noncomputable def hO105_st3 (P : Params) : Obj :=
  fO (Value.none) "__repr__" "_ExceptionTableEntryBase.__repr__" (mth 3 8) 0 [] Value.none Value.none Value.none none Value.none Value.none
noncomputable def hO106_st3 (P : Params) : Obj :=
  { «cls» := Value.type "code",
    data :=
      Data.fields
        #[Value.str (Str.ofString "__repr__") 323, Value.str (Str.ofString "_ExceptionTableEntryBase.__repr__") 324,
          Value.str (Str.ofString "/claim/cut.py") 325, Value.int 52 0, Value.int 1 0, Value.int 0 0, Value.int 0 0,
          Value.int 3 0, Value.ref 101, Value.bool true, Value.int 181 0, Value.ref 102, Value.none, Value.ref 103,
          Value.ref 104, Value.ref 105, Value.int 327 0, Value.int 52 0, Value.str (Str.ofString "/claim/cut.py") 328] }
noncomputable def hO107_st3 (P : Params) : Obj :=
  fO (Value.type "function") "__repr__" "_ExceptionTableEntryBase.__repr__" (mth 3 8) 3 [] Value.none (docV (bodyOf (mth 3 8)) 329) (Value.str (Str.ofString "cpy313.dis") 194) none (Value.ref 106) Value.none
noncomputable def hO108_st3 (P : Params) : Obj :=
  { «cls» := Value.type "tuple", data := Data.seq #[] }
noncomputable def hO109_st3 (P : Params) : Obj :=
  { «cls» := Value.none, data := Data.fields #[] }
noncomputable def hO110_st3 (P : Params) : Obj :=
  { «cls» := Value.type "tuple", data := Data.seq #[Value.str (Str.ofString "self") 334] }
noncomputable def hO111_st3 (P : Params) : Obj :=
  { «cls» := Value.type "tuple", data := Data.seq #[] }
noncomputable def hO112_st3 (P : Params) : Obj :=
  fO (Value.none) "_asdict" "_ExceptionTableEntryBase._asdict" (mth 3 9) 0 [] Value.none Value.none Value.none none Value.none Value.none
noncomputable def hO113_st3 (P : Params) : Obj :=
  { «cls» := Value.type "code",
    data :=
      Data.fields
        #[Value.str (Str.ofString "_asdict") 331, Value.str (Str.ofString "_ExceptionTableEntryBase._asdict") 332,
          Value.str (Str.ofString "/claim/cut.py") 333, Value.int 56 0, Value.int 1 0, Value.int 0 0, Value.int 0 0,
          Value.int 3 0, Value.ref 108, Value.bool true, Value.int 181 0, Value.ref 109, Value.none, Value.ref 110,
          Value.ref 111, Value.ref 112, Value.int 335 0, Value.int 56 0, Value.str (Str.ofString "/claim/cut.py") 336] }
noncomputable def hO114_st3 (P : Params) : Obj :=
  fO (Value.type "function") "_asdict" "_ExceptionTableEntryBase._asdict" (mth 3 9) 3 [] Value.none Value.none (Value.str (Str.ofString "cpy313.dis") 194) none (Value.ref 113) Value.none
noncomputable def hO115_st3 (P : Params) : Obj :=
  { «cls» := Value.type "tuple", data := Data.seq #[] }
noncomputable def hO116_st3 (P : Params) : Obj :=
  { «cls» := Value.none, data := Data.fields #[] }
noncomputable def hO117_st3 (P : Params) : Obj :=
  { «cls» := Value.type "tuple", data := Data.seq #[Value.str (Str.ofString "self") 341] }
noncomputable def hO118_st3 (P : Params) : Obj :=
  { «cls» := Value.type "tuple", data := Data.seq #[] }
noncomputable def hO119_st3 (P : Params) : Obj :=
  fO (Value.none) "__getnewargs__" "_ExceptionTableEntryBase.__getnewargs__" (mth 3 10) 0 [] Value.none Value.none Value.none none Value.none Value.none
noncomputable def hO120_st3 (P : Params) : Obj :=
  { «cls» := Value.type "code",
    data :=
      Data.fields
        #[Value.str (Str.ofString "__getnewargs__") 338,
          Value.str (Str.ofString "_ExceptionTableEntryBase.__getnewargs__") 339,
          Value.str (Str.ofString "/claim/cut.py") 340, Value.int 59 0, Value.int 1 0, Value.int 0 0, Value.int 0 0,
          Value.int 3 0, Value.ref 115, Value.bool true, Value.int 181 0, Value.ref 116, Value.none, Value.ref 117,
          Value.ref 118, Value.ref 119, Value.int 342 0, Value.int 59 0, Value.str (Str.ofString "/claim/cut.py") 343] }
noncomputable def hO121_st3 (P : Params) : Obj :=
  fO (Value.type "function") "__getnewargs__" "_ExceptionTableEntryBase.__getnewargs__" (mth 3 10) 3 [] Value.none (docV (bodyOf (mth 3 10)) 344) (Value.str (Str.ofString "cpy313.dis") 194) none (Value.ref 120) Value.none
noncomputable def hO122_st3 (P : Params) : Obj :=
  { «cls» := Value.type "tuple",
    data :=
      Data.seq
        #[Value.str (Str.ofString "start") 346, Value.str (Str.ofString "end") 347, Value.str (Str.ofString "target") 348,
          Value.str (Str.ofString "depth") 349, Value.str (Str.ofString "lasti") 350] }
noncomputable def hO123_st3 (P : Params) : Obj :=
  { «cls» := Value.type "dict",
    data :=
      Data.dict
        #[{ hash := PyData.keyHash P (Str.ofString "index"), key := Value.str (Str.ofString "index") 358,
            val := Value.int 0 352 },
          { hash := PyData.keyHash P (Str.ofString "__doc__"), key := Value.str (Str.ofString "__doc__") 360,
            val := Value.str (Str.ofString "Alias for field number 0") 353 }]
        2 }
noncomputable def hO124_st3 (P : Params) : Obj :=
  { «cls» := Value.ref 60, dict := some 123 }
noncomputable def hO125_st3 (P : Params) : Obj :=
  { «cls» := Value.type "frame",
    data :=
      Data.dict
        #[{ hash := PyData.keyHash P (Str.ofString "self"), key := Value.str (Str.ofString "self") 354,
            val := Value.ref 124 },
          { hash := PyData.keyHash P (Str.ofString "index"), key := Value.str (Str.ofString "index") 355,
            val := Value.int 0 352 },
          { hash := PyData.keyHash P (Str.ofString "doc"), key := Value.str (Str.ofString "doc") 356,
            val := Value.str (Str.ofString "Alias for field number 0") 353 }]
        3 }
noncomputable def hO126_st3 (P : Params) : Obj :=
  { «cls» := Value.type "dict",
    data :=
      Data.dict
        #[{ hash := PyData.keyHash P (Str.ofString "index"), key := Value.str (Str.ofString "index") 368,
            val := Value.int 1 362 },
          { hash := PyData.keyHash P (Str.ofString "__doc__"), key := Value.str (Str.ofString "__doc__") 370,
            val := Value.str (Str.ofString "Alias for field number 1") 363 }]
        2 }
noncomputable def hO127_st3 (P : Params) : Obj :=
  { «cls» := Value.ref 60, dict := some 126 }
noncomputable def hO128_st3 (P : Params) : Obj :=
  { «cls» := Value.type "frame",
    data :=
      Data.dict
        #[{ hash := PyData.keyHash P (Str.ofString "self"), key := Value.str (Str.ofString "self") 364,
            val := Value.ref 127 },
          { hash := PyData.keyHash P (Str.ofString "index"), key := Value.str (Str.ofString "index") 365,
            val := Value.int 1 362 },
          { hash := PyData.keyHash P (Str.ofString "doc"), key := Value.str (Str.ofString "doc") 366,
            val := Value.str (Str.ofString "Alias for field number 1") 363 }]
        3 }
noncomputable def hO129_st3 (P : Params) : Obj :=
  { «cls» := Value.type "dict",
    data :=
      Data.dict
        #[{ hash := PyData.keyHash P (Str.ofString "index"), key := Value.str (Str.ofString "index") 378,
            val := Value.int 2 372 },
          { hash := PyData.keyHash P (Str.ofString "__doc__"), key := Value.str (Str.ofString "__doc__") 380,
            val := Value.str (Str.ofString "Alias for field number 2") 373 }]
        2 }
noncomputable def hO130_st3 (P : Params) : Obj :=
  { «cls» := Value.ref 60, dict := some 129 }
noncomputable def hO131_st3 (P : Params) : Obj :=
  { «cls» := Value.type "frame",
    data :=
      Data.dict
        #[{ hash := PyData.keyHash P (Str.ofString "self"), key := Value.str (Str.ofString "self") 374,
            val := Value.ref 130 },
          { hash := PyData.keyHash P (Str.ofString "index"), key := Value.str (Str.ofString "index") 375,
            val := Value.int 2 372 },
          { hash := PyData.keyHash P (Str.ofString "doc"), key := Value.str (Str.ofString "doc") 376,
            val := Value.str (Str.ofString "Alias for field number 2") 373 }]
        3 }
noncomputable def hO132_st3 (P : Params) : Obj :=
  { «cls» := Value.type "dict",
    data :=
      Data.dict
        #[{ hash := PyData.keyHash P (Str.ofString "index"), key := Value.str (Str.ofString "index") 388,
            val := Value.int 3 382 },
          { hash := PyData.keyHash P (Str.ofString "__doc__"), key := Value.str (Str.ofString "__doc__") 390,
            val := Value.str (Str.ofString "Alias for field number 3") 383 }]
        2 }
noncomputable def hO133_st3 (P : Params) : Obj :=
  { «cls» := Value.ref 60, dict := some 132 }
noncomputable def hO134_st3 (P : Params) : Obj :=
  { «cls» := Value.type "frame",
    data :=
      Data.dict
        #[{ hash := PyData.keyHash P (Str.ofString "self"), key := Value.str (Str.ofString "self") 384,
            val := Value.ref 133 },
          { hash := PyData.keyHash P (Str.ofString "index"), key := Value.str (Str.ofString "index") 385,
            val := Value.int 3 382 },
          { hash := PyData.keyHash P (Str.ofString "doc"), key := Value.str (Str.ofString "doc") 386,
            val := Value.str (Str.ofString "Alias for field number 3") 383 }]
        3 }
noncomputable def hO135_st3 (P : Params) : Obj :=
  { «cls» := Value.type "dict",
    data :=
      Data.dict
        #[{ hash := PyData.keyHash P (Str.ofString "index"), key := Value.str (Str.ofString "index") 398,
            val := Value.int 4 392 },
          { hash := PyData.keyHash P (Str.ofString "__doc__"), key := Value.str (Str.ofString "__doc__") 400,
            val := Value.str (Str.ofString "Alias for field number 4") 393 }]
        2 }
noncomputable def hO136_st3 (P : Params) : Obj :=
  { «cls» := Value.ref 60, dict := some 135 }
noncomputable def hO137_st3 (P : Params) : Obj :=
  { «cls» := Value.type "frame",
    data :=
      Data.dict
        #[{ hash := PyData.keyHash P (Str.ofString "self"), key := Value.str (Str.ofString "self") 394,
            val := Value.ref 136 },
          { hash := PyData.keyHash P (Str.ofString "index"), key := Value.str (Str.ofString "index") 395,
            val := Value.int 4 392 },
          { hash := PyData.keyHash P (Str.ofString "doc"), key := Value.str (Str.ofString "doc") 396,
            val := Value.str (Str.ofString "Alias for field number 4") 393 }]
        3 }
noncomputable def hO138_st3 (P : Params) : Obj :=
  { «cls» := Value.type "tuple", data := Data.seq #[] }
noncomputable def hO139_st3 (P : Params) : Obj :=
  { «cls» := Value.type "list", data := Data.seq #[] }
noncomputable def hO141_st3 (P : Params) : Obj :=
  { «cls» := Value.type "type",
    data :=
      Data.cls
        { name := Str.ofString "_ExceptionTableEntryBase", bases := [Value.type "tuple"],
          mro := [Value.ref 141, Value.type "tuple", Value.type "object"], ns := 140,
          qualname := Str.ofString "_ExceptionTableEntryBase", hasDict := false },
    slots :=
      #[some (Value.ref 65), none, some (Value.str (Str.ofString "_ExceptionTableEntryBase") 253),
        some (Value.str (Str.ofString "_ExceptionTableEntryBase") 261), some Value.none, some (Value.bool false)] }
noncomputable def hO143_st3 (P : Params) : Obj :=
  { «cls» := Value.type "super", data := Data.fields #[Value.ref 141, Value.ref 141, Value.ref 141] }
noncomputable def hO144_st3 (P : Params) : Obj :=
  { «cls» := Value.type "builtin_function_or_method",
    data := Data.fields #[Value.builtin "object.__init_subclass__", Value.ref 141] }
noncomputable def hO12_st18 (P : Params) : Obj :=
  { «cls» := Value.none,
    data :=
      Data.fields
        #[Value.int 1 0, Value.int 0 0, Value.ref 20, Value.int 5 0, Value.int 0 0, Value.ref 27, Value.int 23 0,
          Value.int 0 0, Value.ref 71, Value.int 68 0, Value.int 0 0, Value.ref 150, Value.int 70 0, Value.int 0 0,
          Value.ref 163, Value.int 78 0, Value.int 0 0, Value.ref 170, Value.int 94 0, Value.int 0 0, Value.ref 177,
          Value.int 103 0, Value.int 0 0, Value.ref 182, Value.int 139 0, Value.int 0 0, Value.ref 187, Value.int 142 0,
          Value.int 0 0, Value.ref 194, Value.int 148 0, Value.int 0 0, Value.ref 199, Value.int 152 0, Value.int 0 0,
          Value.ref 204, Value.int 154 0, Value.int 0 0, Value.ref 209, Value.int 157 0, Value.int 0 0, Value.ref 214,
          Value.int 175 0, Value.int 0 0, Value.ref 219, Value.int 185 0, Value.int 0 0, Value.ref 224] }
noncomputable def hO145_st4 (P : Params) : Obj :=
  { «cls» := Value.type "tuple", data := Data.seq #[Value.ref 141] }
noncomputable def hO146_st4 (P : Params) : Obj :=
  { «cls» := Value.type "builtin_function_or_method",
    data := Data.fields #[Value.builtin "type.__prepare__", Value.type "type"] }
noncomputable def hO147_st4 (P : Params) : Obj :=
  { «cls» := Value.type "dict",
    data :=
      Data.dict
        #[{ hash := PyData.keyHash P (Str.ofString "__module__"), key := Value.str (Str.ofString "__module__") 414,
            val := Value.str (Str.ofString "cpy313.dis") 194 },
          { hash := PyData.keyHash P (Str.ofString "__qualname__"), key := Value.str (Str.ofString "__qualname__") 416,
            val := Value.str (Str.ofString "_ExceptionTableEntry") 415 },
          { hash := PyData.keyHash P (Str.ofString "__firstlineno__"),
            key := Value.str (Str.ofString "__firstlineno__") 418, val := Value.int 68 417 },
          { hash := PyData.keyHash P (Str.ofString "__static_attributes__"),
            key := Value.str (Str.ofString "__static_attributes__") 419, val := Value.ref 152 }]
        4 }
noncomputable def hO148_st4 (P : Params) : Obj :=
  { «cls» := Value.type "tuple", data := Data.seq #[] }
noncomputable def hO149_st4 (P : Params) : Obj :=
  { «cls» := Value.none, data := Data.fields #[] }
noncomputable def hO150_st4 (P : Params) : Obj :=
  { «cls» := Value.type "code",
    data :=
      Data.fields
        #[Value.str (Str.ofString "_ExceptionTableEntry") 409, Value.str (Str.ofString "_ExceptionTableEntry") 410,
          Value.str (Str.ofString "/claim/cut.py") 411, Value.int 68 0, Value.int 0 0, Value.int 0 0, Value.int 0 0,
          Value.int 0 0, Value.ref 148, Value.bool false, Value.int 181 0, Value.ref 149, Value.none, Value.none,
          Value.none, Value.none, Value.int 412 0, Value.int 68 0, Value.str (Str.ofString "/claim/cut.py") 413] }
noncomputable def hO151_st4 (P : Params) : Obj :=
  { «cls» := Value.type "frame",
    slots :=
      #[some (Value.ref 150), some (Value.ref 3), some (Value.ref 147), none,
        some (Value.str (Str.ofString "cpy313.dis") 194), none, some (Value.ref 0)] }
noncomputable def hO152_st4 (P : Params) : Obj :=
  { «cls» := Value.type "tuple", data := Data.seq #[] }
noncomputable def hO155_st4 (P : Params) : Obj :=
  { «cls» := Value.type "getset_descriptor",
    data :=
      Data.fields
        #[Value.str (Str.ofString "__dict__") 420, Value.ref 154, Value.builtin "function.__dict__",
          Value.builtin "function.__dict__#set"] }
noncomputable def hO156_st4 (P : Params) : Obj :=
  { «cls» := Value.type "super", data := Data.fields #[Value.ref 154, Value.ref 154, Value.ref 154] }
noncomputable def hO157_st4 (P : Params) : Obj :=
  { «cls» := Value.type "builtin_function_or_method",
    data := Data.fields #[Value.builtin "object.__init_subclass__", Value.ref 154] }
noncomputable def hO158_st5 (P : Params) : Obj :=
  { «cls» := Value.type "tuple", data := Data.seq #[] }
noncomputable def hO159_st5 (P : Params) : Obj :=
  { «cls» := Value.none, data := Data.fields #[] }
noncomputable def hO160_st5 (P : Params) : Obj :=
  { «cls» := Value.type "tuple",
    data :=
      Data.seq
        #[Value.str (Str.ofString "iterator") 428, Value.str (Str.ofString "b") 429, Value.str (Str.ofString "val") 430] }
noncomputable def hO161_st5 (P : Params) : Obj :=
  { «cls» := Value.type "tuple", data := Data.seq #[] }
noncomputable def hO162_st5 (P : Params) : Obj :=
  fO (Value.none) "_parse_varint" "_parse_varint" (stAt 5) 0 [] Value.none Value.none Value.none none Value.none Value.none
noncomputable def hO165_st6 (P : Params) : Obj :=
  { «cls» := Value.type "tuple", data := Data.seq #[] }
noncomputable def hO166_st6 (P : Params) : Obj :=
  { «cls» := Value.none, data := Data.fields #[] }
noncomputable def hO167_st6 (P : Params) : Obj :=
  { «cls» := Value.type "tuple",
    data :=
      Data.seq
        #[Value.str (Str.ofString "code") 437, Value.str (Str.ofString "iterator") 438,
          Value.str (Str.ofString "entries") 439, Value.str (Str.ofString "start") 440,
          Value.str (Str.ofString "length") 441, Value.str (Str.ofString "end") 442,
          Value.str (Str.ofString "target") 443, Value.str (Str.ofString "dl") 444, Value.str (Str.ofString "depth") 445,
          Value.str (Str.ofString "lasti") 446] }
noncomputable def hO168_st6 (P : Params) : Obj :=
  { «cls» := Value.type "tuple", data := Data.seq #[] }
noncomputable def hO169_st6 (P : Params) : Obj :=
  fO (Value.none) "_parse_exception_table" "_parse_exception_table" (stAt 6) 0 [] Value.none Value.none Value.none none Value.none Value.none
noncomputable def hO172_st8 (P : Params) : Obj :=
  { «cls» := Value.type "tuple", data := Data.seq #[] }
noncomputable def hO173_st8 (P : Params) : Obj :=
  { «cls» := Value.none, data := Data.fields #[] }
noncomputable def hO174_st8 (P : Params) : Obj :=
  { «cls» := Value.type "tuple",
    data :=
      Data.seq
        #[Value.str (Str.ofString "l") 455, Value.str (Str.ofString "parsed") 456, Value.str (Str.ofString "elt") 457,
          Value.str (Str.ofString "k") 458, Value.str (Str.ofString "v") 459] }
noncomputable def hO175_st8 (P : Params) : Obj :=
  { «cls» := Value.type "tuple", data := Data.seq #[] }
noncomputable def hO176_st8 (P : Params) : Obj :=
  fO (Value.none) "parse_keqv_list" "parse_keqv_list" (stAt 8) 0 [] Value.none Value.none Value.none none Value.none Value.none
noncomputable def hO179_st9 (P : Params) : Obj :=
  { «cls» := Value.type "tuple", data := Data.seq #[] }
noncomputable def hO180_st9 (P : Params) : Obj :=
  { «cls» := Value.none, data := Data.fields #[] }
noncomputable def hO181_st9 (P : Params) : Obj :=
  fO (Value.none) "parse_http_list" "parse_http_list" (stAt 9) 0 [] Value.none Value.none Value.none none Value.none Value.none
noncomputable def hO184_st11 (P : Params) : Obj :=
  { «cls» := Value.type "tuple", data := Data.seq #[] }
noncomputable def hO185_st11 (P : Params) : Obj :=
  { «cls» := Value.none, data := Data.fields #[] }
noncomputable def hO186_st11 (P : Params) : Obj :=
  fO (Value.none) "_law_blocks" "_law_blocks" (stAt 11) 0 [] Value.none Value.none Value.none none Value.none Value.none
noncomputable def hO189_st12 (P : Params) : Obj :=
  { «cls» := Value.type "tuple", data := Data.seq #[] }
noncomputable def hO190_st12 (P : Params) : Obj :=
  { «cls» := Value.none, data := Data.fields #[] }
noncomputable def hO191_st12 (P : Params) : Obj :=
  { «cls» := Value.type "tuple",
    data := Data.seq #[Value.str (Str.ofString "number") 482, Value.str (Str.ofString "octets") 483] }
noncomputable def hO192_st12 (P : Params) : Obj :=
  { «cls» := Value.type "tuple", data := Data.seq #[] }
noncomputable def hO193_st12 (P : Params) : Obj :=
  fO (Value.none) "_law_octets" "_law_octets" (stAt 12) 0 [] Value.none Value.none Value.none none Value.none Value.none
noncomputable def hO196_st13 (P : Params) : Obj :=
  { «cls» := Value.type "tuple", data := Data.seq #[] }
noncomputable def hO197_st13 (P : Params) : Obj :=
  { «cls» := Value.none, data := Data.fields #[] }
noncomputable def hO198_st13 (P : Params) : Obj :=
  fO (Value.none) "_law_read" "_law_read" (stAt 13) 0 [] Value.none Value.none Value.none none Value.none Value.none
noncomputable def hO201_st14 (P : Params) : Obj :=
  { «cls» := Value.type "tuple", data := Data.seq #[] }
noncomputable def hO202_st14 (P : Params) : Obj :=
  { «cls» := Value.none, data := Data.fields #[] }
noncomputable def hO203_st14 (P : Params) : Obj :=
  fO (Value.none) "_law_marked" "_law_marked" (stAt 14) 0 [] Value.none Value.none Value.none none Value.none Value.none
noncomputable def hO206_st15 (P : Params) : Obj :=
  { «cls» := Value.type "tuple", data := Data.seq #[] }
noncomputable def hO207_st15 (P : Params) : Obj :=
  { «cls» := Value.none, data := Data.fields #[] }
noncomputable def hO208_st15 (P : Params) : Obj :=
  fO (Value.none) "_law_bare" "_law_bare" (stAt 15) 0 [] Value.none Value.none Value.none none Value.none Value.none
noncomputable def hO211_st16 (P : Params) : Obj :=
  { «cls» := Value.type "tuple", data := Data.seq #[] }
noncomputable def hO212_st16 (P : Params) : Obj :=
  { «cls» := Value.none, data := Data.fields #[] }
noncomputable def hO213_st16 (P : Params) : Obj :=
  fO (Value.none) "_law_cut" "_law_cut" (stAt 16) 0 [] Value.none Value.none Value.none none Value.none Value.none
noncomputable def hO216_st17 (P : Params) : Obj :=
  { «cls» := Value.type "tuple", data := Data.seq #[] }
noncomputable def hO217_st17 (P : Params) : Obj :=
  { «cls» := Value.none, data := Data.fields #[] }
noncomputable def hO218_st17 (P : Params) : Obj :=
  fO (Value.none) "_law_told" "_law_told" (stAt 17) 0 [] Value.none Value.none Value.none none Value.none Value.none
noncomputable def hO221_st18 (P : Params) : Obj :=
  { «cls» := Value.type "tuple", data := Data.seq #[] }
noncomputable def hO222_st18 (P : Params) : Obj :=
  { «cls» := Value.none, data := Data.fields #[] }
noncomputable def hO223_st18 (P : Params) : Obj :=
  fO (Value.none) "law" "law" (stAt 18) 0 [] Value.none Value.none Value.none none Value.none Value.none
noncomputable def hL_pre_0 (P : Params) : List Obj := PySem.W.boot_o_0 P :: PySem.W.boot_o_1 P :: PySem.W.boot_o_2 P :: PySem.W.boot_o_3 P :: PySem.W.boot_o_4 P :: PySem.W.boot_o_5 P :: PySem.W.boot_o_6 P :: PySem.W.boot_o_7 P :: PySem.W.boot_o_8 P :: PySem.W.boot_o_9 P :: PySem.W.boot_o_10 P :: hO11_pre P :: hO12_pre P :: hO13_pre P :: hO14_pre P :: []
noncomputable def hH_pre (P : Params) : Heap := ⟨⟨hL_pre_0 P⟩, {}⟩
noncomputable def hL_st2_0 (P : Params) : List Obj := PySem.W.boot_o_0 P :: PySem.W.boot_o_1 P :: PySem.W.boot_o_2 P :: hO3_st2 P :: PySem.W.boot_o_4 P :: PySem.W.boot_o_5 P :: PySem.W.boot_o_6 P :: PySem.W.boot_o_7 P :: PySem.W.boot_o_8 P :: PySem.W.boot_o_9 P :: PySem.W.boot_o_10 P :: hO11_pre P :: hO12_st2 P :: hO13_pre P :: hO14_pre P :: hO15_st0 P :: hO16_st0 P :: hO17_st0 P :: hO18_st0 P :: hO19_st0 P :: hO20_st0 P :: hO21_st0 P :: hO22_st2 P :: hO23_st2 P :: hO24_st2 P :: []
noncomputable def hL_st2_1 (P : Params) : List Obj := hO25_st2 P :: hO26_st2 P :: hO27_st2 P :: hO28_st2 P :: hO29_st2 P :: hO30_st2 P :: hO31_st2 P :: hO32_st2 P :: hO33_st2 P :: hO34_st2 P :: hO35_st2 P :: hO36_st2 P :: hO37_st2 P :: hO38_st2 P :: hO39_st2 P :: hO40_st2 P :: hO41_st2 P :: hO42_st2 P :: hO43_st2 P :: hO44_st2 P :: hO45_st2 P :: hO46_st2 P :: hO47_st2 P :: hO48_st2 P :: hO49_st2 P :: []
noncomputable def hL_st2_2 (P : Params) : List Obj := hO50_st2 P :: hO51_st2 P :: hO52_st2 P :: hO53_st2 P :: hO54_st2 P :: hO55_st2 P :: hO56_st2 P :: hO57_st2 P :: hO58_st2 P :: hO59_st2 P :: hO60_st2 P :: hO61_st2 P :: hO62_st2 P :: hO63_st2 P :: hO64_st2 P :: []
noncomputable def hH_st2 (P : Params) : Heap := ⟨⟨hL_st2_0 P ++ (hL_st2_1 P ++ (hL_st2_2 P))⟩, {}⟩
noncomputable def hL_st3_0 (P : Params) : List Obj := PySem.W.boot_o_0 P :: PySem.W.boot_o_1 P :: PySem.W.boot_o_2 P :: hO3_st3 P :: PySem.W.boot_o_4 P :: PySem.W.boot_o_5 P :: PySem.W.boot_o_6 P :: PySem.W.boot_o_7 P :: PySem.W.boot_o_8 P :: PySem.W.boot_o_9 P :: PySem.W.boot_o_10 P :: hO11_pre P :: hO12_st3 P :: hO13_pre P :: hO14_pre P :: hO15_st0 P :: hO16_st0 P :: hO17_st0 P :: hO18_st0 P :: hO19_st0 P :: hO20_st0 P :: hO21_st0 P :: hO22_st2 P :: hO23_st2 P :: hO24_st2 P :: []
noncomputable def hL_st3_1 (P : Params) : List Obj := hO25_st2 P :: hO26_st2 P :: hO27_st2 P :: hO28_st2 P :: hO29_st2 P :: hO30_st2 P :: hO31_st2 P :: hO32_st2 P :: hO33_st2 P :: hO34_st2 P :: hO35_st2 P :: hO36_st2 P :: hO37_st2 P :: hO38_st2 P :: hO39_st2 P :: hO40_st2 P :: hO41_st2 P :: hO42_st2 P :: hO43_st2 P :: hO44_st2 P :: hO45_st2 P :: hO46_st2 P :: hO47_st2 P :: hO48_st2 P :: hO49_st2 P :: []
noncomputable def hL_st3_2 (P : Params) : List Obj := hO50_st2 P :: hO51_st2 P :: hO52_st2 P :: hO53_st2 P :: hO54_st2 P :: hO55_st2 P :: hO56_st2 P :: hO57_st2 P :: hO58_st2 P :: hO59_st2 P :: hO60_st2 P :: hO61_st2 P :: hO62_st2 P :: hO63_st2 P :: hO64_st2 P :: hO65_st3 P :: hO66_st3 P :: hO67_st3 P :: hO68_st3 P :: hO69_st3 P :: hO70_st3 P :: hO71_st3 P :: hO72_st3 P :: hO73_st3 P :: hO74_st3 P :: []
noncomputable def hL_st3_3 (P : Params) : List Obj := hO75_st3 P :: hO76_st3 P :: hO77_st3 P :: hO78_st3 P :: hO79_st3 P :: hO80_st3 P :: oK81 P :: oK82 P :: hO83_st3 P :: hO84_st3 P :: hO85_st3 P :: hO86_st3 P :: hO87_st3 P :: hO88_st3 P :: hO89_st3 P :: hO90_st3 P :: hO91_st3 P :: hO92_st3 P :: hO93_st3 P :: hO94_st3 P :: hO95_st3 P :: hO96_st3 P :: hO97_st3 P :: hO98_st3 P :: hO99_st3 P :: []
noncomputable def hL_st3_4 (P : Params) : List Obj := hO100_st3 P :: hO101_st3 P :: hO102_st3 P :: hO103_st3 P :: hO104_st3 P :: hO105_st3 P :: hO106_st3 P :: hO107_st3 P :: hO108_st3 P :: hO109_st3 P :: hO110_st3 P :: hO111_st3 P :: hO112_st3 P :: hO113_st3 P :: hO114_st3 P :: hO115_st3 P :: hO116_st3 P :: hO117_st3 P :: hO118_st3 P :: hO119_st3 P :: hO120_st3 P :: hO121_st3 P :: hO122_st3 P :: hO123_st3 P :: hO124_st3 P :: []
noncomputable def hL_st3_5 (P : Params) : List Obj := hO125_st3 P :: hO126_st3 P :: hO127_st3 P :: hO128_st3 P :: hO129_st3 P :: hO130_st3 P :: hO131_st3 P :: hO132_st3 P :: hO133_st3 P :: hO134_st3 P :: hO135_st3 P :: hO136_st3 P :: hO137_st3 P :: hO138_st3 P :: hO139_st3 P :: oK140 P :: hO141_st3 P :: oK142 P :: hO143_st3 P :: hO144_st3 P :: []
noncomputable def hH_st3 (P : Params) : Heap := ⟨⟨hL_st3_0 P ++ (hL_st3_1 P ++ (hL_st3_2 P ++ (hL_st3_3 P ++ (hL_st3_4 P ++ (hL_st3_5 P)))))⟩, {}⟩
noncomputable def hL_fin_0 (P : Params) : List Obj := PySem.W.boot_o_0 P :: PySem.W.boot_o_1 P :: PySem.W.boot_o_2 P :: oK3 P :: PySem.W.boot_o_4 P :: PySem.W.boot_o_5 P :: PySem.W.boot_o_6 P :: PySem.W.boot_o_7 P :: PySem.W.boot_o_8 P :: PySem.W.boot_o_9 P :: PySem.W.boot_o_10 P :: hO11_pre P :: hO12_st18 P :: hO13_pre P :: hO14_pre P :: hO15_st0 P :: hO16_st0 P :: hO17_st0 P :: hO18_st0 P :: hO19_st0 P :: hO20_st0 P :: hO21_st0 P :: hO22_st2 P :: hO23_st2 P :: hO24_st2 P :: []
noncomputable def hL_fin_1 (P : Params) : List Obj := hO25_st2 P :: hO26_st2 P :: hO27_st2 P :: hO28_st2 P :: hO29_st2 P :: hO30_st2 P :: hO31_st2 P :: hO32_st2 P :: hO33_st2 P :: hO34_st2 P :: hO35_st2 P :: hO36_st2 P :: hO37_st2 P :: hO38_st2 P :: hO39_st2 P :: hO40_st2 P :: hO41_st2 P :: hO42_st2 P :: hO43_st2 P :: hO44_st2 P :: hO45_st2 P :: hO46_st2 P :: hO47_st2 P :: hO48_st2 P :: hO49_st2 P :: []
noncomputable def hL_fin_2 (P : Params) : List Obj := hO50_st2 P :: hO51_st2 P :: hO52_st2 P :: hO53_st2 P :: hO54_st2 P :: hO55_st2 P :: hO56_st2 P :: hO57_st2 P :: hO58_st2 P :: hO59_st2 P :: hO60_st2 P :: hO61_st2 P :: hO62_st2 P :: hO63_st2 P :: hO64_st2 P :: hO65_st3 P :: hO66_st3 P :: hO67_st3 P :: hO68_st3 P :: hO69_st3 P :: hO70_st3 P :: hO71_st3 P :: hO72_st3 P :: hO73_st3 P :: hO74_st3 P :: []
noncomputable def hL_fin_3 (P : Params) : List Obj := hO75_st3 P :: hO76_st3 P :: hO77_st3 P :: hO78_st3 P :: hO79_st3 P :: hO80_st3 P :: oK81 P :: oK82 P :: hO83_st3 P :: hO84_st3 P :: hO85_st3 P :: hO86_st3 P :: hO87_st3 P :: hO88_st3 P :: hO89_st3 P :: hO90_st3 P :: hO91_st3 P :: hO92_st3 P :: hO93_st3 P :: hO94_st3 P :: hO95_st3 P :: hO96_st3 P :: hO97_st3 P :: hO98_st3 P :: hO99_st3 P :: []
noncomputable def hL_fin_4 (P : Params) : List Obj := hO100_st3 P :: hO101_st3 P :: hO102_st3 P :: hO103_st3 P :: hO104_st3 P :: hO105_st3 P :: hO106_st3 P :: hO107_st3 P :: hO108_st3 P :: hO109_st3 P :: hO110_st3 P :: hO111_st3 P :: hO112_st3 P :: hO113_st3 P :: hO114_st3 P :: hO115_st3 P :: hO116_st3 P :: hO117_st3 P :: hO118_st3 P :: hO119_st3 P :: hO120_st3 P :: hO121_st3 P :: hO122_st3 P :: hO123_st3 P :: hO124_st3 P :: []
noncomputable def hL_fin_5 (P : Params) : List Obj := hO125_st3 P :: hO126_st3 P :: hO127_st3 P :: hO128_st3 P :: hO129_st3 P :: hO130_st3 P :: hO131_st3 P :: hO132_st3 P :: hO133_st3 P :: hO134_st3 P :: hO135_st3 P :: hO136_st3 P :: hO137_st3 P :: hO138_st3 P :: hO139_st3 P :: oK140 P :: o141 :: oK142 P :: hO143_st3 P :: hO144_st3 P :: hO145_st4 P :: hO146_st4 P :: hO147_st4 P :: hO148_st4 P :: hO149_st4 P :: []
noncomputable def hL_fin_6 (P : Params) : List Obj := hO150_st4 P :: hO151_st4 P :: hO152_st4 P :: oK153 P :: o154 :: hO155_st4 P :: hO156_st4 P :: hO157_st4 P :: hO158_st5 P :: hO159_st5 P :: hO160_st5 P :: hO161_st5 P :: hO162_st5 P :: oK163 P :: oK164 P :: hO165_st6 P :: hO166_st6 P :: hO167_st6 P :: hO168_st6 P :: hO169_st6 P :: oK170 P :: oK171 P :: hO172_st8 P :: hO173_st8 P :: hO174_st8 P :: []
noncomputable def hL_fin_7 (P : Params) : List Obj := hO175_st8 P :: hO176_st8 P :: oK177 P :: oK178 P :: hO179_st9 P :: hO180_st9 P :: hO181_st9 P :: oK182 P :: oK183 P :: hO184_st11 P :: hO185_st11 P :: hO186_st11 P :: oK187 P :: oK188 P :: hO189_st12 P :: hO190_st12 P :: hO191_st12 P :: hO192_st12 P :: hO193_st12 P :: oK194 P :: oK195 P :: hO196_st13 P :: hO197_st13 P :: hO198_st13 P :: oK199 P :: []
noncomputable def hL_fin_8 (P : Params) : List Obj := oK200 P :: hO201_st14 P :: hO202_st14 P :: hO203_st14 P :: oK204 P :: oK205 P :: hO206_st15 P :: hO207_st15 P :: hO208_st15 P :: oK209 P :: oK210 P :: hO211_st16 P :: hO212_st16 P :: hO213_st16 P :: oK214 P :: oK215 P :: hO216_st17 P :: hO217_st17 P :: hO218_st17 P :: oK219 P :: oK220 P :: hO221_st18 P :: hO222_st18 P :: hO223_st18 P :: oK224 P :: []
noncomputable def hL_fin_9 (P : Params) : List Obj := oK225 P :: []
noncomputable def hH_fin (P : Params) : Heap := ⟨⟨hL_fin_0 P ++ (hL_fin_1 P ++ (hL_fin_2 P ++ (hL_fin_3 P ++ (hL_fin_4 P ++ (hL_fin_5 P ++ (hL_fin_6 P ++ (hL_fin_7 P ++ (hL_fin_8 P ++ (hL_fin_9 P)))))))))⟩, {}⟩
end Mine

/- Run -/
namespace Mine
open PySem PySem.W PyProof.Rows
set_option Elab.async false
set_option maxRecDepth 100000
set_option maxHeartbeats 8000000

noncomputable def envA : Env := { scope := pwA.main.scope, locals := mainNs, globals := mainNs, cells := [], code := .ref 13, frame := some 14 }
abbrev z0 : Pos := ⟨0, 0, 0, 0⟩
noncomputable abbrev cdA : Code := .body (behindTheImports pwA) envA
noncomputable abbrev stA (H : Params → Heap) (k : Nat) (w : World) (os : OsState) : Shared := ⟨H w.params, #[], {}, k, os⟩

theorem run_pre (w : World) (os : OsState) : topGo treeTable pwA w 11 (some (.ref 6)) 12 ⟨boot_heap w.params, #[], boot_drawn, boot_toks, os⟩ (topStub pwA) = some (stA hH_pre 187 w os, ⟨denote treeTable cdA, cdA, z0, [topFrame z0]⟩) := by kernel_rfl
theorem run_block (w : World) (os : OsState) : segRun treeTable pwA w 11 (some (.ref 6)) 1 1 (stA hH_pre 187 w os) (blockOf (behindTheImports pwA) envA cdA z0 [topFrame z0]) = some (.next, stA hH_pre 187 w os, cdA, z0) := by kernel_rfl
theorem run_1 (w : World) (os : OsState) : segRun treeTable pwA w 11 (some (.ref 6)) 1 362 (stA hH_pre 187 w os) (piecesOf [sA0, sA1, sA2] envA cdA z0 [topFrame z0]) = some (.next, stA hH_st2 253 w os, cdA, ⟨5, 0, 22, 54⟩) := by
  rw [PySem.W.Fast.te14374325043358763698, PySem.W.Fast.te14364793385576792824]; kernel_rfl
end Mine

/- Run2 -/
namespace Mine
open PySem PySem.W PyProof.Rows
set_option Elab.async false
set_option maxRecDepth 100000
set_option maxHeartbeats 8000000

theorem run_2 (w : World) (os : OsState) : segRun treeTable pwA w 11 (some (.ref 6)) 1 1341 (stA hH_st2 253 w os) (piecesOf [sA3] envA cdA ⟨5, 0, 22, 54⟩ [topFrame z0]) = some (.next, stA hH_st3 407 w os, cdA, ⟨23, 0, 67, 55⟩) := by
  rw [PySem.W.Fast.te14374325043358763698, PySem.W.Fast.te14364793385576792824]; kernel_rfl
end Mine

/- Run3 -/
namespace Mine
open PySem PySem.W PyProof.Rows
set_option Elab.async false
set_option maxRecDepth 100000
set_option maxHeartbeats 8000000

theorem run_3 (w : World) (os : OsState) : segRun treeTable pwA w 11 (some (.ref 6)) 1 600 (stA hH_st3 407 w os) (piecesOf [sA4, sA5, sA6, sA7, sA8, sA9, sA10, sA11, sA12, sA13, sA14, sA15, sA16, sA17, sA18] envA cdA ⟨23, 0, 67, 55⟩ [topFrame z0]) = some (.next, stA hH_fin 523 w os, cdA, ⟨185, 0, 196, 91⟩) := by
  rw [PySem.W.Fast.te14374325043358763698, PySem.W.Fast.te14364793385576792824]; kernel_rfl
theorem run_fin (w : World) (os : OsState) : topRun treeTable pwA w 11 (some (.ref 6)) 2 (stA hH_fin 523 w os) ⟨doneF .next, cdA, ⟨185, 0, 196, 91⟩, [topFrame z0]⟩ = some (stA hH_fin 523 w os) := by kernel_rfl
end Mine

/- Lok -/
namespace Mine
open PySem PySem.W PyProof.Rows
set_option Elab.async false
set_option maxRecDepth 100000
set_option maxHeartbeats 8000000

def viewA : Program := { pwA with main := { pwA.main with body := [sA0, sA2, sA3, sA4, sA5, sA6, sA8, sA9, sA11, sA12, sA13, sA14, sA15, sA16, sA17, sA18] } }
def looseA : List Str := [Str.ofString "_tuplegetter", Str.ofString "_ExceptionTableEntryBase"]
theorem keysA : ∀ P : Params, (nat_lit 2 :: nat_lit 3 :: nat_lit 81 :: nat_lit 82 :: nat_lit 140 :: nat_lit 141 :: nat_lit 142 :: nat_lit 153 :: nat_lit 154 :: nat_lit 163 :: nat_lit 164 :: nat_lit 170 :: nat_lit 171 :: nat_lit 177 :: nat_lit 178 :: nat_lit 182 :: nat_lit 183 :: nat_lit 187 :: nat_lit 188 :: nat_lit 194 :: nat_lit 195 :: nat_lit 199 :: nat_lit 200 :: nat_lit 204 :: nat_lit 205 :: nat_lit 209 :: nat_lit 210 :: nat_lit 214 :: nat_lit 215 :: nat_lit 219 :: nat_lit 220 :: nat_lit 224 :: nat_lit 225 :: []) = (kK P).map (·.1) := fun _ => by kernel_rfl
def hookA : Hook := kmHook kK (nat_lit 2 :: nat_lit 3 :: nat_lit 81 :: nat_lit 82 :: nat_lit 140 :: nat_lit 141 :: nat_lit 142 :: nat_lit 153 :: nat_lit 154 :: nat_lit 163 :: nat_lit 164 :: nat_lit 170 :: nat_lit 171 :: nat_lit 177 :: nat_lit 178 :: nat_lit 182 :: nat_lit 183 :: nat_lit 187 :: nat_lit 188 :: nat_lit 194 :: nat_lit 195 :: nat_lit 199 :: nat_lit 200 :: nat_lit 204 :: nat_lit 205 :: nat_lit 209 :: nat_lit 210 :: nat_lit 214 :: nat_lit 215 :: nat_lit 219 :: nat_lit 220 :: nat_lit 224 :: nat_lit 225 :: []) keysA [nat_lit 197]

abbrev xtA : Shared → Bool := fun s => xlAt viewA [] s && recOk (RowW.records rwA.row.toRowW) s
theorem look_1 (w : World) (os : OsState) : (staticsOk (importedModules pwA.main.body) (boot_heap w.params) (hH_fin w.params) && namesBound pwA (hH_fin w.params) && gensDone (stA hH_fin 523 w os) && laidKept (boot_heap w.params) (hH_fin w.params)) = true := by kernel_rfl
theorem look_3 (w : World) (os : OsState) : Hook.obs hookA (stA hH_fin 523 w os) = Hook.val hookA w := by kernel_rfl
theorem look_2 (w : World) (os : OsState) : openSeen viewA looseA (importedModules pwA.main.body) xtA true (stA hH_fin 523 w os) = openGood viewA looseA := by kernel_rfl
theorem run_all (w : World) (os : OsState) : topRun treeTable pwA w 11 (some (.ref 6)) (12 + (1 + (362 + (1341 + (600 + 2))))) ⟨boot_heap w.params, #[], boot_drawn, boot_toks, os⟩ (topStub pwA) = some (stA hH_fin 523 w os) :=
  go_top (run_pre w os) (piece_block (run_block w os) (piece_app (l := [sA0, sA1, sA2]) (rest := [sA3, sA4, sA5, sA6, sA7, sA8, sA9, sA10, sA11, sA12, sA13, sA14, sA15, sA16, sA17, sA18]) (run_1 w os) (piece_app (l := [sA3]) (rest := [sA4, sA5, sA6, sA7, sA8, sA9, sA10, sA11, sA12, sA13, sA14, sA15, sA16, sA17, sA18]) (run_2 w os) (piece_app (l := [sA4, sA5, sA6, sA7, sA8, sA9, sA10, sA11, sA12, sA13, sA14, sA15, sA16, sA17, sA18]) (rest := []) (run_3 w os) (piece_nil (run_fin w os))))))
theorem bootA : ∀ w : World, (fencedOpening treeTable pwA w 4692).map (fun s => (s.heap, s.gens, s.drawn, s.toks)) = some (boot_heap w.params, Array.mk [], boot_drawn, boot_toks) := boot_open rfl rfl fun _ => rfl
theorem sizeA (w : World) : ((boot_heap w.params).isNs mainGlobals && (Array.mk [] : Array GenState).size == 0, (boot_heap w.params).objs.size, (boot_heap w.params).nsMap mainGlobals "__annotations__") = (true, 11, some (.ref 6)) := by kernel_rfl
/-- the top's run, in pieces, and what is seen behind it -/
theorem leftA : LeftO rwA.row.prog viewA looseA xtA (Hook.obs hookA) (Hook.val hookA) 4692 true :=
  LeftO.of_pieces (H₀ := boot_heap) (H₁ := hH_fin) bootA sizeA run_all rfl fun w => funext fun os => Prod.ext (look_1 w os) (Prod.ext (look_2 w os) (look_3 w os))
end Mine

/- Gnd -/
namespace Mine
open PySem PySem.W PySem.Calls PySem.Spec PyProof.Rows
set_option Elab.async false
set_option linter.unusedVariables false
set_option maxRecDepth 100000
set_option maxHeartbeats 4000000

section
variable (prog : Program) (w : World) (p : Program) (loose : List Str) (mean : ExcName → Option Value) (mg mb : Str → Option Value)
/-- the ground that the top has built -/
abbrev gr : Gd := { prog := prog, w := w, K := kK w.params, p := p, loose := loose, mean := mean, mg := mg, mb := mb }

theorem gr_F8 : Fd (gr prog w p loose mean mg mb) "parse_keqv_list" 8 178 (.ref 177) := ⟨by kernel_rfl, ⟨_, _, _, _, _, _, _, by rfl⟩, by kernel_rfl⟩
theorem gr_F9 : Fd (gr prog w p loose mean mg mb) "parse_http_list" 9 183 (.ref 182) := ⟨by kernel_rfl, ⟨_, _, _, _, _, _, _, by rfl⟩, by kernel_rfl⟩
theorem gr_F6 : Fd (gr prog w p loose mean mg mb) "_parse_exception_table" 6 171 (.ref 170) := ⟨by kernel_rfl, ⟨_, _, _, _, _, _, _, by rfl⟩, by kernel_rfl⟩
theorem gr_F11 : Fd (gr prog w p loose mean mg mb) "_law_blocks" 11 188 (.ref 187) := ⟨by kernel_rfl, ⟨_, _, _, _, _, _, _, by rfl⟩, by kernel_rfl⟩
theorem gr_F12 : Fd (gr prog w p loose mean mg mb) "_law_octets" 12 195 (.ref 194) := ⟨by kernel_rfl, ⟨_, _, _, _, _, _, _, by rfl⟩, by kernel_rfl⟩
theorem gr_F13 : Fd (gr prog w p loose mean mg mb) "_law_read" 13 200 (.ref 199) := ⟨by kernel_rfl, ⟨_, _, _, _, _, _, _, by rfl⟩, by kernel_rfl⟩
theorem gr_F14 : Fd (gr prog w p loose mean mg mb) "_law_marked" 14 205 (.ref 204) := ⟨by kernel_rfl, ⟨_, _, _, _, _, _, _, by rfl⟩, by kernel_rfl⟩
theorem gr_F15 : Fd (gr prog w p loose mean mg mb) "_law_bare" 15 210 (.ref 209) := ⟨by kernel_rfl, ⟨_, _, _, _, _, _, _, by rfl⟩, by kernel_rfl⟩
theorem gr_F16 : Fd (gr prog w p loose mean mg mb) "_law_cut" 16 215 (.ref 214) := ⟨by kernel_rfl, ⟨_, _, _, _, _, _, _, by rfl⟩, by kernel_rfl⟩
theorem gr_F17 : Fd (gr prog w p loose mean mg mb) "_law_told" 17 220 (.ref 219) := ⟨by kernel_rfl, ⟨_, _, _, _, _, _, _, by rfl⟩, by kernel_rfl⟩
theorem gr_V : Fd (gr prog w p loose mean mg mb) "_parse_varint" 5 164 (.ref 163) := ⟨by kernel_rfl, ⟨_, _, _, _, _, _, _, by rfl⟩, by kernel_rfl⟩
theorem gr_bA : Bn (gr prog w p loose mean mg mb) "abs" (.builtin "abs") := ⟨by kernel_rfl, by kernel_rfl, by decide⟩
theorem gr_bR : Bn (gr prog w p loose mean mg mb) "range" (.type "range") := ⟨by kernel_rfl, by kernel_rfl, by decide⟩
theorem gr_bL : Bn (gr prog w p loose mean mg mb) "len" (.builtin "len") := ⟨by kernel_rfl, by kernel_rfl, by decide⟩
theorem gr_bS : Bn (gr prog w p loose mean mg mb) "str" (.type "str") := ⟨by kernel_rfl, by kernel_rfl, by decide⟩
theorem gr_bC : Bn (gr prog w p loose mean mg mb) "chr" (.builtin "chr") := ⟨by kernel_rfl, by kernel_rfl, by decide⟩
theorem gr_bO : Bn (gr prog w p loose mean mg mb) "ord" (.builtin "ord") := ⟨by kernel_rfl, by kernel_rfl, by decide⟩
theorem gr_bY : Bn (gr prog w p loose mean mg mb) "bytes" (.type "bytes") := ⟨by kernel_rfl, by kernel_rfl, by decide⟩
theorem gr_bLi : Bn (gr prog w p loose mean mg mb) "list" (.type "list") := ⟨by kernel_rfl, by kernel_rfl, by decide⟩
theorem gr_bT : Bn (gr prog w p loose mean mg mb) "tuple" (.type "tuple") := ⟨by kernel_rfl, by kernel_rfl, by decide⟩
theorem gr_bN : Bn (gr prog w p loose mean mg mb) "next" (.builtin "next") := ⟨by kernel_rfl, by kernel_rfl, by decide⟩
theorem gr_bI : Bn (gr prog w p loose mean mg mb) "iter" (.builtin "iter") := ⟨by kernel_rfl, by kernel_rfl, by decide⟩
theorem gr_bB : Bn (gr prog w p loose mean mg mb) "bool" (.type "bool") := ⟨by kernel_rfl, by kernel_rfl, by decide⟩
theorem gr_bSI : Bn (gr prog w p loose mean mg mb) "StopIteration" (.type "StopIteration") := ⟨by kernel_rfl, by kernel_rfl, by decide⟩
theorem gr_C : Ce (gr prog w p loose mean mg mb) := ⟨by kernel_rfl, by kernel_rfl, by kernel_rfl, by kernel_rfl, by kernel_rfl, by kernel_rfl, by kernel_rfl, by kernel_rfl, by kernel_rfl⟩
theorem gr_F82 : Fq (gr prog w p loose mean mg mb) 82 "__new__" "_ExceptionTableEntryBase.__new__" (argsOf newSt) (bodyOf newSt) (scopeOf newSt) (.ref 81) := ⟨⟨_, _, _, _, _, _, _, by rfl⟩, by kernel_rfl⟩
theorem gr_T : Tg (gr prog w p loose mean mg mb) where
  C := gr_C prog w p loose mean mg mb
  F := ⟨_, gr_F82 prog w p loose mean mg mb⟩
  V := ⟨_, _, gr_V prog w p loose mean mg mb⟩
  bT := gr_bT prog w p loose mean mg mb
  e154 := by kernel_rfl
  bN := gr_bN prog w p loose mean mg mb
  bI := gr_bI prog w p loose mean mg mb
  bB := gr_bB prog w p loose mean mg mb
  bS := gr_bSI prog w p loose mean mg mb
theorem gr_L : Lg (gr prog w p loose mean mg mb) where
  T := gr_T prog w p loose mean mg mb
  F8 := ⟨_, _, gr_F8 prog w p loose mean mg mb⟩
  F9 := ⟨_, _, gr_F9 prog w p loose mean mg mb⟩
  F6 := ⟨_, _, gr_F6 prog w p loose mean mg mb⟩
  F11 := ⟨_, _, gr_F11 prog w p loose mean mg mb⟩
  F12 := ⟨_, _, gr_F12 prog w p loose mean mg mb⟩
  F13 := ⟨_, gr_F13 prog w p loose mean mg mb⟩
  F14 := ⟨_, _, gr_F14 prog w p loose mean mg mb⟩
  F15 := ⟨_, _, gr_F15 prog w p loose mean mg mb⟩
  F16 := ⟨_, _, gr_F16 prog w p loose mean mg mb⟩
  F17 := ⟨_, _, gr_F17 prog w p loose mean mg mb⟩
  bA := gr_bA prog w p loose mean mg mb
  bR := gr_bR prog w p loose mean mg mb
  bL := gr_bL prog w p loose mean mg mb
  bS := gr_bS prog w p loose mean mg mb
  bC := gr_bC prog w p loose mean mg mb
  bO := gr_bO prog w p loose mean mg mb
  bY := gr_bY prog w p loose mean mg mb
  bLi := gr_bLi prog w p loose mean mg mb
end
end Mine

/- Ltop -/
namespace Mine
open PySem PySem.W PySem.Calls PySem.Spec PyProof.Rows
set_option Elab.async false
set_option linter.unusedVariables false
set_option maxRecDepth 100000
set_option maxHeartbeats 4000000

theorem rdAll_ints {W : List Addr} {s : Shared} : ∀ {vs : List Value} {xs : List Int}, IntsAre vs xs → RdAll W s vs (xs.map .int)
  | _, _, .nil => .nil
  | _, _, .cons _ _ h => RdAll.cons Rd.int (rdAll_ints h)

theorem law_top {prog : Program} {w : World} {p : Program} {loose : List Str} {mean : ExcName → Option Value} {mg mb : Str → Option Value} {s₁ : Shared} {tk : Nat} {h₁ : Heap} {fa a L : Addr} {cd : Value} {vs : List Value} {xs : List Int} {ob orr : Obj} {mL : Str → Option Value}
    (X : (kK w.params).In (hideAll s₁.heap [tT])) (T : Top p loose mean mg mb (hideAll s₁.heap [tT])) (F : Fr (hideAll s₁.heap [tT]) L h₁ mL) (N : News (hideAll s₁.heap [tT]) L h₁ [(L + 1 + 1, ob), (L + 1, orr), (tT, tabObj #[])])
    (hT : s₁.heap.get? tT = some (tabObj #[])) (hc : CodeHd (hideAll s₁.heap [tT]) tC tT) (hl : (hideAll s₁.heap [tT]).IsList a vs.toArray) (hI : IntsAre vs xs) (hm : mL "script" = some (.ref a)) (db : ob.data = .cell none) (dr : orr.data = .cell none) (hx : xs.length ≤ 63) {E : Value → Shared → Prop} :
    wpAny (model prog w) (callerA.deeper (envX "law" (fScope 18) L fa cd [(("book" : Str), L + 1 + 1), (("rows" : Str), L + 1)])) (execs (fBody 18) (envX "law" (fScope 18) L fa cd [(("book" : Str), L + 1 + 1), (("rows" : Str), L + 1)])) (fun fl s' => fl = .ret (.bool true) ∧ Kept [tT] s₁ s') E { s₁ with heap := h₁, toks := tk } := by
  have hsz : s₁.heap.objs.size ≤ L := by have := F.above; rwa [hideAll_size] at this
  have none_of : ∀ b, s₁.heap.objs.size ≤ b → s₁.heap.get? b = none := fun b hb => by
    cases e : s₁.heap.get? b with
    | none => rfl
    | some o => exact absurd (Heap.lt_size e) (Nat.not_lt.mpr hb)
  have lT : tT < s₁.heap.objs.size := Heap.lt_size hT
  have hLT : L ≠ tT := neN fun q => by rw [q] at hsz; exact absurd lT (Nat.not_lt.mpr hsz)
  have hbT : L + 1 + 1 ≠ tT := neN fun q => by have h2 : s₁.heap.objs.size ≤ L + 1 + 1 := by omega
                                               rw [q] at h2; exact absurd lT (Nat.not_lt.mpr h2)
  have hrT : L + 1 ≠ tT := neN fun q => by have h2 : s₁.heap.objs.size ≤ L + 1 := by omega
                                           rw [q] at h2; exact absurd lT (Nat.not_lt.mpr h2)
  have eT : h₁.get? tT = some (tabObj #[]) := (N (tT, tabObj #[]) (by simp)).1
  have eb : h₁.get? (L + 1 + 1) = some ob := (N (L + 1 + 1, ob) (by simp)).1
  have er : h₁.get? (L + 1) = some orr := (N (L + 1, orr) (by simp)).1
  have tab₀ : TabOk s₁.heap := ⟨#[], hT, .inl rfl⟩
  have tab₁ : TabOk h₁ := ⟨#[], eT, .inl rfl⟩
  have keep : ∀ b o, b ∉ [tT] → s₁.heap.get? b = some o → h₁.get? b = some o := fun b o hb e => F.keep b o (hideAll_get _ e hb)
  have new : ∀ b ∈ [L, L + 1 + 1, L + 1], s₁.heap.get? b = none := fun b hb => none_of b (by simp at hb; rcases hb with h | h | h <;> subst h <;> omega)
  have grow : ∀ b o, (hideAll s₁.heap [tT]).get? b = some o → (hideAll h₁ ([L, L + 1 + 1, L + 1] ++ [tT])).get? b = some o := hide_grow keep new
  have kept : Kept [tT] s₁ { s₁ with heap := h₁, toks := tk } := ⟨⟨h₁, tk, rfl⟩, keep, fun b o hb hne _ => absurd (List.mem_singleton.mp hb) hne, fun _ => tab₁⟩
  obtain ⟨oL, es, ep, eL, dL, rL⟩ := F.ns
  refine law_walk (g := gr prog w p loose mean mg mb) (gr_L prog w p loose mean mg mb) rfl ⟨rfl, by show 1 + claimMargin + 1 + 10 < recursionLimit; decide, by show 4 + 3 + 10 * 10 + 200 < cLine; decide⟩ hx ⟨kept, new, ⟨⟨by simp, tab₁, ?_, ⟨X.keeps grow, T.keeps grow, hc.keeps grow, fun p hp => nomatch hp⟩, ?_⟩, ?_, ?_⟩, ⟨_, F.ns⟩, .head _, ⟨by simp, tab₀, ?_⟩⟩ ⟨ob, eb, db⟩ ⟨orr, er, dr⟩ ?_ ?_ ?_
  · intro b hb
    simp at hb
    rcases hb with h | h | h | h <;> subst h
    · exact ⟨_, eL⟩
    · exact ⟨_, eb⟩
    · exact ⟨_, er⟩
    · exact ⟨_, eT⟩
  · refine ⟨fun h => ?_, fun h => by cases h⟩
    have h : Mk [tT] := h.un fun b hb => by simp at hb; rcases hb with h | h | h <;> subst h <;> assumption
    exact absurd h (by unfold Mk; decide)
  · refine ⟨[_], Around.frames_deeper rfl, fun env he => ?_⟩
    rw [List.mem_singleton.mp he]
    exact ⟨by show (fScope 18).kind ≠ .module; decide, L, oL, es, ep, rfl, by simp, hLT, eL, dL⟩
  · intro p hp
    rw [List.mem_singleton.mp hp]
    refine ⟨.ref a, .loc mL rfl hLT F.ns hm, Rd.list_mk (vs := vs) ?_ ?_ (rdAll_ints hI)⟩
    · obtain ⟨o, e, r⟩ := hl; exact ⟨o, F.keep _ _ e, r⟩
    · obtain ⟨o, e, r⟩ := hl
      intro hq
      have e2 := of_hideAll _ e
      rcases List.mem_append.mp hq with h | h
      · rw [new a h] at e2; cases e2
      · rw [hideAll_none _ h] at e; cases e
  · intro b hb
    rw [List.mem_singleton.mp hb]; exact ⟨_, hT⟩
  · exact neN (by show @Ne Nat (L + 1 + 1) L; omega)
  · exact neN (by show @Ne Nat (L + 1) L; omega)
  · exact neN (by show @Ne Nat (L + 1 + 1) (L + 1); omega)
end Mine

/- Join2 -/
open PySem PySem.W PySem.Calls PySem.Spec PyProof.Rows
set_option Elab.async false
set_option maxRecDepth 100000
set_option maxHeartbeats 8000000
open Mine in
theorem Mine.holdsA : Mine.rwA.Holds := by
  w_on
  o_law
  refine holds_open (q := viewA) (loose := looseA) (Xt := fun s => xlAt viewA [] s && recOk (RowW.records rwA.row.toRowW) s) (XP := XL viewA []) (Yf := Hook.obs (kmHook kK (nat_lit 2 :: nat_lit 3 :: nat_lit 81 :: nat_lit 82 :: nat_lit 140 :: nat_lit 141 :: nat_lit 142 :: nat_lit 153 :: nat_lit 154 :: nat_lit 163 :: nat_lit 164 :: nat_lit 170 :: nat_lit 171 :: nat_lit 177 :: nat_lit 178 :: nat_lit 182 :: nat_lit 183 :: nat_lit 187 :: nat_lit 188 :: nat_lit 194 :: nat_lit 195 :: nat_lit 199 :: nat_lit 200 :: nat_lit 204 :: nat_lit 205 :: nat_lit 209 :: nat_lit 210 :: nat_lit 214 :: nat_lit 215 :: nat_lit 219 :: nat_lit 220 :: nat_lit 224 :: nat_lit 225 :: []) keysA [nat_lit 197])) (Ya := Hook.val (kmHook kK (nat_lit 2 :: nat_lit 3 :: nat_lit 81 :: nat_lit 82 :: nat_lit 140 :: nat_lit 141 :: nat_lit 142 :: nat_lit 153 :: nat_lit 154 :: nat_lit 163 :: nat_lit 164 :: nat_lit 170 :: nat_lit 171 :: nat_lit 177 :: nat_lit 178 :: nat_lit 182 :: nat_lit 183 :: nat_lit 187 :: nat_lit 188 :: nat_lit 194 :: nat_lit 195 :: nat_lit 199 :: nat_lit 200 :: nat_lit 204 :: nat_lit 205 :: nat_lit 209 :: nat_lit 210 :: nat_lit 214 :: nat_lit 215 :: nat_lit 219 :: nat_lit 220 :: nat_lit 224 :: nat_lit 225 :: []) keysA [nat_lit 197])) (YP := Hook.says (kmHook kK (nat_lit 2 :: nat_lit 3 :: nat_lit 81 :: nat_lit 82 :: nat_lit 140 :: nat_lit 141 :: nat_lit 142 :: nat_lit 153 :: nat_lit 154 :: nat_lit 163 :: nat_lit 164 :: nat_lit 170 :: nat_lit 171 :: nat_lit 177 :: nat_lit 178 :: nat_lit 182 :: nat_lit 183 :: nat_lit 187 :: nat_lit 188 :: nat_lit 194 :: nat_lit 195 :: nat_lit 199 :: nat_lit 200 :: nat_lit 204 :: nat_lit 205 :: nat_lit 209 :: nat_lit 210 :: nat_lit 214 :: nat_lit 215 :: nat_lit 219 :: nat_lit 220 :: nat_lit 224 :: nat_lit 225 :: []) keysA [nat_lit 197])) (N := 4692) leftA (Hook.of (kmHook kK (nat_lit 2 :: nat_lit 3 :: nat_lit 81 :: nat_lit 82 :: nat_lit 140 :: nat_lit 141 :: nat_lit 142 :: nat_lit 153 :: nat_lit 154 :: nat_lit 163 :: nat_lit 164 :: nat_lit 170 :: nat_lit 171 :: nat_lit 177 :: nat_lit 178 :: nat_lit 182 :: nat_lit 183 :: nat_lit 187 :: nat_lit 188 :: nat_lit 194 :: nat_lit 195 :: nat_lit 199 :: nat_lit 200 :: nat_lit 204 :: nat_lit 205 :: nat_lit 209 :: nat_lit 210 :: nat_lit 214 :: nat_lit 215 :: nat_lit 219 :: nat_lit 220 :: nat_lit 224 :: nat_lit 225 :: []) keysA [nat_lit 197])) (Hook.keeps (kmHook kK (nat_lit 2 :: nat_lit 3 :: nat_lit 81 :: nat_lit 82 :: nat_lit 140 :: nat_lit 141 :: nat_lit 142 :: nat_lit 153 :: nat_lit 154 :: nat_lit 163 :: nat_lit 164 :: nat_lit 170 :: nat_lit 171 :: nat_lit 177 :: nat_lit 178 :: nat_lit 182 :: nat_lit 183 :: nat_lit 187 :: nat_lit 188 :: nat_lit 194 :: nat_lit 195 :: nat_lit 199 :: nat_lit 200 :: nat_lit 204 :: nat_lit 205 :: nat_lit 209 :: nat_lit 210 :: nat_lit 214 :: nat_lit 215 :: nat_lit 219 :: nat_lit 220 :: nat_lit 224 :: nat_lit 225 :: []) keysA [nat_lit 197])) (fun s e => xl_of s (Bool.and_eq_true_iff.mp e).1) XL.keeps (by rfl) (by rfl) (by rfl) (fun s e => recFacts_of (Bool.and_eq_true_iff.mp e).2) (by rfl) (by first | assumption | decide +kernel) (by decide +kernel) ⟨rfl, rfl, rfl, rfl, rfl, by decide +kernel⟩ ?hw ?hc
  case hw => w_witness2
  w_strict k_go0
  all_goals try k_fold
  rename_i w s₀ s₁ mg mb _ _ fa o pm cd doc _ _ hg _ _ _ _ _ _ xs _ _ _ _ _ _ _ a vs _ _ _ _ _ hI _ hcond _ _ h₁ tk₁ ob orr db dr _ X T _ F N _
  refine wpAny_mono (Mine.law_top X T F N (hT8 _ (by simp)) codeHd lifted hI rfl db dr (by omega)) (fun fl s' ⟨e, k⟩ => ?_) fun _ _ h => h
  subst e
  obtain ⟨⟨h', tk', e1⟩, keep, _, tab⟩ := k
  obtain ⟨ps, e2, _⟩ := tab ⟨#[], hT8 _ (by simp), .inl rfl⟩
  have fr : ∀ b o, (ghostOf s₁.heap [(199, 197)]).get? b = some o → s'.heap.get? b = some o := fun b o e => keep b o (fun hb => by rw [show (ghostOf s₁.heap [(199, 197)]).get? b = none from hideAll_none _ hb] at e; cases e) (of_hideAll _ e)
  refine ⟨⟨.inl ⟨.bool true, .bool true, [], rfl, fun _ => ?_, .bool _, ?_, ?_⟩, fr, by rw [e1], by rw [e1]; exact hg⟩, ⟨ps, e2⟩, True.intro⟩
  · rfl
  · exact postW_of (by rfl) (by wtm_val) rfl
  · exact fun _ => ⟨.nil, fun _ h => nomatch h⟩
theorem PySem.Challenge.cw_il0211_01_holds : PySem.Challenge.rw_il0211_01.Holds := by
  exact Mine.rwA_eq ▸ Mine.holdsA
